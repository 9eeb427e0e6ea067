import JvmDerived
import JvmDerived.Pilot.@@N@@Statement
import JvmDerived.Pilot.@@N@@Code
set_option linter.unusedVariables false
set_option linter.unusedSimpArgs false
@@BLOCK:NumsL.lean.txt@@
/- laws to paste: Road.backV (cut by pick.py; bodies as the Statement names them) -/
namespace Jvm.Pilot.@@N@@
namespace StrChars
open Jvm Sem ClassFile Op Lib Jvm.Stand Jvm.Free.XT Jvm.Free.ALB Jvm.Free.JM Jvm.Free
open Jvm.Lib.Cold (StaticIs)
/-- a char array whose places are chars -/
def Ch (a : Addr) (A : Cell) (U : State) : Prop := Arr .char a A U ∧ Typed .char A
theorem Ch.mv {a : Addr} {A : Cell} {U U' : State} (h : Ch a A U) (hal : U.vm.Alike U'.vm) (hh : U'.heap = U.heap) : Ch a A U' := ⟨h.1.mv hal hh, h.2⟩
theorem Ch.keep {a : Addr} {A : Cell} {U U' : State} (h : Ch a A U) (hal : U.vm.Alike U'.vm) (hk : U'.heap[a]? = some A) : Ch a A U' := ⟨h.1.keep hal hk, h.2⟩
/-- what place i of a char[]'s cell holds -/
def cv (A : Cell) (i : Nat) : Int32 := match A.slots[i]? with | some (.int x) => x | _ => 0
theorem Ch.get {a : Addr} {A : Cell} {U : State} (h : Ch a A U) {i : Nat} (hi : i < A.slots.size) : A.slots[i]? = some (.int (cv A i)) := by
  have e := Array.getElem?_eq_getElem hi
  have f := h.2 i _ e
  unfold cv; rw [e]
  generalize A.slots[i] = v at f
  cases v <;> simp [fits] at f ⊢
/-- the byte that i2b leaves of a char -/
def lo8 (x : Int32) : Int32 := x.toInt8.toInt32
theorem fits_lo8 (y : Int32) : fits .byte (.int (lo8 y)) = true := by
  have h1 := y.toInt8.le_toInt
  have h2 := y.toInt8.toInt_lt
  simp only [lo8, fits, Bool.and_eq_true, decide_eq_true_eq, Int32.le_iff_toInt_le, Int8.toInt_toInt32, show (-128 : Int32).toInt = -128 from by decide, show (127 : Int32).toInt = 127 from by decide]
  omega
/-- A' is A but that each place j of lo .. hi - 1 holds f j -/
def Laid (A A' : Cell) (lo hi : Nat) (f : Nat → Value) : Prop := A'.cls = A.cls ∧ A'.vm = A.vm ∧ A'.slots.size = A.slots.size ∧ ∀ i, A'.slots[i]? = if lo ≤ i ∧ i < hi then some (f i) else A.slots[i]?
theorem Laid.zero (A : Cell) (lo : Nat) (f : Nat → Value) : Laid A A lo (lo + 0) f := ⟨rfl, rfl, rfl, fun i => by rw [if_neg (by omega)]⟩
theorem Laid.step {A Ak : Cell} {lo k : Nat} {f : Nat → Value} {v : Value} (h : Laid A Ak lo k f) (hlo : lo ≤ k) (hk : k < Ak.slots.size) (hv : v = f k) : Laid A (Ak.setSlot k v) lo (k + 1) f := by
  refine ⟨h.1, h.2.1, by simpa [Cell.setSlot] using h.2.2.1, fun i => ?_⟩
  by_cases e : k = i
  · subst e; rw [Cell.slots_setSlot_self v hk, if_pos (by omega), hv]
  · rw [Cell.slots_setSlot_ne v e, h.2.2.2 i]
    by_cases q : lo ≤ i ∧ i < k
    · rw [if_pos q, if_pos (by omega)]
    · rw [if_neg q, if_neg (by omega)]
def U16 : String := "java/lang/StringUTF16"
namespace Cmp5
def yN : MethodName := ⟨"java/lang/StringUTF16", "compress", "([CI[BII)I"⟩
abbrev yB : ByteArray := jdk_52_method_21_code
theorem d0 : decode yB 0 = .ok (.iconst 0, 1) := by decide +kernel
theorem d1 : decode yB 1 = .ok (.istore 5, 2) := by decide +kernel
theorem d3 : decode yB 3 = .ok (.iload 5, 2) := by decide +kernel
theorem d5 : decode yB 5 = .ok (.iload 4, 2) := by decide +kernel
theorem d7 : decode yB 7 = .ok (.if_icmp (.ge) 37, 3) := by decide +kernel
theorem d10 : decode yB 10 = .ok (.aload_n 0, 1) := by decide +kernel
theorem d11 : decode yB 11 = .ok (.iload_n 1, 1) := by decide +kernel
theorem d12 : decode yB 12 = .ok (.caload, 1) := by decide +kernel
theorem d13 : decode yB 13 = .ok (.istore 6, 2) := by decide +kernel
theorem d15 : decode yB 15 = .ok (.iload 6, 2) := by decide +kernel
theorem d17 : decode yB 17 = .ok (.sipush 255, 3) := by decide +kernel
theorem d20 : decode yB 20 = .ok (.if_icmp (.le) 6, 3) := by decide +kernel
theorem d26 : decode yB 26 = .ok (.aload_n 2, 1) := by decide +kernel
theorem d27 : decode yB 27 = .ok (.iload_n 3, 1) := by decide +kernel
theorem d28 : decode yB 28 = .ok (.iload 6, 2) := by decide +kernel
theorem d30 : decode yB 30 = .ok (.i2b, 1) := by decide +kernel
theorem d31 : decode yB 31 = .ok (.bastore, 1) := by decide +kernel
theorem d32 : decode yB 32 = .ok (.iinc 1 1, 3) := by decide +kernel
theorem d35 : decode yB 35 = .ok (.iinc 3 1, 3) := by decide +kernel
theorem d38 : decode yB 38 = .ok (.iinc 5 1, 3) := by decide +kernel
theorem d41 : decode yB 41 = .ok (.goto (-38), 3) := by decide +kernel
theorem d44 : decode yB 44 = .ok (.iload 4, 2) := by decide +kernel
theorem d46 : decode yB 46 = .ok (.ireturn, 1) := by decide +kernel
def site : List Cond := []
def tab : Cond := tabOf yN yB 7 (some .int) site
def P (b : Addr) (A : Cell) (d : Addr) (B : Cell) (o q len : Nat) (args : Array Value) (s : State) : Prop := args = #[.ref b, .int (Int32.ofNat o), .ref d, .int (Int32.ofNat q), .int (Int32.ofNat len)] ∧ Ch b A s ∧ Arr .byte d B s ∧ b ≠ d ∧ o + len ≤ A.slots.size ∧ q + len ≤ B.slots.size ∧ ∀ i, i < len → ¬ 255 < cv A (o + i)
def E (b : Addr) (A : Cell) (d : Addr) (B : Cell) (o q len : Nat) (r : Option Value) (s u : State) : Prop := r = some (.int (Int32.ofNat len)) ∧ ∃ B', Put d B' s u ∧ Laid B B' q (q + len) (fun j => Value.int (lo8 (cv A (o + (j - q)))))
/-- no char of the range above 255: len; the places written hold each char's low byte -/
theorem law (l : Launch) (b : Addr) (A : Cell) (d : Addr) (B : Cell) (o q len : Nat) : Law l yN 5 5 0 0 yB 7 (some .int) site (P b A d B o q len) (E b A d B o q len) (copyLocs d q len) 0 0 := by
  refine Law.of_walk (plainFor_of_name (by decide +kernel)) (by decide +kernel) (by decide +kernel) (by decide) (fun _ _ h => by rw [h.1]; rfl) (fun _ U U' hal hh h => ⟨h.1, h.2.1.mv hal hh, h.2.2.1.mv hal hh, h.2.2.2⟩) (fun r U U' V V' h1 hal h2 h => ⟨h.1, h.2.elim fun B' q => ⟨B', q.1.mv h1 h2, q.2⟩⟩) ?_
  intro p e s m args below meth c s₁ X0 hexec hbytes hml hret hlk hnm hown hh0 W hP
  obtain ⟨rfl, hA, hB, hne, l1, l2, hp⟩ := hP
  have c1 : Steps p.tables e below (s₁.setTop (entryFrame m #[.ref b, .int (Int32.ofNat o), .ref d, .int (Int32.ofNat q), .int (Int32.ofNat len)] 7)) (s₁.setTop (mkF m 0 #[.val (.ref b), .val (.int (Int32.ofNat o)), .val (.ref d), .val (.int (Int32.ofNat q)), .val (.int (Int32.ofNat len)), .unset, .unset] [])) := entry rfl
  have hA0 := hA.1.mv X0.warmed.alike hh0
  have hB0 := hB.mv X0.warmed.alike hh0
  have a31 := hA.1.2.2.2
  have c2 : Steps p.tables e below (s₁.setTop (entryFrame m #[.ref b, .int (Int32.ofNat o), .ref d, .int (Int32.ofNat q), .int (Int32.ofNat len)] 7)) (s₁.setTop (mkF m 3 #[.val (.ref b), .val (.int (Int32.ofNat o)), .val (.ref d), .val (.int (Int32.ofNat q)), .val (.int (Int32.ofNat len)), .val (.int 0), .unset] [])) := c1.trans (by
    refine iconstV X0.here hexec rfl 0 (hb hbytes d0) (by decide) ?_
    refine XS.istore X0.here hexec rfl (hb hbytes d1) rfl rfl ?_
    exact Steps.refl _)
  have loop : ∀ (r i : Nat), i + r = len → ∀ (z : Slot), (z = .unset ∨ ∃ w, z = .val w ∧ w.category = 1) → ∀ (Tl : State) (Bk : Cell), Stand p l e { frames := 0, locals := 0, cells := 0, slots := 0 } s m #[.ref b, .int (Int32.ofNat o), .ref d, .int (Int32.ofNat q), .int (Int32.ofNat len)] below meth c Tl ([] ++ copyLocs d q i) 0 0 → Put d Bk s₁ Tl → Laid B Bk q (q + i) (fun j => Value.int (lo8 (cv A (o + (j - q))))) →
      Steps p.tables e below (s₁.setTop (entryFrame m #[.ref b, .int (Int32.ofNat o), .ref d, .int (Int32.ofNat q), .int (Int32.ofNat len)] 7)) (Tl.setTop (mkF m 3 #[.val (.ref b), .val (.int (Int32.ofNat (o + i))), .val (.ref d), .val (.int (Int32.ofNat (q + i))), .val (.int (Int32.ofNat len)), .val (.int (Int32.ofNat i)), z] [])) → ∃ (T' : State) (B' : Cell) (z' : Slot), Stand p l e { frames := 0, locals := 0, cells := 0, slots := 0 } s m #[.ref b, .int (Int32.ofNat o), .ref d, .int (Int32.ofNat q), .int (Int32.ofNat len)] below meth c T' ([] ++ copyLocs d q len) 0 0 ∧ Put d B' s₁ T' ∧ Laid B B' q (q + len) (fun j => Value.int (lo8 (cv A (o + (j - q))))) ∧
      Steps p.tables e below (s₁.setTop (entryFrame m #[.ref b, .int (Int32.ofNat o), .ref d, .int (Int32.ofNat q), .int (Int32.ofNat len)] 7)) (T'.setTop (mkF m 3 #[.val (.ref b), .val (.int (Int32.ofNat (o + len))), .val (.ref d), .val (.int (Int32.ofNat (q + len))), .val (.int (Int32.ofNat len)), .val (.int (Int32.ofNat len)), z'] [])) := by
    intro r
    induction r with
    | zero =>
      intro i hi z hz Tl Bk Xl pl fl cl
      have hil : i = len := by omega
      rw [hil] at Xl fl cl
      exact ⟨Tl, Bk, z, Xl, pl, fl, cl⟩
    | succ r ih =>
      intro i hi z hz Tl Bk Xl pl fl cl
      have all := X0.warmed.alike.symm.trans Xl.warmed.alike
      have hAl := hA0.keep all (pl.other hne hA0.1)
      have hBk := hB0.like all pl.1 fl.1 fl.2.1 fl.2.2.1
      have hlt : q + i < Bk.slots.size := by rw [fl.2.2.1]; omega
      have c3 : Steps p.tables e below (s₁.setTop (entryFrame m #[.ref b, .int (Int32.ofNat o), .ref d, .int (Int32.ofNat q), .int (Int32.ofNat len)] 7)) (Tl.setTop (mkF m 12 #[.val (.ref b), .val (.int (Int32.ofNat (o + i))), .val (.ref d), .val (.int (Int32.ofNat (q + i))), .val (.int (Int32.ofNat len)), .val (.int (Int32.ofNat i)), z] [.int (Int32.ofNat (o + i)), .ref b])) := cl.trans (by
        refine XS.iload Xl.here hexec rfl (hb hbytes d3) rfl ?_
        refine XS.iload Xl.here hexec rfl (hb hbytes d5) rfl ?_
        refine XS.icmpNo Xl.here hexec rfl (hb hbytes d7) rfl (ii_ge_f (lt32 (by omega) (by omega))) ?_
        refine XS.aloadN Xl.here hexec rfl (hb hbytes d10) rfl rfl ?_
        refine XS.iloadN Xl.here hexec rfl (hb hbytes d11) rfl ?_
        exact Steps.refl _)
      have c4 : Steps p.tables e below (s₁.setTop (entryFrame m #[.ref b, .int (Int32.ofNat o), .ref d, .int (Int32.ofNat q), .int (Int32.ofNat len)] 7)) (Tl.setTop (mkF m 13 #[.val (.ref b), .val (.int (Int32.ofNat (o + i))), .val (.ref d), .val (.int (Int32.ofNat (q + i))), .val (.int (Int32.ofNat len)), .val (.int (Int32.ofNat i)), z] [.int (cv A (o + i))])) := c3.trans (by
        refine Xl.aget hexec hAl rfl (hA.get (i := o + i) (by omega)) rfl rfl (hb hbytes d12) ?_
        exact Steps.refl _)
      have c5 : Steps p.tables e below (s₁.setTop (entryFrame m #[.ref b, .int (Int32.ofNat o), .ref d, .int (Int32.ofNat q), .int (Int32.ofNat len)] 7)) (Tl.setTop (mkF m 15 #[.val (.ref b), .val (.int (Int32.ofNat (o + i))), .val (.ref d), .val (.int (Int32.ofNat (q + i))), .val (.int (Int32.ofNat len)), .val (.int (Int32.ofNat i)), .val (.int (cv A (o + i)))] [])) := c4.trans (by
        refine XS.istoreS Xl.here hexec rfl (hb hbytes d13) rfl rfl hz ?_
        exact Steps.refl _)
      have c6 : Steps p.tables e below (s₁.setTop (entryFrame m #[.ref b, .int (Int32.ofNat o), .ref d, .int (Int32.ofNat q), .int (Int32.ofNat len)] 7)) (Tl.setTop (mkF m 31 #[.val (.ref b), .val (.int (Int32.ofNat (o + i))), .val (.ref d), .val (.int (Int32.ofNat (q + i))), .val (.int (Int32.ofNat len)), .val (.int (Int32.ofNat i)), .val (.int (cv A (o + i)))] [.int (lo8 (cv A (o + i))), .int (Int32.ofNat (q + i)), .ref d])) := c5.trans (by
        refine XS.iload Xl.here hexec rfl (hb hbytes d15) rfl ?_
        refine sipushV Xl.here hexec rfl 255 (hb hbytes d17) (by decide) ?_
        refine XS.icmpYes Xl.here hexec rfl (pc0 := 20) rfl (hb hbytes d20) rfl (ii_le_t (hp i (by omega))) (by decide) rfl ?_
        refine XS.aloadN Xl.here hexec rfl (hb hbytes d26) rfl rfl ?_
        refine XS.iloadN Xl.here hexec rfl (hb hbytes d27) rfl ?_
        refine XS.iload Xl.here hexec rfl (hb hbytes d28) rfl ?_
        refine i2b Xl.here hexec rfl (hb hbytes d30) rfl ?_
        exact Steps.refl _)
      obtain ⟨T7, X7, p7, st7⟩ := Xl.aput hexec hBk rfl hlt rfl (fits_lo8 (cv A (o + i))) (g := (mkF m 31 #[.val (.ref b), .val (.int (Int32.ofNat (o + i))), .val (.ref d), .val (.int (Int32.ofNat (q + i))), .val (.int (Int32.ofNat len)), .val (.int (Int32.ofNat i)), .val (.int (cv A (o + i)))] [.int (lo8 (cv A (o + i))), .int (Int32.ofNat (q + i)), .ref d])) rfl (rest := []) rfl (hb hbytes d31)
      have c8 : Steps p.tables e below (s₁.setTop (entryFrame m #[.ref b, .int (Int32.ofNat o), .ref d, .int (Int32.ofNat q), .int (Int32.ofNat len)] 7)) (T7.setTop (mkF m 32 #[.val (.ref b), .val (.int (Int32.ofNat (o + i))), .val (.ref d), .val (.int (Int32.ofNat (q + i))), .val (.int (Int32.ofNat len)), .val (.int (Int32.ofNat i)), .val (.int (cv A (o + i)))] [])) := c6.trans (st7 _ (Steps.refl _))
      have c9 : Steps p.tables e below (s₁.setTop (entryFrame m #[.ref b, .int (Int32.ofNat o), .ref d, .int (Int32.ofNat q), .int (Int32.ofNat len)] 7)) (T7.setTop (mkF m 3 #[.val (.ref b), .val (.int (Int32.ofNat (o + i) + 1)), .val (.ref d), .val (.int (Int32.ofNat (q + i) + 1)), .val (.int (Int32.ofNat len)), .val (.int (Int32.ofNat i + 1)), .val (.int (cv A (o + i)))] [])) := c8.trans (by
        refine iincV X7.here hexec rfl 1 (hb hbytes d32) (by decide) rfl rfl ?_
        refine iincV X7.here hexec rfl 1 (hb hbytes d35) (by decide) rfl rfl ?_
        refine iincV X7.here hexec rfl 1 (hb hbytes d38) (by decide) rfl rfl ?_
        refine XS.goto X7.here hexec rfl (pc0 := 41) rfl (hb hbytes d41) (by decide) rfl ?_
        exact Steps.refl _)
      have c10 : Steps p.tables e below (s₁.setTop (entryFrame m #[.ref b, .int (Int32.ofNat o), .ref d, .int (Int32.ofNat q), .int (Int32.ofNat len)] 7)) (T7.setTop (mkF m 3 #[.val (.ref b), .val (.int (Int32.ofNat (o + (i + 1)))), .val (.ref d), .val (.int (Int32.ofNat (q + (i + 1)))), .val (.int (Int32.ofNat len)), .val (.int (Int32.ofNat (i + 1))), .val (.int (cv A (o + i)))] [])) := by
        have := c9
        rw [succ32, succ32, succ32] at this
        exact this
      exact ih (i + 1) (by omega) _ (Or.inr ⟨_, rfl, rfl⟩) T7 _ (by rw [copyLocs_step, ← List.append_assoc]; exact X7) (pl.trans p7) (fl.step (by omega) hlt (by simp)) c10
  obtain ⟨T9, B9, z9, X9, p9, f9, g9⟩ := loop len 0 (by omega) .unset (Or.inl rfl) s₁ B (by simpa [copyLocs] using X0) ⟨hB0.1, fun _ _ => rfl, rfl⟩ (Laid.zero _ _ _) c2
  have c11 : Steps p.tables e below (s₁.setTop (entryFrame m #[.ref b, .int (Int32.ofNat o), .ref d, .int (Int32.ofNat q), .int (Int32.ofNat len)] 7)) (T9.setTop (mkF m 46 #[.val (.ref b), .val (.int (Int32.ofNat (o + len))), .val (.ref d), .val (.int (Int32.ofNat (q + len))), .val (.int (Int32.ofNat len)), .val (.int (Int32.ofNat len)), z9] [.int (Int32.ofNat len)])) := g9.trans (by
    refine XS.iload X9.here hexec rfl (hb hbytes d3) rfl ?_
    refine XS.iload X9.here hexec rfl (hb hbytes d5) rfl ?_
    refine XS.icmpYes X9.here hexec rfl (pc0 := 7) rfl (hb hbytes d7) rfl (ii_ge_t (nlt32 (by omega) (Nat.le_refl _))) (by decide) rfl ?_
    refine XS.iload X9.here hexec rfl (hb hbytes d44) rfl ?_
    exact Steps.refl _)
  exact ⟨T9, some (.int (Int32.ofNat len)), _, _, _, X9, by simp, rfl, rfl, (fun h => by cases h), ⟨rfl, B9, p9.from hh0, f9⟩, fun fs hl => c11.trans (X9.ireturnOut hexec hret rfl (Or.inl rfl) (hb hbytes d46) hl)⟩
end Cmp5
namespace Cmp3
def yN : MethodName := ⟨"java/lang/StringUTF16", "compress", "([CII)[B"⟩
abbrev yB : ByteArray := jdk_52_method_16_code
theorem d0 : decode yB 0 = .ok (.iload_n 2, 1) := by decide +kernel
theorem d1 : decode yB 1 = .ok (.newarray .byte, 2) := by decide +kernel
theorem d3 : decode yB 3 = .ok (.astore_n 3, 1) := by decide +kernel
theorem d4 : decode yB 4 = .ok (.aload_n 0, 1) := by decide +kernel
theorem d5 : decode yB 5 = .ok (.iload_n 1, 1) := by decide +kernel
theorem d6 : decode yB 6 = .ok (.aload_n 3, 1) := by decide +kernel
theorem d7 : decode yB 7 = .ok (.iconst 0, 1) := by decide +kernel
theorem d8 : decode yB 8 = .ok (.iload_n 2, 1) := by decide +kernel
theorem d9 : decode yB 9 = .ok (.invokestatic 115, 3) := by decide +kernel
theorem d12 : decode yB 12 = .ok (.istore 4, 2) := by decide +kernel
theorem d14 : decode yB 14 = .ok (.iload 4, 2) := by decide +kernel
theorem d16 : decode yB 16 = .ok (.iload_n 2, 1) := by decide +kernel
theorem d17 : decode yB 17 = .ok (.if_icmp (.eq) 40, 3) := by decide +kernel
theorem d57 : decode yB 57 = .ok (.aload_n 3, 1) := by decide +kernel
theorem d58 : decode yB 58 = .ok (.areturn, 1) := by decide +kernel
def site : List Cond := [.arrayClass .byte, Cmp5.tab] ++ staticW U16 115 Cmp5.yN
def tab : Cond := tabOf yN yB 6 (some (.array .byte)) site
def P (b : Addr) (A : Cell) (o len : Nat) (args : Array Value) (s : State) : Prop := args = #[.ref b, .int (Int32.ofNat o), .int (Int32.ofNat len)] ∧ Ch b A s ∧ o + len ≤ A.slots.size ∧ len ≤ 536870912 ∧ ∀ i, i < len → ¬ 255 < cv A (o + i)
def E (b : Addr) (A : Cell) (o len : Nat) (r : Option Value) (s u : State) : Prop := NewArr .byte "[B" len (fun j => .int (lo8 (cv A (o + j)))) r s u ∧ u.heap.size = s.heap.size + 1
/-- no char of the range above 255: a new byte[] of their low bytes -/
theorem law (l : Launch) (b : Addr) (A : Cell) (o len : Nat) : Law l yN 3 3 1 18 yB 6 (some (.array .byte)) site (P b A o len) (E b A o len) [] 1 len := by
  refine Law.of_walk (plainFor_of_name (by decide +kernel)) (by decide +kernel) (by decide +kernel) (by decide) (fun _ _ h => by rw [h.1]; rfl) (fun _ U U' hal hh h => ⟨h.1, h.2.1.mv hal hh, h.2.2⟩) (fun r U U' V V' h1 hal h2 h => ⟨NewArr.mv r U U' V V' h1 hal h2 h.1, by rw [h1, h2]; exact h.2⟩) ?_
  intro p e s m args below meth c s₁ X0 hexec hbytes hml hret hlk hnm hown hh0 W hP
  obtain ⟨rfl, hA, l1, l2, hp⟩ := hP
  have a31 := hA.1.2.2.2
  have c1 : Steps p.tables e below (s₁.setTop (entryFrame m #[.ref b, .int (Int32.ofNat o), .int (Int32.ofNat len)] 6)) (s₁.setTop (mkF m 0 #[.val (.ref b), .val (.int (Int32.ofNat o)), .val (.int (Int32.ofNat len)), .unset, .unset, .unset] [])) := entry rfl
  have c2 : Steps p.tables e below (s₁.setTop (entryFrame m #[.ref b, .int (Int32.ofNat o), .int (Int32.ofNat len)] 6)) (s₁.setTop (mkF m 1 #[.val (.ref b), .val (.int (Int32.ofNat o)), .val (.int (Int32.ofNat len)), .unset, .unset, .unset] [.int (Int32.ofNat len)])) := c1.trans (by
    refine XS.iloadN X0.here hexec rfl (hb hbytes d0) rfl ?_
    exact Steps.refl _)
  obtain ⟨T3, B3, X3, ba3, bs3, bv3, bh3, bf3, st3⟩ := X0.anew hexec (atype := .byte) (wk W (.arrayClass .byte)) rfl (by show len * 1 ≤ _; omega) (by omega) (g := (mkF m 1 #[.val (.ref b), .val (.int (Int32.ofNat o)), .val (.int (Int32.ofNat len)), .unset, .unset, .unset] [.int (Int32.ofNat len)])) rfl (hb hbytes d1) (rest := []) rfl (Nat.le_refl _) (by show 0 + len ≤ len; omega)
  rw [hh0] at ba3 st3
  have kp3 : XT.Kept s T3 := (XT.Kept.of_eq hh0).push bh3
  have hA3 := hA.keep X3.warmed.alike (kp3 _ _ hA.1.1)
  have hne : b ≠ s.heap.size := hA.1.ne
  have c4 : Steps p.tables e below (s₁.setTop (entryFrame m #[.ref b, .int (Int32.ofNat o), .int (Int32.ofNat len)] 6)) (T3.setTop (mkF m 3 #[.val (.ref b), .val (.int (Int32.ofNat o)), .val (.int (Int32.ofNat len)), .unset, .unset, .unset] [.ref s.heap.size])) := c2.trans (st3 _ (Steps.refl _))
  have c5 : Steps p.tables e below (s₁.setTop (entryFrame m #[.ref b, .int (Int32.ofNat o), .int (Int32.ofNat len)] 6)) (T3.setTop (mkF m 9 #[.val (.ref b), .val (.int (Int32.ofNat o)), .val (.int (Int32.ofNat len)), .val (.ref s.heap.size), .unset, .unset] [.int (Int32.ofNat len), .int 0, .ref s.heap.size, .int (Int32.ofNat o), .ref b])) := c4.trans (by
    refine XS.astoreN X3.here hexec rfl (hb hbytes d3) rfl rfl rfl ?_
    refine XS.aloadN X3.here hexec rfl (hb hbytes d4) rfl rfl ?_
    refine XS.iloadN X3.here hexec rfl (hb hbytes d5) rfl ?_
    refine XS.aloadN X3.here hexec rfl (hb hbytes d6) rfl rfl ?_
    refine iconstV X3.here hexec rfl 0 (hb hbytes d7) (by decide) ?_
    refine XS.iloadN X3.here hexec rfl (hb hbytes d8) rfl ?_
    exact Steps.refl _)
  obtain ⟨v6, T6, X6, E6, g6⟩ := X3.callS hexec (Cmp5.law l b A s.heap.size B3 o 0 len) hown (wks W (staticW U16 115 Cmp5.yN)) (wk W Cmp5.tab) (W := 0) (Nat.le_of_ble_eq_true rfl) (Nat.le_of_ble_eq_true rfl) (Nat.le_refl _) (by show 0 + len + 0 ≤ len; omega) (g := (mkF m 9 #[.val (.ref b), .val (.int (Int32.ofNat o)), .val (.int (Int32.ofNat len)), .val (.ref s.heap.size), .unset, .unset] [.int (Int32.ofNat len), .int (Int32.ofNat 0), .ref s.heap.size, .int (Int32.ofNat o), .ref b])) rfl (by rw [hml]; rfl) c5 (argsL := [.ref b, .int (Int32.ofNat o), .ref s.heap.size, .int (Int32.ofNat 0), .int (Int32.ofNat len)]) (rest := []) rfl rfl (by show 2 * 0 + 0 ≤ _; decide) (hb hbytes d9) (⟨rfl, hA3, ba3, hne, l1, by rw [bs3]; simp, hp⟩)
  obtain ⟨rfl, B6, p6, f6⟩ := E6
  have c7 : Steps p.tables e below (s₁.setTop (entryFrame m #[.ref b, .int (Int32.ofNat o), .int (Int32.ofNat len)] 6)) (T6.setTop (mkF m 12 #[.val (.ref b), .val (.int (Int32.ofNat o)), .val (.int (Int32.ofNat len)), .val (.ref s.heap.size), .unset, .unset] [.int (Int32.ofNat len)])) := g6
  have c8 : Steps p.tables e below (s₁.setTop (entryFrame m #[.ref b, .int (Int32.ofNat o), .int (Int32.ofNat len)] 6)) (T6.setTop (mkF m 58 #[.val (.ref b), .val (.int (Int32.ofNat o)), .val (.int (Int32.ofNat len)), .val (.ref s.heap.size), .val (.int (Int32.ofNat len)), .unset] [.ref s.heap.size])) := c7.trans (by
    refine XS.istore X6.here hexec rfl (hb hbytes d12) rfl rfl ?_
    refine XS.iload X6.here hexec rfl (hb hbytes d14) rfl ?_
    refine XS.iloadN X6.here hexec rfl (hb hbytes d16) rfl ?_
    refine XS.icmpYes X6.here hexec rfl (pc0 := 17) rfl (hb hbytes d17) rfl (ii_eq_t rfl) (by decide) rfl ?_
    refine XS.aloadN X6.here hexec rfl (hb hbytes d57) rfl rfl ?_
    exact Steps.refl _)
  have X8 := X6.wide (L' := []) (cells' := 1) (slots' := len) (fun x hx hlt => by
    simp only [List.nil_append, copyLocs, List.mem_map, List.mem_range] at hx
    obtain ⟨i, -, rfl⟩ := hx
    exact absurd hlt (Nat.lt_irrefl _)) (Nat.le_refl _) (by omega)
  exact ⟨T6, some (.ref s.heap.size), _, _, _, X8, rfl, rfl, rfl, (fun h => by cases h), ⟨⟨rfl, B6, ba3.like (X3.warmed.alike.symm.trans X6.warmed.alike) p6.1 f6.1 f6.2.1 f6.2.2.1, f6.2.1.trans bv3, by rw [X6.warmed.alike.findClass, f6.1]; exact bf3, by rw [f6.2.2.1, bs3]; simp, fun j hj => by rw [f6.2.2.2 j, if_pos (by omega)]; rfl, kp3.put p6 (Nat.le_refl _)⟩, by rw [p6.2.2, bh3, hh0]; simp⟩, fun fs hl => c8.trans (X8.areturnOut hexec rfl hret rfl (hb hbytes d58) hl)⟩
end Cmp3
namespace CodL
def yN : MethodName := ⟨"java/lang/StringUTF16", "coderFromArrayLen", "([BI)B"⟩
abbrev yB : ByteArray := jdk_52_method_15_code
theorem d0 : decode yB 0 = .ok (.iload_n 1, 1) := by decide +kernel
theorem d1 : decode yB 1 = .ok (.aload_n 0, 1) := by decide +kernel
theorem d2 : decode yB 2 = .ok (.arraylength, 1) := by decide +kernel
theorem d3 : decode yB 3 = .ok (.isub, 1) := by decide +kernel
theorem d4 : decode yB 4 = .ok (.bipush 31, 2) := by decide +kernel
theorem d6 : decode yB 6 = .ok (.iushr, 1) := by decide +kernel
theorem d7 : decode yB 7 = .ok (.i2b, 1) := by decide +kernel
theorem d8 : decode yB 8 = .ok (.ireturn, 1) := by decide +kernel
def site : List Cond := []
def tab : Cond := tabOf yN yB 2 (some .byte) site
def P (d : Addr) (B : Cell) (args : Array Value) (s : State) : Prop := args = #[.ref d, .int (Int32.ofNat B.slots.size)] ∧ Arr .byte d B s
def E (r : Option Value) (s u : State) : Prop := XT.PureE (some (.int 0)) r s u
/-- an array as long as the number of chars: LATIN1 -/
theorem law (l : Launch) (d : Addr) (B : Cell) : Law l yN 2 2 0 0 yB 2 (some .byte) site (P d B) E [] 0 0 := by
  refine Law.of_walk (plainFor_of_name (by decide +kernel)) (by decide +kernel) (by decide +kernel) (by decide) (fun _ _ h => by rw [h.1]; rfl) (fun _ U U' hal hh h => ⟨h.1, h.2.mv hal hh⟩) (fun r U U' V V' h1 hal h2 h => XT.PureE.mv r U U' V V' h1 hal h2 h) ?_
  intro p e s m args below meth c s₁ X0 hexec hbytes hml hret hlk hnm hown hh0 W hP
  obtain ⟨rfl, hB⟩ := hP
  have hB0 := hB.mv X0.warmed.alike hh0
  have c1 : Steps p.tables e below (s₁.setTop (entryFrame m #[.ref d, .int (Int32.ofNat B.slots.size)] 2)) (s₁.setTop (mkF m 0 #[.val (.ref d), .val (.int (Int32.ofNat B.slots.size))] [])) := entry rfl
  have c2 : Steps p.tables e below (s₁.setTop (entryFrame m #[.ref d, .int (Int32.ofNat B.slots.size)] 2)) (s₁.setTop (mkF m 2 #[.val (.ref d), .val (.int (Int32.ofNat B.slots.size))] [.ref d, .int (Int32.ofNat B.slots.size)])) := c1.trans (by
    refine XS.iloadN X0.here hexec rfl (hb hbytes d0) rfl ?_
    refine XS.aloadN X0.here hexec rfl (hb hbytes d1) rfl rfl ?_
    exact Steps.refl _)
  have c3 : Steps p.tables e below (s₁.setTop (entryFrame m #[.ref d, .int (Int32.ofNat B.slots.size)] 2)) (s₁.setTop (mkF m 8 #[.val (.ref d), .val (.int (Int32.ofNat B.slots.size))] [.int (lo8 (ushr (Int32.ofNat B.slots.size - Int32.ofNat B.slots.size) 31))])) := c2.trans (by
    refine X0.alen hexec hB0 rfl rfl (hb hbytes d2) ?_
    refine XS.isub X0.here hexec rfl (hb hbytes d3) rfl ?_
    refine bipushV X0.here hexec rfl 31 (hb hbytes d4) (by decide) ?_
    refine iushr X0.here hexec rfl (hb hbytes d6) rfl ?_
    refine i2b X0.here hexec rfl (hb hbytes d7) rfl ?_
    exact Steps.refl _)
  have e0 : lo8 (ushr (Int32.ofNat B.slots.size - Int32.ofNat B.slots.size) 31) = 0 := by rw [Int32.sub_self]; decide
  rw [e0] at c3
  exact ⟨s₁, some (.int 0), _, _, _, X0, rfl, rfl, rfl, (fun h => by cases h), ⟨rfl, hh0⟩, fun fs hl => c3.trans (X0.ireturnOut hexec hret rfl (Or.inr (Or.inr (Or.inl rfl))) (hb hbytes d8) hl)⟩
end CodL
/-- the String at a is Latin-1 over a new byte[] (the heap's one new cell): the low bytes of the len chars of A from o on; every cell but a is kept -/
def Got (a : Addr) (D : Cell) (fV fC : Field) (A : Cell) (o len : Nat) (r : Option Value) (s u : State) : Prop := r = none ∧ ∃ D' V : Cell, Blank "java/lang/String" a D' u ∧ Same D D' [fV.slot, fC.slot] ∧ D'.slots[fV.slot]? = some (.ref s.heap.size) ∧ D'.slots[fC.slot]? = some (.int 0) ∧ Arr .byte s.heap.size V u ∧ V.vm = .none ∧ u.vm.findClass "[B" = some V.cls ∧ V.slots.size = len ∧ (∀ j, j < len → V.slots[j]? = some (.int (lo8 (cv A (o + j))))) ∧ (∀ (y : Addr) (c : Cell), y ≠ a → s.heap[y]? = some c → u.heap[y]? = some c) ∧ u.heap.size = s.heap.size + 1
theorem Got.mv {a : Addr} {D A : Cell} {fV fC : Field} {o len : Nat} : ∀ r (U U' V V' : State), U'.heap = U.heap → V.vm.Alike V'.vm → V'.heap = V.heap → Got a D fV fC A o len r U V → Got a D fV fC A o len r U' V' :=
  fun r U U' V V' h1 hal h2 ⟨e0, D', X, a1, a2, a3, a4, a5, a6, a7, a8, a9, a10, a11⟩ => ⟨e0, D', X, a1.mv hal h2, a2, by rw [h1]; exact a3, a4, by rw [h1]; exact a5.mv hal h2, a6, by rw [hal.findClass]; exact a7, a8, a9, by rw [h1, h2]; exact a10, by rw [h1, h2]; exact a11⟩
namespace New4
def yN : MethodName := ⟨"java/lang/String", "<init>", "([CIILjava/lang/Void;)V"⟩
abbrev yB : ByteArray := jdk_42_method_149_code
theorem d0 : decode yB 0 = .ok (.aload_n 0, 1) := by decide +kernel
theorem d1 : decode yB 1 = .ok (.invokespecial 1, 3) := by decide +kernel
theorem d4 : decode yB 4 = .ok (.iload_n 3, 1) := by decide +kernel
theorem d5 : decode yB 5 = .ok (.ifCond (.ne) 22, 3) := by decide +kernel
theorem d27 : decode yB 27 = .ok (.getstatic 38, 3) := by decide +kernel
theorem d30 : decode yB 30 = .ok (.ifCond (.eq) 28, 3) := by decide +kernel
theorem d33 : decode yB 33 = .ok (.aload_n 1, 1) := by decide +kernel
theorem d34 : decode yB 34 = .ok (.iload_n 2, 1) := by decide +kernel
theorem d35 : decode yB 35 = .ok (.iload_n 3, 1) := by decide +kernel
theorem d36 : decode yB 36 = .ok (.invokestatic 177, 3) := by decide +kernel
theorem d39 : decode yB 39 = .ok (.astore 5, 2) := by decide +kernel
theorem d41 : decode yB 41 = .ok (.aload_n 0, 1) := by decide +kernel
theorem d42 : decode yB 42 = .ok (.aload 5, 2) := by decide +kernel
theorem d44 : decode yB 44 = .ok (.iload_n 3, 1) := by decide +kernel
theorem d45 : decode yB 45 = .ok (.invokestatic 47, 3) := by decide +kernel
theorem d48 : decode yB 48 = .ok (.putfield 15, 3) := by decide +kernel
theorem d51 : decode yB 51 = .ok (.aload_n 0, 1) := by decide +kernel
theorem d52 : decode yB 52 = .ok (.aload 5, 2) := by decide +kernel
theorem d54 : decode yB 54 = .ok (.putfield 9, 3) := by decide +kernel
theorem d57 : decode yB 57 = .ok (.return_, 1) := by decide +kernel
def site : List Cond := [.fieldLink "java/lang/String" 38 "java/lang/String" "COMPACT_STRINGS" "Z", Cmp3.tab, CodL.tab, .laysFinal "java/lang/String" "java/lang/String" "value" "[B", .fieldLink "java/lang/String" 9 "java/lang/String" "value" "[B", .laysFinal "java/lang/String" "java/lang/String" "coder" "B", .fieldLink "java/lang/String" 15 "java/lang/String" "coder" "B"] ++ objW "java/lang/String" 1 ++ staticW "java/lang/String" 177 Cmp3.yN ++ staticW "java/lang/String" 47 CodL.yN
def tab : Cond := tabOf yN yB 6 none site
def P (a : Addr) (D : Cell) (fV fC : Field) (b : Addr) (A : Cell) (z : Int32) (o len : Nat) (args : Array Value) (s : State) : Prop := args = #[.ref a, .ref b, .int (Int32.ofNat o), .int (Int32.ofNat len), .null] ∧ Blank "java/lang/String" a D s ∧ Found "java/lang/String" "value" "[B" fV s ∧ Found "java/lang/String" "coder" "B" fC s ∧ Ch b A s ∧ StaticIs s "java/lang/String" "COMPACT_STRINGS" "Z" (.int z) ∧ ¬ z = 0 ∧ 0 < len ∧ o + len ≤ A.slots.size ∧ len ≤ 536870912 ∧ ∀ i, i < len → ¬ 255 < cv A (o + i)
def E (a : Addr) (D : Cell) (fV fC : Field) (A : Cell) (o len : Nat) (r : Option Value) (s u : State) : Prop := Got a D fV fC A o len r s u
/-- len > 0, no char of the range above 255: a Latin-1 String of their low bytes -/
theorem law (l : Launch) (a : Addr) (D : Cell) (fV fC : Field) (b : Addr) (A : Cell) (z : Int32) (o len : Nat) : Law l yN 5 4 2 35 yB 6 none site (P a D fV fC b A z o len) (E a D fV fC A o len) [⟨a, fC.slot⟩, ⟨a, fV.slot⟩] 1 len := by
  refine Law.of_walk (plainFor_of_name (by decide +kernel)) (by decide +kernel) (by decide +kernel) (by decide) (fun _ _ h => by rw [h.1]; rfl) (fun _ U U' hal hh h => ⟨h.1, h.2.1.mv hal hh, h.2.2.1.al hal, h.2.2.2.1.al hal, h.2.2.2.2.1.mv hal hh, h.2.2.2.2.2.1.there hal hh, h.2.2.2.2.2.2⟩) (fun r U U' V V' h1 hal h2 h => Got.mv r U U' V V' h1 hal h2 h) ?_
  intro p e s m args below meth c s₁ X0 hexec hbytes hml hret hlk hnm hown hh0 W hP
  obtain ⟨rfl, hB, f1, f2, hA, s1, hz, l0, l1, l2, hp⟩ := hP
  have a31 := hA.1.2.2.2
  have c1 : Steps p.tables e below (s₁.setTop (entryFrame m #[.ref a, .ref b, .int (Int32.ofNat o), .int (Int32.ofNat len), .null] 6)) (s₁.setTop (mkF m 0 #[.val (.ref a), .val (.ref b), .val (.int (Int32.ofNat o)), .val (.int (Int32.ofNat len)), .val .null, .unset] [])) := entry rfl
  have c2 : Steps p.tables e below (s₁.setTop (entryFrame m #[.ref a, .ref b, .int (Int32.ofNat o), .int (Int32.ofNat len), .null] 6)) (s₁.setTop (mkF m 1 #[.val (.ref a), .val (.ref b), .val (.int (Int32.ofNat o)), .val (.int (Int32.ofNat len)), .val .null, .unset] [.ref a])) := c1.trans (by
    refine XS.aloadN X0.here hexec rfl (hb hbytes d0) rfl rfl ?_
    exact Steps.refl _)
  obtain ⟨T3, X3, q3, st3⟩ := X0.oinit hexec hown (wks W (objW "java/lang/String" 1)) (g := (mkF m 1 #[.val (.ref a), .val (.ref b), .val (.int (Int32.ofNat o)), .val (.int (Int32.ofNat len)), .val .null, .unset] [.ref a])) rfl (by rw [hml]; rfl) (rest := []) rfl (hb hbytes d1) (W := 0) (by show 2 * 0 + 0 ≤ _; decide) (Nat.le_of_ble_eq_true rfl) (Nat.le_of_ble_eq_true rfl)
  have hh3 := q3.trans hh0
  have c4 : Steps p.tables e below (s₁.setTop (entryFrame m #[.ref a, .ref b, .int (Int32.ofNat o), .int (Int32.ofNat len), .null] 6)) (T3.setTop (mkF m 27 #[.val (.ref a), .val (.ref b), .val (.int (Int32.ofNat o)), .val (.int (Int32.ofNat len)), .val .null, .unset] [])) := (c2.trans (st3 _ (Steps.refl _))).trans (by
    refine XS.iloadN X3.here hexec rfl (hb hbytes d4) rfl ?_
    refine XS.ifYes X3.here hexec rfl (pc0 := 5) rfl (hb hbytes d5) rfl (i0_ne_t (nz32 (by omega) l0)) (by decide) rfl ?_
    exact Steps.refl _)
  obtain ⟨T5, X5, q5, st5⟩ := X3.sget hexec hown (wk W (.fieldLink "java/lang/String" 38 "java/lang/String" "COMPACT_STRINGS" "Z")) s1 (fun _ _ h => by rw [hh3]; exact h) (g := (mkF m 27 #[.val (.ref a), .val (.ref b), .val (.int (Int32.ofNat o)), .val (.int (Int32.ofNat len)), .val .null, .unset] [])) rfl (hb hbytes d27)
  have hh5 := q5.trans hh3
  have c6 : Steps p.tables e below (s₁.setTop (entryFrame m #[.ref a, .ref b, .int (Int32.ofNat o), .int (Int32.ofNat len), .null] 6)) (T5.setTop (mkF m 30 #[.val (.ref a), .val (.ref b), .val (.int (Int32.ofNat o)), .val (.int (Int32.ofNat len)), .val .null, .unset] [.int z])) := c4.trans (st5 _ (Steps.refl _))
  have c7 : Steps p.tables e below (s₁.setTop (entryFrame m #[.ref a, .ref b, .int (Int32.ofNat o), .int (Int32.ofNat len), .null] 6)) (T5.setTop (mkF m 36 #[.val (.ref a), .val (.ref b), .val (.int (Int32.ofNat o)), .val (.int (Int32.ofNat len)), .val .null, .unset] [.int (Int32.ofNat len), .int (Int32.ofNat o), .ref b])) := c6.trans (by
    refine XS.ifNo X5.here hexec rfl (hb hbytes d30) rfl (i0_eq_f hz) ?_
    refine XS.aloadN X5.here hexec rfl (hb hbytes d33) rfl rfl ?_
    refine XS.iloadN X5.here hexec rfl (hb hbytes d34) rfl ?_
    refine XS.iloadN X5.here hexec rfl (hb hbytes d35) rfl ?_
    exact Steps.refl _)
  obtain ⟨v8, T8, X8, E8, g8⟩ := X5.callS hexec (Cmp3.law l b A o len) hown (wks W (staticW "java/lang/String" 177 Cmp3.yN)) (wk W Cmp3.tab) (W := 0) (Nat.le_of_ble_eq_true rfl) (Nat.le_of_ble_eq_true rfl) (Nat.le_refl _) (by show 0 + len ≤ len; omega) (g := (mkF m 36 #[.val (.ref a), .val (.ref b), .val (.int (Int32.ofNat o)), .val (.int (Int32.ofNat len)), .val .null, .unset] [.int (Int32.ofNat len), .int (Int32.ofNat o), .ref b])) rfl (by rw [hml]; rfl) c7 (argsL := [.ref b, .int (Int32.ofNat o), .int (Int32.ofNat len)]) (rest := []) rfl rfl (by show 2 * 0 + 0 ≤ _; decide) (hb hbytes d36) (⟨rfl, hA.mv X5.warmed.alike hh5, l1, l2, hp⟩)
  obtain ⟨e8, z8⟩ := E8
  obtain ⟨rfl, N, n1, n2, n3, n4, n5, n6⟩ := NewArr.mv _ T5 s _ _ hh5.symm (Vm.Alike.refl _) rfl e8
  rw [hh5] at z8
  have hB1 := hB.keep X8.warmed.alike (n6 _ _ hB.1)
  have hne : s.heap.size ≠ a := (Nat.ne_of_lt (Array.getElem?_eq_some_iff.mp hB.1).1).symm
  have c9 : Steps p.tables e below (s₁.setTop (entryFrame m #[.ref a, .ref b, .int (Int32.ofNat o), .int (Int32.ofNat len), .null] 6)) (T8.setTop (mkF m 39 #[.val (.ref a), .val (.ref b), .val (.int (Int32.ofNat o)), .val (.int (Int32.ofNat len)), .val .null, .unset] [.ref s.heap.size])) := g8
  have c10 : Steps p.tables e below (s₁.setTop (entryFrame m #[.ref a, .ref b, .int (Int32.ofNat o), .int (Int32.ofNat len), .null] 6)) (T8.setTop (mkF m 45 #[.val (.ref a), .val (.ref b), .val (.int (Int32.ofNat o)), .val (.int (Int32.ofNat len)), .val .null, .val (.ref s.heap.size)] [.int (Int32.ofNat N.slots.size), .ref s.heap.size, .ref a])) := by
    have hc : Steps p.tables e below (s₁.setTop (entryFrame m #[.ref a, .ref b, .int (Int32.ofNat o), .int (Int32.ofNat len), .null] 6)) (T8.setTop (mkF m 45 #[.val (.ref a), .val (.ref b), .val (.int (Int32.ofNat o)), .val (.int (Int32.ofNat len)), .val .null, .val (.ref s.heap.size)] [.int (Int32.ofNat len), .ref s.heap.size, .ref a])) := c9.trans (by
      refine XS.astore X8.here hexec rfl (hb hbytes d39) rfl rfl rfl ?_
      refine XS.aloadN X8.here hexec rfl (hb hbytes d41) rfl rfl ?_
      refine XS.aload X8.here hexec rfl (hb hbytes d42) rfl rfl ?_
      refine XS.iloadN X8.here hexec rfl (hb hbytes d44) rfl ?_
      exact Steps.refl _)
    rw [n4]; exact hc
  obtain ⟨v11, T11, X11, E11, g11⟩ := X8.callS hexec (CodL.law l s.heap.size N) hown (wks W (staticW "java/lang/String" 47 CodL.yN)) (wk W CodL.tab) (W := 1) (Nat.le_of_ble_eq_true rfl) (Nat.le_of_ble_eq_true rfl) (Nat.le_refl _) (by show 0 + len + 0 ≤ len; omega) (g := (mkF m 45 #[.val (.ref a), .val (.ref b), .val (.int (Int32.ofNat o)), .val (.int (Int32.ofNat len)), .val .null, .val (.ref s.heap.size)] [.int (Int32.ofNat N.slots.size), .ref s.heap.size, .ref a])) rfl (by rw [hml]; rfl) c10 (argsL := [.ref s.heap.size, .int (Int32.ofNat N.slots.size)]) (rest := [.ref a]) rfl rfl (by show 2 * 0 + (1 + 0) ≤ _; decide) (hb hbytes d45) (⟨rfl, n1⟩)
  obtain ⟨rfl, q11⟩ := E11
  have hB11 := hB1.mv (X8.warmed.alike.symm.trans X11.warmed.alike) q11
  have c12 : Steps p.tables e below (s₁.setTop (entryFrame m #[.ref a, .ref b, .int (Int32.ofNat o), .int (Int32.ofNat len), .null] 6)) (T11.setTop (mkF m 48 #[.val (.ref a), .val (.ref b), .val (.int (Int32.ofNat o)), .val (.int (Int32.ofNat len)), .val .null, .val (.ref s.heap.size)] [.int 0, .ref a])) := g11
  obtain ⟨T13, X13, p13, bl13, sl13, st13⟩ := X11.finit hexec hown (wk W (.fieldLink "java/lang/String" 15 "java/lang/String" "coder" "B")) (Or.inr ⟨_, (wk W (.laysFinal "java/lang/String" "java/lang/String" "coder" "B"))⟩) (Or.inl ⟨rfl, hnm⟩) f2 (Or.inl rfl) hB11 (t := .byte) (by decide +kernel) rfl (g := (mkF m 48 #[.val (.ref a), .val (.ref b), .val (.int (Int32.ofNat o)), .val (.int (Int32.ofNat len)), .val .null, .val (.ref s.heap.size)] [.int 0, .ref a])) rfl (rest := []) rfl (hb hbytes d48)
  have c14 : Steps p.tables e below (s₁.setTop (entryFrame m #[.ref a, .ref b, .int (Int32.ofNat o), .int (Int32.ofNat len), .null] 6)) (T13.setTop (mkF m 54 #[.val (.ref a), .val (.ref b), .val (.int (Int32.ofNat o)), .val (.int (Int32.ofNat len)), .val .null, .val (.ref s.heap.size)] [.ref s.heap.size, .ref a])) := (c12.trans (st13 _ (Steps.refl _))).trans (by
    refine XS.aloadN X13.here hexec rfl (hb hbytes d51) rfl rfl ?_
    refine XS.aload X13.here hexec rfl (hb hbytes d52) rfl rfl ?_
    exact Steps.refl _)
  obtain ⟨T15, X15, p15, bl15, sl15, st15⟩ := X13.finit hexec hown (wk W (.fieldLink "java/lang/String" 9 "java/lang/String" "value" "[B")) (Or.inr ⟨_, (wk W (.laysFinal "java/lang/String" "java/lang/String" "value" "[B"))⟩) (Or.inl ⟨rfl, hnm⟩) f1 (Or.inl rfl) bl13 (t := (.array .byte)) (by decide +kernel) rfl (g := (mkF m 54 #[.val (.ref a), .val (.ref b), .val (.int (Int32.ofNat o)), .val (.int (Int32.ofNat len)), .val .null, .val (.ref s.heap.size)] [.ref s.heap.size, .ref a])) rfl (rest := []) rfl (hb hbytes d54)
  have c16 : Steps p.tables e below (s₁.setTop (entryFrame m #[.ref a, .ref b, .int (Int32.ofNat o), .int (Int32.ofNat len), .null] 6)) (T15.setTop (mkF m 57 #[.val (.ref a), .val (.ref b), .val (.int (Int32.ofNat o)), .val (.int (Int32.ofNat len)), .val .null, .val (.ref s.heap.size)] [])) := c14.trans (st15 _ (Steps.refl _))
  have ap := apart (Or.inr ⟨_, (wk W (.laysFinal "java/lang/String" "java/lang/String" "value" "[B"))⟩) (Or.inr ⟨_, (wk W (.laysFinal "java/lang/String" "java/lang/String" "coder" "B"))⟩) f1 f2 (t₁ := .array .byte) (t₂ := .byte) (by decide +kernel) (by decide +kernel) (by decide)
  have al := X8.warmed.alike.symm.trans X15.warmed.alike
  have n7 : T11.heap[s.heap.size]? = some N := by rw [q11]; exact n1.1
  exact ⟨T15, none, _, _, _, X15, by simp, rfl, by omega, (fun _ => rfl), ⟨rfl, _, N, bl15, ((Same.refl D _).set _ (by simp)).set _ (by simp), sl15, (Cell.slots_setSlot_ne _ ap).trans sl13, n1.keep al (p15.other hne (p13.other hne n7)), n2, by rw [al.findClass]; exact n3, n4, n5, fun y c h1 h2 => p15.other h1 (p13.other h1 (by rw [q11]; exact n6 y c h2)), by rw [p15.2.2, p13.2.2, q11]; exact z8⟩, fun fs hl => c16.trans (X15.returnOut hexec hret (hb hbytes d57) hl)⟩
end New4
namespace New1
def yN : MethodName := ⟨"java/lang/String", "<init>", "([C)V"⟩
abbrev yB : ByteArray := jdk_42_method_3_code
theorem d0 : decode yB 0 = .ok (.aload_n 0, 1) := by decide +kernel
theorem d1 : decode yB 1 = .ok (.aload_n 1, 1) := by decide +kernel
theorem d2 : decode yB 2 = .ok (.iconst 0, 1) := by decide +kernel
theorem d3 : decode yB 3 = .ok (.aload_n 1, 1) := by decide +kernel
theorem d4 : decode yB 4 = .ok (.arraylength, 1) := by decide +kernel
theorem d5 : decode yB 5 = .ok (.aconst_null, 1) := by decide +kernel
theorem d6 : decode yB 6 = .ok (.invokespecial 27, 3) := by decide +kernel
theorem d9 : decode yB 9 = .ok (.return_, 1) := by decide +kernel
def site : List Cond := [New4.tab] ++ initW "java/lang/String" 27 New4.yN
def tab : Cond := tabOf yN yB 2 none site
def P (a : Addr) (D : Cell) (fV fC : Field) (b : Addr) (A : Cell) (z : Int32) (args : Array Value) (s : State) : Prop := args = #[.ref a, .ref b] ∧ Blank "java/lang/String" a D s ∧ Found "java/lang/String" "value" "[B" fV s ∧ Found "java/lang/String" "coder" "B" fC s ∧ Ch b A s ∧ StaticIs s "java/lang/String" "COMPACT_STRINGS" "Z" (.int z) ∧ ¬ z = 0 ∧ 0 < A.slots.size ∧ A.slots.size ≤ 536870912 ∧ ∀ i, i < A.slots.size → ¬ 255 < cv A i
def E (a : Addr) (D : Cell) (fV fC : Field) (A : Cell) (r : Option Value) (s u : State) : Prop := Got a D fV fC A 0 A.slots.size r s u
/-- new String(chars), not empty, no char above 255: a Latin-1 String of their low bytes -/
theorem law (l : Launch) (a : Addr) (D : Cell) (fV fC : Field) (b : Addr) (A : Cell) (z : Int32) : Law l yN 2 1 3 52 yB 2 none site (P a D fV fC b A z) (E a D fV fC A) [⟨a, fC.slot⟩, ⟨a, fV.slot⟩] 1 A.slots.size := by
  refine Law.of_walk (plainFor_of_name (by decide +kernel)) (by decide +kernel) (by decide +kernel) (by decide) (fun _ _ h => by rw [h.1]; rfl) (fun _ U U' hal hh h => ⟨h.1, h.2.1.mv hal hh, h.2.2.1.al hal, h.2.2.2.1.al hal, h.2.2.2.2.1.mv hal hh, h.2.2.2.2.2.1.there hal hh, h.2.2.2.2.2.2⟩) (fun r U U' V V' h1 hal h2 h => Got.mv r U U' V V' h1 hal h2 h) ?_
  intro p e s m args below meth c s₁ X0 hexec hbytes hml hret hlk hnm hown hh0 W hP
  obtain ⟨rfl, hB, f1, f2, hA, s1, hz, l0, l2, hp⟩ := hP
  have c1 : Steps p.tables e below (s₁.setTop (entryFrame m #[.ref a, .ref b] 2)) (s₁.setTop (mkF m 0 #[.val (.ref a), .val (.ref b)] [])) := entry rfl
  have c2 : Steps p.tables e below (s₁.setTop (entryFrame m #[.ref a, .ref b] 2)) (s₁.setTop (mkF m 6 #[.val (.ref a), .val (.ref b)] [.null, .int (Int32.ofNat A.slots.size), .int 0, .ref b, .ref a])) := c1.trans (by
    refine XS.aloadN X0.here hexec rfl (hb hbytes d0) rfl rfl ?_
    refine XS.aloadN X0.here hexec rfl (hb hbytes d1) rfl rfl ?_
    refine iconstV X0.here hexec rfl 0 (hb hbytes d2) (by decide) ?_
    refine XS.aloadN X0.here hexec rfl (hb hbytes d3) rfl rfl ?_
    refine X0.alen hexec (hA.1.mv X0.warmed.alike hh0) rfl rfl (hb hbytes d4) ?_
    refine XS.aconstNull X0.here hexec rfl (hb hbytes d5) ?_
    exact Steps.refl _)
  obtain ⟨v3, T3, X3, E3, g3⟩ := X0.callN hexec (New4.law l a D fV fC b A z 0 A.slots.size) rfl hown (wks W (initW "java/lang/String" 27 New4.yN)) (W New4.tab (by simp only [site, List.mem_cons, List.mem_append, true_or, or_true])) (W := 0) (Nat.le_of_ble_eq_true rfl) (Nat.le_of_ble_eq_true rfl) (Nat.le_refl _) (by show 0 + A.slots.size ≤ A.slots.size; omega) (g := (mkF m 6 #[.val (.ref a), .val (.ref b)] [.null, .int (Int32.ofNat A.slots.size), .int (Int32.ofNat 0), .ref b, .ref a])) rfl (by rw [hml]; rfl) c2 (argsL := [.ref b, .int (Int32.ofNat 0), .int (Int32.ofNat A.slots.size), .null]) (rest := []) rfl rfl (by show 2 * 0 + 0 ≤ _; decide) (hb hbytes d6) (⟨rfl, hB.mv X0.warmed.alike hh0, f1.al X0.warmed.alike, f2.al X0.warmed.alike, hA.mv X0.warmed.alike hh0, s1.there X0.warmed.alike hh0, hz, l0, by omega, l2, fun i hi => by rw [Nat.zero_add]; exact hp i hi⟩)
  have e0 := Got.mv _ s₁ s _ _ hh0.symm (Vm.Alike.refl _) rfl E3
  obtain rfl := e0.1
  have c4 : Steps p.tables e below (s₁.setTop (entryFrame m #[.ref a, .ref b] 2)) (T3.setTop (mkF m 9 #[.val (.ref a), .val (.ref b)] [])) := g3
  exact ⟨T3, none, _, _, _, X3, by simp, rfl, by omega, (fun _ => rfl), e0, fun fs hl => c4.trans (X3.returnOut hexec hret (hb hbytes d9) hl)⟩
theorem pays {l : Launch} {R : Room} {p : Program} {e : Env} {below : List Frame} {s : State} {sargs : Array Value} {len W : Nat} (a : Addr) (D : Cell) (fV fC : Field) (b : Addr) (A : Cell) (z : Int32) (htab : tab.before sargs s = true) (hfr : 4 ≤ R.frames) (hlo : W + 65 ≤ R.locals) :
    Back l R p e below s sargs yN len W (fun A₁ a₁ => A₁.cells + 1 ≤ R.cells ∧ A₁.slots + A.slots.size ≤ R.slots ∧ P a D fV fC b A z a₁ A₁.U) (fun A₁ _ v₁ B₁ => E a D fV fC A v₁ A₁.U B₁.U ∧ B₁.locs = A₁.locs ++ [⟨a, fC.slot⟩, ⟨a, fV.slot⟩] ∧ B₁.cells = A₁.cells + 1 ∧ B₁.slots = A₁.slots + A.slots.size) :=
  (law l a D fV fC b A z).pays htab hfr (by omega)
end New1
end StrChars
namespace StrChars.Road
open Jvm Sem ClassFile Op Lib Jvm.Stand Jvm.Free Jvm.Free.XT
open Jvm.Lib.Cold (StaticIs)
abbrev ST : String := "java/lang/String"
/-- every table word that New1's law asks, flat -/
abbrev words : List Jvm.Cond := [.code New1.yN New1.yB 2 none, .initialized ST, .methodLink ST 27 New4.yN, .instanceMethod New4.yN,
  .code New4.yN New4.yB 6 none, .fieldLink ST 38 ST "COMPACT_STRINGS" "Z", .laysFinal ST ST "value" "[B", .fieldLink ST 9 ST "value" "[B", .laysFinal ST ST "coder" "B", .fieldLink ST 15 ST "coder" "B",
  .methodLink ST 1 Lib.objectInit, .instanceMethod Lib.objectInit, .code Lib.objectInit ⟨#[0xb1]⟩ 1 none, .methodLink ST 177 Cmp3.yN, .static Cmp3.yN, .methodLink ST 47 CodL.yN, .static CodL.yN,
  .code Cmp3.yN Cmp3.yB 6 (some (.array .byte)), .initialized U16, .arrayClass .byte, .methodLink U16 115 Cmp5.yN, .static Cmp5.yN, .code Cmp5.yN Cmp5.yB 7 (some .int), .code CodL.yN CodL.yB 2 (some .byte)]
theorem tab_of {a : Array Value} {s : State} (h : ∀ w ∈ words, w.before a s = true) : New1.tab.before a s = true := by
  have h5 : Cmp5.tab.before a s = true := unparts (wk h (.code Cmp5.yN Cmp5.yB 7 (some .int))) (wks h (.initialized Cmp5.yN.cls :: Cmp5.site))
  have hc : CodL.tab.before a s = true := unparts (wk h (.code CodL.yN CodL.yB 2 (some .byte))) (wks h (.initialized CodL.yN.cls :: CodL.site))
  have q5 : ∀ w ∈ Cmp5.tab :: words, w.before a s = true := fun w hw => (List.mem_cons.mp hw).elim (fun e => e ▸ h5) (h w)
  have h3 : Cmp3.tab.before a s = true := unparts (wk q5 (.code Cmp3.yN Cmp3.yB 6 (some (.array .byte)))) (wks q5 (.initialized Cmp3.yN.cls :: Cmp3.site))
  have q3 : ∀ w ∈ Cmp3.tab :: CodL.tab :: words, w.before a s = true := fun w hw => (List.mem_cons.mp hw).elim (fun e => e ▸ h3) fun hw => (List.mem_cons.mp hw).elim (fun e => e ▸ hc) (h w)
  have h4 : New4.tab.before a s = true := unparts (wk q3 (.code New4.yN New4.yB 6 none)) (wks q3 (.initialized New4.yN.cls :: New4.site))
  have q4 : ∀ w ∈ New4.tab :: words, w.before a s = true := fun w hw => (List.mem_cons.mp hw).elim (fun e => e ▸ h4) (h w)
  exact unparts (wk q4 (.code New1.yN New1.yB 2 none)) (wks q4 (.initialized New1.yN.cls :: New1.site))
/-- the words ride from the start Z to the walk's own state -/
theorem moved {Z s : State} {a0 args : Array Value} (hZ : Z.Warmed39 s.vm) (hw : ∀ d ∈ words, d.before a0 Z = true) : ∀ d ∈ words, d.before args s = true := fun d hd => by
  have q := hw d hd
  have t : ∀ d ∈ words, d = .arrayClass .byte ∨ (d.onTables && d.keepsFace) = true := by decide +kernel
  rcases t d hd with rfl | t
  · exact RoadKit.mvA hZ q
  · exact RoadKit.mv hZ q t
/-- WHAT COMES BACK, over the tables of the start Z: h the heap at the call, h' behind it -/
def Q (Z : State) (x : Addr) (A : Cell) (h : Heap) (v : Option Value) (h' : Heap) (L : List Loc) : Prop := v = none ∧ (∀ y ∈ L, y.base = x) ∧ RoadKit.Keep h h' [x] ∧ h'.size = h.size + 1 ∧ RoadKit.Exa Z h' x ST ∧ RoadKit.Fld Z h' x ST "value" "[B" (.ref h.size) ∧ RoadKit.Fld Z h' x ST "coder" "B" (.int 0) ∧
  (∃ V : Cell, RoadKit.Arr Z h' h.size V .byte ∧ V.vm = .none ∧ Z.vm.findClass "[B" = some V.cls ∧ V.slots.size = A.slots.size ∧ ∀ j, j < A.slots.size → V.slots[j]? = some (.int (lo8 (cv A j)))) ∧
  ∀ (O n d : String) (w : Value), RoadKit.Fld Z h x O n d w → RoadKit.slotOf Z O n d ≠ RoadKit.slotOf Z ST "value" "[B" → RoadKit.slotOf Z O n d ≠ RoadKit.slotOf Z ST "coder" "B" → RoadKit.Fld Z h' x O n d w
/-- **new String(chars) AT A CALL, IN THE ROAD'S FORM**: for specialBack behind newO: x the fresh String, b the char[] with the cell A -/
theorem back {p : Program} {l : Launch} {e : Env} {R : Room} {s : State} {args : Array Value} {below : List Frame} {len W : Nat} {Z : State} {a0 : Array Value} {h : Heap} (hZ : Z.Warmed39 s.vm) (hw : ∀ d ∈ words, d.before a0 Z = true) {kI : Nat} (wi : (Jvm.Cond.instantiable ST kI).before a0 Z = true)
    {x b : Addr} {A : Cell} {z : Int32} {v0 c0 : Value} (E : RoadKit.Exa Z h x ST) (V : RoadKit.Fld Z h x ST "value" "[B" v0) (C : RoadKit.Fld Z h x ST "coder" "B" c0) (K : RoadKit.Arr Z h b A .char) (hty : Typed .char A) (S : RoadKit.Sta Z h ST "COMPACT_STRINGS" "Z" (.int z)) (hz : ¬ z = 0)
    (l0 : 0 < A.slots.size) (l2 : A.slots.size ≤ 536870912) (hp : ∀ i, i < A.slots.size → ¬ 255 < cv A i) (hfr : 4 ≤ R.frames) (hlo : W + 65 ≤ R.locals) :
    Back l R p e below s args New1.yN len W (fun P a => a = #[.ref x, .ref b] ∧ P.U.heap = h ∧ P.cells + 1 ≤ R.cells ∧ P.slots + A.slots.size ≤ R.slots)
      (fun P _ v B => ∃ L, Q Z x A h v B.U.heap L ∧ B.locs = P.locs ++ L ∧ B.cells = P.cells + 1 ∧ B.slots = P.slots + A.slots.size) := by
  intro m meth c P g ig mk a X hg hsize hdg hW hn hp'
  obtain ⟨rfl, rfl, r1, r2⟩ := hp'
  have al : Z.vm.Alike P.U.vm := hZ.alike.trans X.warmed.alike
  obtain ⟨D, cfV, kV, iV, fV, hD, gV, stV, knV, obV, asV, slV⟩ := id V
  obtain ⟨D', cfC, kC, iC, fC, hD', gC, stC, -, -, asC, slC⟩ := id C
  cases hD.symm.trans hD'
  obtain ⟨D2, kD, e1, e2, e3, e4, e5⟩ := id E
  cases hD.symm.trans e1
  obtain ⟨c2, k2, i1, i2, i3, -⟩ := Cond.instantiable_spec wi
  cases e2.symm.trans i1
  cases e3.symm.trans i2
  obtain ⟨kU, u1, u2⟩ := al.2.2 _ _ e3
  have hB : Blank ST x D P.U := ⟨hD, ⟨knV, fun q hq => by rw [hq] at obV; cases obV⟩, by rw [al.findClass]; exact e2, kU, u1, by rw [u2]; exact i3, by rw [u2]; exact e5 i3⟩
  have F1 : Found ST "value" "[B" fV P.U := ⟨SBG.found_only al ⟨cfV, kV, iV, gV⟩, stV⟩
  have F2 : Found ST "coder" "B" fC P.U := ⟨SBG.found_only al ⟨cfC, kC, iC, gC⟩, stC⟩
  have hA : Ch b A P.U := ⟨⟨K.1, State.isArrayOf_alike al K.2.1, K.2.2, by omega⟩, hty⟩
  have hS : StaticIs P.U ST "COMPACT_STRINGS" "Z" (.int z) := by
    obtain ⟨cfS, iS, kS, fS, st, cS, t1, t2, t3, t4, t5, t6, t7⟩ := S
    exact StaticIs.there (s := { Z with heap := P.U.heap }) ⟨cfS, iS, kS, fS, st, cS, t1, t2, t3, t4, t5, (fun q => by rw [q] at t6; cases t6), t7⟩ al rfl
  obtain ⟨v, B, X', ⟨⟨hv, E', V', q1, q2, q3, q4, q5, q6, q7, q8, q9, q10, q11⟩, hl, hc, hs⟩, st⟩ := New1.pays x D fV fC b A z (tab_of (moved hZ hw)) hfr hlo m meth c P g ig mk _ X hg hsize hdg hW hn ⟨r1, r2, rfl, hB, F1, F2, hA, hS, hz, l0, l2, hp⟩
  have al' : Z.vm.Alike B.U.vm := hZ.alike.trans X'.warmed.alike
  have hsz : E'.slots.size = D.slots.size := by
    obtain ⟨-, -, -, kB, w1, w2, w3⟩ := q1
    obtain ⟨kB', y1, y2⟩ := al'.2.2 _ _ e3
    rw [q2.2.1] at w1
    cases w1.symm.trans y1
    rw [w3, e5 i3, y2]
  refine ⟨v, B, X', ⟨_, ⟨hv, ?_, ⟨by omega, fun y cy hy hn' => q10 y cy (by simpa using hn') hy, fun y cy hy => ?_⟩, q11, ⟨E', _, q1.1, by rw [q2.2.1]; exact e2, by rw [q2.2.1]; exact e3, by rw [q2.1]; exact obV, fun _ => by rw [hsz]; exact e5 i3⟩,
    ⟨E', cfV, kV, iV, fV, q1.1, gV, stV, by rw [q2.1]; exact knV, by rw [q2.1]; exact obV, by rw [q2.2.1]; exact asV, q3⟩, ⟨E', cfC, kC, iC, fC, q1.1, gC, stC, by rw [q2.1]; exact knV, by rw [q2.1]; exact obV, by rw [q2.2.1]; exact asC, q4⟩,
    ⟨V', ⟨q5.1, State.isArrayOf_alike al'.symm q5.2.1, q5.2.2.1⟩, q6, by rw [← al'.findClass]; exact q7, q8, fun j hj => by have := q9 j hj; rwa [Nat.zero_add] at this⟩, fun O n d w F n1 n2 => ?_⟩, hl, hc, hs⟩, st⟩
  · intro y hy
    simp only [List.mem_cons, List.not_mem_nil, or_false] at hy
    rcases hy with rfl | rfl <;> rfl
  · by_cases q : y = x
    · subst q
      cases hD.symm.trans hy
      exact ⟨E', q1.1, q2.2.1, q2.1, hsz⟩
    · exact ⟨cy, q10 y cy q hy, rfl, rfl, rfl⟩
  · obtain ⟨D3, cf, k, i, f, g1, g2, g3, g4, g5, g6, g7⟩ := F
    cases hD.symm.trans g1
    simp only [RoadKit.slotOf, g2, gV, gC, Option.map_some, Option.getD_some] at n1 n2
    exact ⟨E', cf, k, i, f, q1.1, g2, g3, by rw [q2.1]; exact g4, by rw [q2.1]; exact g5, by rw [q2.2.1]; exact g6, by rw [q2.2.2 f.slot (by simp [n1, n2])]; exact g7⟩
end StrChars.Road
namespace StrChars.Road
open Jvm Sem ClassFile Op Lib Jvm.Stand Jvm.Free Jvm.Free.XT
/-- WHAT COMES BACK, the byte[] as a list of values -/
def QA (Z : State) (x : Addr) (zn : Int32) (cs : List Int32) (h : Heap) (v : Option Value) (h' : Heap) (L : List Loc) : Prop := v = none ∧ (∀ y ∈ L, y.base = x) ∧ RoadKit.Keep h h' [x] ∧ h'.size = h.size + 1 ∧ RoadKit.Exa Z h' x ST ∧ RoadKit.Fld Z h' x ST "value" "[B" (.ref h.size) ∧ RoadKit.Fld Z h' x ST "coder" "B" (.int 0) ∧
  (∃ kb, Z.vm.findClass "[B" = some kb ∧ RoadKit.Arv Z h' h.size kb .byte zn (cs.map fun c => .int (lo8 c)) (.int 0)) ∧
  ∀ (O n d : String) (w : Value), RoadKit.Fld Z h x O n d w → RoadKit.slotOf Z O n d ≠ RoadKit.slotOf Z ST "value" "[B" → RoadKit.slotOf Z O n d ≠ RoadKit.slotOf Z ST "coder" "B" → RoadKit.Fld Z h' x O n d w
/-- **new String(chars) AT A CALL, THE ARRAYS AS LISTS**: the char[] at b holds cs, not empty, no char above 255 -/
theorem backArv {p : Program} {l : Launch} {e : Env} {R : Room} {s : State} {args : Array Value} {below : List Frame} {len W : Nat} {Z : State} {a0 : Array Value} {h : Heap} (hZ : Z.Warmed39 s.vm) (hw : ∀ d ∈ words, d.before a0 Z = true) {kI : Nat} (wi : (Jvm.Cond.instantiable ST kI).before a0 Z = true)
    {x b : Addr} {k : ClassId} {zn z : Int32} {cs : List Int32} {dv v0 c0 : Value} (E : RoadKit.Exa Z h x ST) (V : RoadKit.Fld Z h x ST "value" "[B" v0) (C : RoadKit.Fld Z h x ST "coder" "B" c0) (K : RoadKit.Arv Z h b k .char zn (cs.map Value.int) dv) (S : RoadKit.Sta Z h ST "COMPACT_STRINGS" "Z" (.int z)) (hz : ¬ z = 0)
    (hlen : zn.toNatClampNeg = cs.length) (h0 : 0 < cs.length) (hbig : cs.length ≤ 536870912) (hall : ∀ c ∈ cs, ¬ 255 < c) (hfr : 4 ≤ R.frames) (hlo : W + 65 ≤ R.locals) :
    Back l R p e below s args New1.yN len W (fun P a => a = #[.ref x, .ref b] ∧ P.U.heap = h ∧ P.cells + 1 ≤ R.cells ∧ P.slots + cs.length ≤ R.slots)
      (fun P _ v B => ∃ L, QA Z x zn cs h v B.U.heap L ∧ B.locs = P.locs ++ L ∧ B.cells = P.cells + 1 ∧ B.slots = P.slots + cs.length) := by
  obtain ⟨A, K1, K2, K3, K4, K5, K6⟩ := K
  have e : A.slots.size = cs.length := K3.trans hlen
  have hat : ∀ (i : Nat) (hi : i < cs.length), A.slots[i]? = some (.int cs[i]) := fun i hi => by rw [K5 i (by omega)]; simp [List.getD_eq_getElem?_getD, hi]
  have hcv : ∀ (i : Nat) (hi : i < cs.length), cv A i = cs[i] := fun i hi => by unfold cv; rw [hat i hi]
  have hty : Typed .char A := fun i v hv => by
    have hi : i < A.slots.size := (Array.getElem?_eq_some_iff.mp hv).1
    have q := K5 i hi
    rw [hv] at q
    rw [Option.some.inj q]
    exact K6 i hi
  refine Back.mono (back hZ hw wi E V C K1 hty S hz (by omega) (by omega) (fun i hi => by rw [hcv i (by omega)]; exact hall _ (List.getElem_mem _)) hfr hlo) (fun P a hp => ⟨hp.1, hp.2.1, hp.2.2.1, by rw [e]; exact hp.2.2.2⟩) (fun P a v B hp hq => ?_)
  obtain ⟨L, ⟨q1, q2, q3, q4, q5, q6, q7, ⟨V', v1, v2, v3, v4, v5⟩, q9⟩, hl, hc, hs⟩ := hq
  refine ⟨L, ⟨q1, q2, q3, q4, q5, q6, q7, ⟨V'.cls, v3, V', v1, rfl, by rw [v4, e, hlen], K4, fun i hi => ?_, fun i hi => ?_⟩, q9⟩, hl, hc, by rw [hs, e]⟩
  · have hi' : i < cs.length := by omega
    rw [v5 i (by omega), hcv i hi']; simp [List.getD_eq_getElem?_getD, hi']
  · have hi' : i < cs.length := by omega
    simp only [List.getD_eq_getElem?_getD, List.getElem?_map, List.getElem?_eq_getElem hi', Option.map_some, Option.getD_some]
    exact fits_lo8 _
end StrChars.Road
namespace StrChars.Road
open Jvm Sem ClassFile Op Lib Jvm.Stand Jvm.Free Jvm.Free.XT
/-- WHAT COMES BACK, in the writer's own shape -/
def QV (Z : State) (x : Addr) (N : Int32) (bs : List Int32) (h : Heap) (n0 : Nat) (v : Option Value) (h' : Heap) (L : List Loc) : Prop := v = none ∧ RoadKit.Fr n0 L ∧ RoadKit.Keep h h' [x] ∧ RoadKit.Exa Z h' x ST ∧ RoadKit.Fld Z h' x ST "coder" "B" (.int 0) ∧
  ∃ (t : Addr) (kb : ClassId), n0 ≤ t ∧ h.size ≤ t ∧ ¬ t = x ∧ RoadKit.Fld Z h' x ST "value" "[B" (.ref t) ∧ RoadKit.Arv Z h' t kb .byte N (bs.map Value.int) (.int 0)
/-- **new String(chars) AT A CALL, FOR THE WRITER**: a char[] of n known ints, each 0 to 255 -/
theorem backV {p : Program} {l : Launch} {e : Env} {R : Room} {s : State} {args : Array Value} {below : List Frame} {len W : Nat} {Z : State} {a0 : Array Value} {h : Heap} (hZ : Z.Warmed39 s.vm) (hw : ∀ d ∈ words, d.before a0 Z = true) {kI : Nat} (wi : (Jvm.Cond.instantiable ST kI).before a0 Z = true)
    {x b : Addr} {kC : ClassId} {cs bs : List Int32} {d v0 c0 : Value} {z N : Int32} {n n0 : Nat} (hx0 : n0 ≤ x) (hh0 : n0 ≤ h.size) (E : RoadKit.Exa Z h x ST) (V : RoadKit.Fld Z h x ST "value" "[B" v0) (C : RoadKit.Fld Z h x ST "coder" "B" c0) (K : RoadKit.Arv Z h b kC .char N (cs.map Value.int) d) (S : RoadKit.Sta Z h ST "COMPACT_STRINGS" "Z" (.int z)) (hz : ¬ z = 0)
    (hn : cs.length = n) (hN : N = Int32.ofNat n) (l0 : 0 < n) (l2 : n ≤ 4000) (hp : ∀ c ∈ cs, ¬ c < 0 ∧ ¬ (255 : Int32) < c) (hb : bs = cs.map (fun c => c.toInt8.toInt32)) (hfr : 4 ≤ R.frames) (hlo : W + 65 ≤ R.locals) :
    Back l R p e below s args (⟨"java/lang/String", "<init>", "([C)V"⟩ : MethodName) len W (fun P a => a = #[.ref x, .ref b] ∧ P.U.heap = h ∧ P.cells + 1 ≤ R.cells ∧ P.slots + n ≤ R.slots)
      (fun P _ v B => ∃ L, QV Z x N bs h n0 v B.U.heap L ∧ B.locs = P.locs ++ L ∧ B.cells = P.cells + 1 ∧ B.slots = P.slots + n) := by
  subst hn hN hb
  refine Back.mono (backArv hZ hw wi E V C K S hz (n32 (by omega)) l0 (by omega) (fun c hc => (hp c hc).2) hfr hlo) (fun P a hp => hp) (fun P a v B hp hq => ?_)
  obtain ⟨L, ⟨q1, q2, q3, q4, q5, q6, q7, ⟨kb, v1, v2⟩, q9⟩, hl, hc, hs⟩ := hq
  exact ⟨L, ⟨q1, fun y hy => by rw [q2 y hy]; exact hx0, q3, q5, q7, h.size, kb, hh0, Nat.le_refl _, Nat.ne_of_gt E.lt, q6, by rw [List.map_map]; exact v2⟩, hl, hc, hs⟩
end StrChars.Road
end Jvm.Pilot.@@N@@
namespace Jvm.RoadKit
open Sem ClassFile Op Lib Jvm.Stand Jvm.Free Jvm.LawKit
section New
variable {p : Program} {l : Launch} {e : Env} {R : Room} {s : State} {m : MethodId} {args : Array Value} {below : List Frame} {meth : Method} {c : Code} {T : State} {locs : List Loc} {cells slots : Nat}
theorem retI (X : Stand p l e R s m args below meth c T locs cells slots) (hx : p.tables.exec = Jvm.exec) {pc : Nat} {Ls : Array Slot} {z : Int32} {rest : List Value} (hret : meth.sig.returnType = some .int) (hd : decode c.code pc = .ok (.ireturn, 1)) {fs : List Frame}
    (hl : ∀ (f : JFrame) (acts : List Action), f.method = m → f.locked = none → f.entered = [] → (doReturn e (T.setTop f) acts (some (.int z))).1 = T.setFrames fs) : Steps p.tables e below (T.setTop (mkF m pc Ls (.int z :: rest))) (T.setFrames fs) := by
  have hm' : T.vm.method? m = some meth := X.method'
  have hn : narrow .int (.int z) = .int z := rfl
  show Steps p.tables e below (T.setTop { method := m, pc := pc, locals := Ls, stack := _ :: rest, locked := none }) _
  jvm_step X.here [X.here.top, hx, hd, hm', hret, hn]
  first | (intro acts; rw [hl _ acts rfl rfl rfl]) | rw [hl _ _ rfl rfl rfl]
  exact Steps.refl _
end New
end Jvm.RoadKit
namespace Jvm.Pilot.@@N@@
open Jvm Jvm.ClassFile Sem Op Lib Jvm.Free Jvm.Stand Jvm.LawKit Jvm.RoadKit Bundle Jvm.Pilot.@@N@@.Jvm.D
/-- every run from the state T with the frame f on top is a run from s0 with f0 -/
def GoTo (tb : Tables) (e : Env) (below : List Frame) (s0 : State) (f0 : JFrame) (T : State) (f : JFrame) : Prop := ∀ t, Steps tb e below (T.setTop f) t → Steps tb e below (s0.setTop f0) t
theorem own_cI (x : Int32) : (Value.int x).category = 1 := rfl
theorem own_cJ (x : Int64) : (Value.long x).category = 2 := rfl
theorem own_cR (x : Addr) : (Value.ref x).category = 1 := rfl
theorem own_cN : Value.null.category = 1 := rfl
theorem own_zlt {Z : State} {n0 : Nat} {h : Heap} {a : Addr} (O : Old Z n0 h) (q : a < Z.heap.size) : a < n0 := O.1 ▸ q
theorem own_selfSel {s : State} {args : Array Value} {C : String} {y : MethodName} (hsel : (Cond.selects C y y).before args s = true) (hpriv : s.PrivateAt y) (hinst : (Cond.instanceMethod y).before args s = true) (hy : y.cls ≠ "java/lang/invoke/MethodHandle" ∧ y.cls ≠ "java/lang/invoke/VarHandle") : (Cond.selects y.cls y y).before args s = true := by
  obtain ⟨c2, r2, m2, -, -, q3, -, kP, hkP, hkPi⟩ := Cond.selects_spec hsel
  exact selects_self_of_private (findClass_of_methodNamed q3) hkP hkPi hpriv hinst hy
theorem own_sameSelf {s : State} {args : Array Value} {C : String} {y z : MethodName} (hsel : (Cond.selects C z z).before args s = true) (hzy : z.cls = y.cls) (hinst : (Cond.instanceMethod y).before args s = true) (hy : y.cls ≠ "java/lang/invoke/MethodHandle" ∧ y.cls ≠ "java/lang/invoke/VarHandle") : (Cond.sameMethod y.cls y.cls y.name y.desc).before args s = true := by
  obtain ⟨c2, r2, m2, -, -, q3, -, kP, hkP, hkPi⟩ := Cond.selects_spec hsel
  obtain ⟨mk, methM, hnamed, hmethM, -, -⟩ := Cond.instanceMethod_spec hinst
  have h1 := findClass_of_methodNamed q3
  have h2 := findClass_of_methodNamed hnamed
  rw [hzy] at h1
  have hcls : mk.cls = m2.cls := Option.some.inj (h2.symm.trans h1)
  have hf := State.methodFound?_of_named hnamed hy
  obtain ⟨yc, yn, yd⟩ := y
  dsimp only at h1 h2 hf ⊢
  simp only [Cond.before, Cond.holds, Cond.value, h2, hf, hnamed, hcls, hkP]
  simp [hkPi]
theorem own_notFace {s : State} {args : Array Value} {C : String} {x y z : MethodName} (hsel : (Cond.selects C x z).before args s = true) (hzy : z.cls = y.cls) : NotFace s y := fun r0 h0 => by
  obtain ⟨c2, r2, m2, -, -, q3, -, kP, hkP, hkPi⟩ := Cond.selects_spec hsel
  have h1 := findClass_of_methodNamed q3
  rw [hzy] at h1
  have h2 := findClass_of_methodNamed h0
  have e : m2.cls = r0.cls := Option.some.inj (h1.symm.trans h2)
  exact ⟨kP, e ▸ hkP, hkPi⟩
theorem own_le {Z : State} {n0 : Nat} {h : Heap} (O : Old Z n0 h) : n0 ≤ h.size := O.1 ▸ O.2.1
theorem own_mono {p : Program} {l : Launch} {e : Env} {R : Room} {s : State} {m : MethodId} {args : Array Value} {below : List Frame} {meth : Method} {c : Code} {T : State} {locs : List Loc} {cells slots cells' slots' : Nat} (X : Stand p l e R s m args below meth c T locs cells slots) (h1 : cells ≤ cells') (h2 : slots ≤ slots') : Stand p l e R s m args below meth c T locs cells' slots' := { X with same := X.same.mono h1 h2 }
theorem own_NSroot {Z : State} {a0 : Array Value} {O K : String} {n : Nat} (w : (Jvm.Cond.noSuperclass O).before a0 Z = true) (wk : (Jvm.Cond.instantiable K n).before a0 Z = true) (hn : O ≠ K) : NS Z O K := by
  obtain ⟨c, k, h1, h2, h3, -, -⟩ := Cond.noSuperclass_spec w
  obtain ⟨t, k2, g1, -⟩ := Cond.instantiable_spec wk
  have ne := ids_ne h1 g1 hn
  refine ⟨c, t, h1, g1, fun fuel => ?_⟩
  cases fuel with
  | zero => rfl
  | succ f => simp [Vm.isSubclassAux, ne, h2, h3]
theorem own_NSno {Z : State} {a0 : Array Value} {C S K : String} {n : Nat} (w : (Jvm.Cond.superclass C S).before a0 Z = true) (wk : (Jvm.Cond.instantiable K n).before a0 Z = true) (nn : NS Z C K) (hn : C ≠ K) : ∃ c t, Z.vm.findClass C = some c ∧ Z.vm.findClass K = some t ∧ Z.vm.assignable c t = false := by
  obtain ⟨c, t, h0, g0, n3⟩ := nn
  obtain ⟨p, k, kp, h1, h2, h3, h4, h5, -, h7⟩ := Cond.superclass_spec h0 w
  obtain ⟨t', k', g1, g2, g5, g7, -⟩ := Cond.instantiable_spec wk
  cases g0.symm.trans g1
  have ne := ids_ne h0 g0 hn
  refine ⟨c, t, h0, g0, ?_⟩
  show Z.vm.assignableAux (255 + 1) c t = false
  have g8 : k'.isInterface = false := (Bool.or_eq_false_iff.mp g7).1
  simp [Vm.assignableAux, ne, h2, g2, h5, g5, g8, Vm.isSubclass, n3]
def own_Mir (Z : State) (C : String) (m : Addr) : Prop := ∃ (c : ClassId) (k : Class), Z.vm.findClass C = some c ∧ Z.vm.classes[c]? = some k ∧ k.mirror = some m
theorem own_mir {Z s : State} {C : String} {mr : Addr} {args : Array Value} (hZ : Z.Warmed39 s.vm) (M : own_Mir Z C mr) : (Term.mirror C).eval args s none [] s = some (.ref mr) := by
  obtain ⟨c, k, m1, m2, m3⟩ := M
  obtain ⟨k', q, ek⟩ := hZ.alike.2.2 _ _ m2
  have h1 : s.vm.findClass C = some c := by rw [hZ.alike.findClass]; exact m1
  have h2 : k'.mirror = some mr := by rw [ek]; exact m3
  simp [Term.eval, h1, q, h2]
theorem own_gcls {p : Program} {l : Launch} {e : Env} {R : Room} {s : State} {m : MethodId} {args : Array Value} {below : List Frame} {meth : Method} {c : Code} {T : State} {locs : List Loc} {cells slots : Nat} {Z : State} {h : Heap} {a : Addr} (X : Stand p l e R s m args below meth c T locs cells slots) (hx : p.tables.exec = Jvm.exec) (hZ : Z.Warmed39 s.vm) {a0 : Array Value} {own C : String} {index : Nat} (hown : s.vm.findClass own = some m.cls)
    (w1 : (Jvm.Cond.methodLink own index ⟨"java/lang/Object", "getClass", "()Ljava/lang/Class;"⟩).before a0 Z = true) (w2 : (Jvm.Cond.declares ⟨"java/lang/Object", "getClass", "()Ljava/lang/Class;"⟩).before a0 Z = true) (w3 : (Jvm.Cond.noSuperclass "java/lang/Object").before a0 Z = true) (w4 : (Jvm.Cond.selects C ⟨"java/lang/Object", "getClass", "()Ljava/lang/Class;"⟩ ⟨"java/lang/Object", "getClass", "()Ljava/lang/Class;"⟩).before a0 Z = true)
    (w5 : (Jvm.Cond.instanceMethod ⟨"java/lang/Object", "getClass", "()Ljava/lang/Class;"⟩).before a0 Z = true) (w6 : (Jvm.Cond.native ⟨"java/lang/Object", "getClass", "()Ljava/lang/Class;"⟩).before a0 Z = true) (eT : T.heap = h) (E : Exa Z h a C) {mr : Addr} (M : own_Mir Z C mr)
    {g : JFrame} (hg : g.method = m) (hsize : g.locals.size = c.maxLocals) {rest : List Value} (hs : g.stack = .ref a :: rest) (hd : decode c.code g.pc = .ok (.invokevirtual index, 3)) (hf : 1 ≤ R.frames) {W : Nat} (hW : 2 * g.monitorRoom + (rest.map fun v => v.category).sum ≤ W) (hl : W + (nativeFrameWords "java/lang/Object" "getClass" 1 + 11) ≤ R.locals) :
    ∃ T', Stand p l e R s m args below meth c T' locs cells slots ∧ T'.heap = h ∧ ∀ target, Steps p.tables e below (T'.setTop { g with pc := g.pc + 3, stack := .ref mr :: rest }) target → Steps p.tables e below (T.setTop g) target := by
  obtain ⟨cB, kB, i1, i2, i3⟩ := isOf hZ eT E
  obtain ⟨cc, kc, m1, m2, m3⟩ := M
  have j1 : s.vm.findClass C = some cc := by rw [hZ.alike.findClass]; exact m1
  obtain rfl : cc = cB := Option.some.inj (j1.symm.trans i1)
  obtain ⟨k', q, ek⟩ := hZ.alike.2.2 _ _ m2
  obtain ⟨vm', X', st⟩ := X.getClassOf hx hown (mvT hZ w1) (mvT hZ w2) (nf_top (args := #[]) (mvT hZ w3)) (mvT hZ w4) (mvT hZ w5) (mvT hZ w6) j1 i3 q (by rw [ek]; exact m3) hg hsize hs hd hf (by omega)
  exact ⟨_, X', eT, st⟩
theorem own_cat {v : Value} (h : v.isRef = true) : v.category = 1 := by cases v <;> simp_all [Value.isRef, Value.category]
theorem own_fits_ref {ty : FieldType} {v : Value} (ht : refKind ty = true) (h : v.isRef = true) : fits ty v = true := by cases ty <;> cases v <;> simp_all [refKind, fits, Value.isRef]
theorem own_all0 : ∀ c ∈ ([] : List Int32), ¬ c < 0 ∧ ¬ (255 : Int32) < c := fun _ q => nomatch q
theorem own_allC {a : Int32} {L : List Int32} (h : ¬ a < 0 ∧ ¬ (255 : Int32) < a) (r : ∀ c ∈ L, ¬ c < 0 ∧ ¬ (255 : Int32) < c) : ∀ c ∈ a :: L, ¬ c < 0 ∧ ¬ (255 : Int32) < c := fun x z => (List.mem_cons.mp z).elim (fun u => u ▸ h) (r x)
theorem own_up {cs : List Int32} (h : ∀ c ∈ cs, ¬ c < 0 ∧ ¬ (255 : Int32) < c) : ∀ c ∈ cs, ¬ c < 0 ∧ ¬ (65535 : Int32) < c := fun c hc => ⟨(h c hc).1, fun q => (h c hc).2 (by rw [Int32.lt_iff_toInt_lt] at q ⊢; have e1 : (65535 : Int32).toInt = 65535 := rfl; have e2 : (255 : Int32).toInt = 255 := rfl; omega)⟩
theorem own_chr (x : Int32) {z : Int32} (h : z = ((x &&& (255 : Int32)).toUInt32.toUInt16.toUInt32.toInt32)) : (¬ z < 0 ∧ ¬ (255 : Int32) < z) ∧ nar .char z = z := by
  subst h
  rw [i2c_mask]
  have h1 : (x &&& (255 : Int32)).toInt = x.toInt % 2 ^ 8 := Jvm.Kit.i32_mask x 255 (k := 8) (by decide) (by decide)
  have e0 : (0 : Int32).toInt = 0 := by decide
  have e1 : (255 : Int32).toInt = 255 := by decide
  refine ⟨⟨?_, ?_⟩, i2c_mask x⟩ <;> rw [Int32.lt_iff_toInt_lt] <;> omega
theorem own_eqv {v : Option Value} {cs ds : List Int32} (h : (v = some (.int 1) ∧ cs = ds) ∨ (v = some (.int 0) ∧ ¬ cs = ds)) : v = some (.int (if cs = ds then (1 : Int32) else 0)) := by
  rcases h with ⟨rfl, h⟩ | ⟨rfl, h⟩
  · rw [if_pos h]
  · rw [if_neg h]
section OwnStr
variable {Z : State} {h h' : Heap} {x t a : Addr} {kb : ClassId} {cs : List Int32} {sl : Nat} {v : Value} {ws : List Addr}
/-- the String at x, her byte[] at t, spells cs -/
def own_Str (Z : State) (h : Heap) (x t : Addr) (kb : ClassId) (cs : List Int32) : Prop :=
  Exa Z h x "java/lang/String" ∧ Fld Z h x "java/lang/String" "value" "[B" (.ref t) ∧ Fld Z h x "java/lang/String" "coder" "B" (.int 0) ∧ Arv Z h t kb .byte (Int32.ofNat cs.length) ((cs.map fun c => c.toInt8.toInt32).map Value.int) (.int 0) ∧ (∀ c ∈ cs, ¬ c < 0 ∧ ¬ (255 : Int32) < c) ∧ cs.length ≤ 4000
theorem own_Str.ext (F : own_Str Z h x t kb cs) (E : Ext h h') : own_Str Z h' x t kb cs := ⟨F.1.ext E, F.2.1.ext E, F.2.2.1.ext E, F.2.2.2.1.ext E, F.2.2.2.2⟩
theorem own_Str.keep (F : own_Str Z h x t kb cs) (K : Keep h h' ws) (q : x ∉ ws) (r : t ∉ ws) : own_Str Z h' x t kb cs := ⟨F.1.keep K, F.2.1.keep K q, F.2.2.1.keep K q, F.2.2.2.1.keep K r, F.2.2.2.2⟩
theorem own_Str.other (F : own_Str Z h x t kb cs) (W : Wr h h' a sl v) (q : x ≠ a) (r : t ≠ a) : own_Str Z h' x t kb cs := ⟨F.1.wr W, F.2.1.other W (Or.inl q), F.2.2.1.other W (Or.inl q), F.2.2.2.1.other W r, F.2.2.2.2⟩
/-- null, or a String -/
def own_NS (Z : State) (h : Heap) (v : Value) : Prop := v = .null ∨ ∃ a, v = .ref a ∧ Exa Z h a "java/lang/String"
theorem own_NS.ref (F : own_NS Z h v) : v.isRef = true := by rcases F with rfl | ⟨a, rfl, -⟩ <;> rfl
theorem own_NS.ext (F : own_NS Z h v) (E : Ext h h') : own_NS Z h' v := F.imp id fun ⟨a, e, X⟩ => ⟨a, e, X.ext E⟩
theorem own_NS.wr {w : Value} (F : own_NS Z h v) (W : Wr h h' a sl w) : own_NS Z h' v := F.imp id fun ⟨a, e, X⟩ => ⟨a, e, X.wr W⟩
theorem own_NS.keep (F : own_NS Z h v) (K : Keep h h' ws) : own_NS Z h' v := F.imp id fun ⟨a, e, X⟩ => ⟨a, e, X.keep K⟩
end OwnStr
theorem own_d_jdk_22_method_1_code_0 : decode jdk_22_method_1_code 0 = .ok (.aload_n 0, 1) := by decide +kernel
theorem own_d_jdk_22_method_1_code_1 : decode jdk_22_method_1_code 1 = .ok (.invokespecial 1, 3) := by decide +kernel
theorem own_d_jdk_22_method_1_code_4 : decode jdk_22_method_1_code 4 = .ok (.return_, 1) := by decide +kernel
theorem own_d_jdk_39_method_1_code_0 : decode jdk_39_method_1_code 0 = .ok (.aload_n 0, 1) := by decide +kernel
theorem own_d_jdk_39_method_1_code_1 : decode jdk_39_method_1_code 1 = .ok (.invokespecial 1, 3) := by decide +kernel
theorem own_pd0 : parseMethodDescriptor "()V" = some ⟨[], none⟩ := by decide +kernel
theorem own_d_jdk_39_method_1_code_4 : decode jdk_39_method_1_code 4 = .ok (.aload_n 0, 1) := by decide +kernel
theorem own_d_jdk_39_method_1_code_5 : decode jdk_39_method_1_code 5 = .ok (.iconst 0, 1) := by decide +kernel
theorem own_d_jdk_39_method_1_code_6 : decode jdk_39_method_1_code 6 = .ok (.putfield 7, 3) := by decide +kernel
theorem own_d_jdk_39_method_1_code_9 : decode jdk_39_method_1_code 9 = .ok (.return_, 1) := by decide +kernel
theorem own_d_jdk_38_method_2_code_0 : decode jdk_38_method_2_code 0 = .ok (.aload_n 0, 1) := by decide +kernel
theorem own_d_jdk_38_method_2_code_1 : decode jdk_38_method_2_code 1 = .ok (.invokespecial 1, 3) := by decide +kernel
theorem own_d_jdk_38_method_2_code_4 : decode jdk_38_method_2_code 4 = .ok (.aload_n 0, 1) := by decide +kernel
theorem own_d_jdk_38_method_2_code_5 : decode jdk_38_method_2_code 5 = .ok (.getstatic 39, 3) := by decide +kernel
theorem own_d_jdk_38_method_2_code_8 : decode jdk_38_method_2_code 8 = .ok (.putfield 9, 3) := by decide +kernel
theorem own_d_jdk_38_method_2_code_11 : decode jdk_38_method_2_code 11 = .ok (.return_, 1) := by decide +kernel
theorem own_d_jdk_30_method_1_code_0 : decode jdk_30_method_1_code 0 = .ok (.aload_n 0, 1) := by decide +kernel
theorem own_d_jdk_30_method_1_code_1 : decode jdk_30_method_1_code 1 = .ok (.invokespecial 1, 3) := by decide +kernel
theorem own_d_jdk_30_method_1_code_4 : decode jdk_30_method_1_code 4 = .ok (.return_, 1) := by decide +kernel
theorem own_d_jdk_31_method_10_code_0 : decode jdk_31_method_10_code 0 = .ok (.aload_n 0, 1) := by decide +kernel
theorem own_d_jdk_31_method_10_code_1 : decode jdk_31_method_10_code 1 = .ok (.ifnonnull 11, 3) := by decide +kernel
theorem own_d_jdk_31_method_10_code_12 : decode jdk_31_method_10_code 12 = .ok (.aload_n 0, 1) := by decide +kernel
theorem own_d_jdk_31_method_10_code_13 : decode jdk_31_method_10_code 13 = .ok (.areturn, 1) := by decide +kernel
theorem own_d_jdk_29_method_65_code_0 : decode jdk_29_method_65_code 0 = .ok (.iload_n 0, 1) := by decide +kernel
theorem own_d_jdk_29_method_65_code_1 : decode jdk_29_method_65_code 1 = .ok (.iload_n 1, 1) := by decide +kernel
theorem own_d_jdk_29_method_65_code_2 : decode jdk_29_method_65_code 2 = .ok (.if_icmp .lt 7, 3) := by decide +kernel
theorem own_d_jdk_29_method_65_code_5 : decode jdk_29_method_65_code 5 = .ok (.iload_n 0, 1) := by decide +kernel
theorem own_d_jdk_29_method_65_code_6 : decode jdk_29_method_65_code 6 = .ok (.goto 4, 3) := by decide +kernel
theorem own_d_jdk_29_method_65_code_10 : decode jdk_29_method_65_code 10 = .ok (.ireturn, 1) := by decide +kernel
theorem own_d_jdk_38_method_6_code_0 : decode jdk_38_method_6_code 0 = .ok (.aload_n 0, 1) := by decide +kernel
theorem own_d_jdk_38_method_6_code_1 : decode jdk_38_method_6_code 1 = .ok (.getfield 9, 3) := by decide +kernel
theorem own_d_jdk_38_method_6_code_4 : decode jdk_38_method_6_code 4 = .ok (.arraylength, 1) := by decide +kernel
theorem own_d_jdk_38_method_6_code_5 : decode jdk_38_method_6_code 5 = .ok (.istore_n 2, 1) := by decide +kernel
theorem own_d_jdk_38_method_6_code_6 : decode jdk_38_method_6_code 6 = .ok (.iload_n 2, 1) := by decide +kernel
theorem own_d_jdk_38_method_6_code_7 : decode jdk_38_method_6_code 7 = .ok (.ifCond .gt 13, 3) := by decide +kernel
theorem own_d_jdk_38_method_6_code_10 : decode jdk_38_method_6_code 10 = .ok (.aload_n 0, 1) := by decide +kernel
theorem own_d_jdk_38_method_6_code_11 : decode jdk_38_method_6_code 11 = .ok (.getfield 9, 3) := by decide +kernel
theorem own_d_jdk_38_method_6_code_14 : decode jdk_38_method_6_code 14 = .ok (.getstatic 39, 3) := by decide +kernel
theorem own_d_jdk_38_method_6_code_17 : decode jdk_38_method_6_code 17 = .ok (.if_acmp .eq 28, 3) := by decide +kernel
theorem own_d_jdk_38_method_6_code_45 : decode jdk_38_method_6_code 45 = .ok (.aload_n 0, 1) := by decide +kernel
theorem own_d_jdk_38_method_6_code_46 : decode jdk_38_method_6_code 46 = .ok (.bipush 10, 2) := by decide +kernel
theorem own_d_jdk_38_method_6_code_48 : decode jdk_38_method_6_code 48 = .ok (.iload_n 1, 1) := by decide +kernel
theorem own_d_jdk_38_method_6_code_49 : decode jdk_38_method_6_code 49 = .ok (.invokestatic 79, 3) := by decide +kernel
theorem own_pd1 : parseMethodDescriptor "(II)I" = some ⟨[.int, .int], some .int⟩ := by decide +kernel
theorem own_d_jdk_38_method_6_code_52 : decode jdk_38_method_6_code 52 = .ok (.anewarray 7, 3) := by decide +kernel
theorem own_d_jdk_38_method_6_code_55 : decode jdk_38_method_6_code 55 = .ok (.dup_x1, 1) := by decide +kernel
theorem own_d_jdk_38_method_6_code_56 : decode jdk_38_method_6_code 56 = .ok (.putfield 9, 3) := by decide +kernel
theorem own_d_jdk_38_method_6_code_59 : decode jdk_38_method_6_code 59 = .ok (.areturn, 1) := by decide +kernel
theorem own_d_jdk_38_method_7_code_0 : decode jdk_38_method_7_code 0 = .ok (.aload_n 0, 1) := by decide +kernel
theorem own_d_jdk_38_method_7_code_1 : decode jdk_38_method_7_code 1 = .ok (.aload_n 0, 1) := by decide +kernel
theorem own_d_jdk_38_method_7_code_2 : decode jdk_38_method_7_code 2 = .ok (.getfield 48, 3) := by decide +kernel
theorem own_d_jdk_38_method_7_code_5 : decode jdk_38_method_7_code 5 = .ok (.iconst 1, 1) := by decide +kernel
theorem own_d_jdk_38_method_7_code_6 : decode jdk_38_method_7_code 6 = .ok (.iadd, 1) := by decide +kernel
theorem own_d_jdk_38_method_7_code_7 : decode jdk_38_method_7_code 7 = .ok (.invokevirtual 69, 3) := by decide +kernel
theorem own_pd2 : parseMethodDescriptor "(I)[Ljava/lang/Object;" = some ⟨[.int], some (.array (.object "java/lang/Object"))⟩ := by decide +kernel
theorem own_d_jdk_38_method_7_code_10 : decode jdk_38_method_7_code 10 = .ok (.areturn, 1) := by decide +kernel
theorem own_d_jdk_38_method_24_code_0 : decode jdk_38_method_24_code 0 = .ok (.iload_n 3, 1) := by decide +kernel
theorem own_d_jdk_38_method_24_code_1 : decode jdk_38_method_24_code 1 = .ok (.aload_n 2, 1) := by decide +kernel
theorem own_d_jdk_38_method_24_code_2 : decode jdk_38_method_24_code 2 = .ok (.arraylength, 1) := by decide +kernel
theorem own_d_jdk_38_method_24_code_3 : decode jdk_38_method_24_code 3 = .ok (.if_icmp .ne 8, 3) := by decide +kernel
theorem own_d_jdk_38_method_24_code_6 : decode jdk_38_method_24_code 6 = .ok (.aload_n 0, 1) := by decide +kernel
theorem own_d_jdk_38_method_24_code_7 : decode jdk_38_method_24_code 7 = .ok (.invokevirtual 129, 3) := by decide +kernel
theorem own_pd3 : parseMethodDescriptor "()[Ljava/lang/Object;" = some ⟨[], some (.array (.object "java/lang/Object"))⟩ := by decide +kernel
theorem own_d_jdk_38_method_24_code_10 : decode jdk_38_method_24_code 10 = .ok (.astore_n 2, 1) := by decide +kernel
theorem own_d_jdk_38_method_24_code_11 : decode jdk_38_method_24_code 11 = .ok (.aload_n 2, 1) := by decide +kernel
theorem own_d_jdk_38_method_24_code_12 : decode jdk_38_method_24_code 12 = .ok (.iload_n 3, 1) := by decide +kernel
theorem own_d_jdk_38_method_24_code_13 : decode jdk_38_method_24_code 13 = .ok (.aload_n 1, 1) := by decide +kernel
theorem own_d_jdk_38_method_24_code_14 : decode jdk_38_method_24_code 14 = .ok (.aastore, 1) := by decide +kernel
theorem own_d_jdk_38_method_24_code_15 : decode jdk_38_method_24_code 15 = .ok (.aload_n 0, 1) := by decide +kernel
theorem own_d_jdk_38_method_24_code_16 : decode jdk_38_method_24_code 16 = .ok (.iload_n 3, 1) := by decide +kernel
theorem own_d_jdk_38_method_24_code_17 : decode jdk_38_method_24_code 17 = .ok (.iconst 1, 1) := by decide +kernel
theorem own_d_jdk_38_method_24_code_18 : decode jdk_38_method_24_code 18 = .ok (.iadd, 1) := by decide +kernel
theorem own_d_jdk_38_method_24_code_19 : decode jdk_38_method_24_code 19 = .ok (.putfield 48, 3) := by decide +kernel
theorem own_d_jdk_38_method_24_code_22 : decode jdk_38_method_24_code 22 = .ok (.return_, 1) := by decide +kernel
theorem own_d_jdk_38_method_25_code_0 : decode jdk_38_method_25_code 0 = .ok (.aload_n 0, 1) := by decide +kernel
theorem own_d_jdk_38_method_25_code_1 : decode jdk_38_method_25_code 1 = .ok (.dup, 1) := by decide +kernel
theorem own_d_jdk_38_method_25_code_2 : decode jdk_38_method_25_code 2 = .ok (.getfield 63, 3) := by decide +kernel
theorem own_d_jdk_38_method_25_code_5 : decode jdk_38_method_25_code 5 = .ok (.iconst 1, 1) := by decide +kernel
theorem own_d_jdk_38_method_25_code_6 : decode jdk_38_method_25_code 6 = .ok (.iadd, 1) := by decide +kernel
theorem own_d_jdk_38_method_25_code_7 : decode jdk_38_method_25_code 7 = .ok (.putfield 63, 3) := by decide +kernel
theorem own_d_jdk_38_method_25_code_10 : decode jdk_38_method_25_code 10 = .ok (.aload_n 0, 1) := by decide +kernel
theorem own_d_jdk_38_method_25_code_11 : decode jdk_38_method_25_code 11 = .ok (.aload_n 1, 1) := by decide +kernel
theorem own_d_jdk_38_method_25_code_12 : decode jdk_38_method_25_code 12 = .ok (.aload_n 0, 1) := by decide +kernel
theorem own_d_jdk_38_method_25_code_13 : decode jdk_38_method_25_code 13 = .ok (.getfield 9, 3) := by decide +kernel
theorem own_d_jdk_38_method_25_code_16 : decode jdk_38_method_25_code 16 = .ok (.aload_n 0, 1) := by decide +kernel
theorem own_d_jdk_38_method_25_code_17 : decode jdk_38_method_25_code 17 = .ok (.getfield 48, 3) := by decide +kernel
theorem own_d_jdk_38_method_25_code_20 : decode jdk_38_method_25_code 20 = .ok (.invokevirtual 131, 3) := by decide +kernel
theorem own_pd4 : parseMethodDescriptor "(Ljava/lang/Object;[Ljava/lang/Object;I)V" = some ⟨[(.object "java/lang/Object"), (.array (.object "java/lang/Object")), .int], none⟩ := by decide +kernel
theorem own_d_jdk_38_method_25_code_23 : decode jdk_38_method_25_code 23 = .ok (.iconst 1, 1) := by decide +kernel
theorem own_d_jdk_38_method_25_code_24 : decode jdk_38_method_25_code 24 = .ok (.ireturn, 1) := by decide +kernel
theorem own_d_jdk_38_method_9_code_0 : decode jdk_38_method_9_code 0 = .ok (.aload_n 0, 1) := by decide +kernel
theorem own_d_jdk_38_method_9_code_1 : decode jdk_38_method_9_code 1 = .ok (.getfield 48, 3) := by decide +kernel
theorem own_d_jdk_38_method_9_code_4 : decode jdk_38_method_9_code 4 = .ok (.ifCond .ne 7, 3) := by decide +kernel
theorem own_d_jdk_38_method_9_code_7 : decode jdk_38_method_9_code 7 = .ok (.iconst 1, 1) := by decide +kernel
theorem own_d_jdk_38_method_9_code_8 : decode jdk_38_method_9_code 8 = .ok (.goto 4, 3) := by decide +kernel
theorem own_d_jdk_38_method_9_code_12 : decode jdk_38_method_9_code 12 = .ok (.ireturn, 1) := by decide +kernel
theorem own_d_jdk_38_method_9_code_11 : decode jdk_38_method_9_code 11 = .ok (.iconst 0, 1) := by decide +kernel
theorem own_d_jdk_29_method_69_code_0 : decode jdk_29_method_69_code 0 = .ok (.iload_n 0, 1) := by decide +kernel
theorem own_d_jdk_29_method_69_code_1 : decode jdk_29_method_69_code 1 = .ok (.iload_n 1, 1) := by decide +kernel
theorem own_d_jdk_29_method_69_code_2 : decode jdk_29_method_69_code 2 = .ok (.if_icmp .gt 7, 3) := by decide +kernel
theorem own_d_jdk_29_method_69_code_9 : decode jdk_29_method_69_code 9 = .ok (.iload_n 1, 1) := by decide +kernel
theorem own_d_jdk_29_method_69_code_10 : decode jdk_29_method_69_code 10 = .ok (.ireturn, 1) := by decide +kernel
theorem own_d_jdk_65_method_120_code_0 : decode jdk_65_method_120_code 0 = .ok (.aload_n 2, 1) := by decide +kernel
theorem own_d_jdk_65_method_120_code_1 : decode jdk_65_method_120_code 1 = .ok (.ldc 110, 2) := by decide +kernel
theorem own_d_jdk_65_method_120_code_3 : decode jdk_65_method_120_code 3 = .ok (.if_acmp .ne 10, 3) := by decide +kernel
theorem own_d_jdk_65_method_120_code_6 : decode jdk_65_method_120_code 6 = .ok (.iload_n 1, 1) := by decide +kernel
theorem own_d_jdk_65_method_120_code_7 : decode jdk_65_method_120_code 7 = .ok (.anewarray 2, 3) := by decide +kernel
theorem own_d_jdk_65_method_120_code_10 : decode jdk_65_method_120_code 10 = .ok (.goto 14, 3) := by decide +kernel
theorem own_d_jdk_65_method_120_code_24 : decode jdk_65_method_120_code 24 = .ok (.astore_n 3, 1) := by decide +kernel
theorem own_d_jdk_65_method_120_code_25 : decode jdk_65_method_120_code 25 = .ok (.aload_n 0, 1) := by decide +kernel
theorem own_d_jdk_65_method_120_code_26 : decode jdk_65_method_120_code 26 = .ok (.iconst 0, 1) := by decide +kernel
theorem own_d_jdk_65_method_120_code_27 : decode jdk_65_method_120_code 27 = .ok (.aload_n 3, 1) := by decide +kernel
theorem own_d_jdk_65_method_120_code_28 : decode jdk_65_method_120_code 28 = .ok (.iconst 0, 1) := by decide +kernel
theorem own_d_jdk_65_method_120_code_29 : decode jdk_65_method_120_code 29 = .ok (.aload_n 0, 1) := by decide +kernel
theorem own_d_jdk_65_method_120_code_30 : decode jdk_65_method_120_code 30 = .ok (.arraylength, 1) := by decide +kernel
theorem own_d_jdk_65_method_120_code_31 : decode jdk_65_method_120_code 31 = .ok (.iload_n 1, 1) := by decide +kernel
theorem own_d_jdk_65_method_120_code_32 : decode jdk_65_method_120_code 32 = .ok (.invokestatic 304, 3) := by decide +kernel
theorem own_d_jdk_65_method_120_code_35 : decode jdk_65_method_120_code 35 = .ok (.invokestatic 150, 3) := by decide +kernel
theorem own_d_jdk_65_method_120_code_38 : decode jdk_65_method_120_code 38 = .ok (.aload_n 3, 1) := by decide +kernel
theorem own_d_jdk_65_method_120_code_39 : decode jdk_65_method_120_code 39 = .ok (.areturn, 1) := by decide +kernel
theorem own_d_jdk_65_method_119_code_0 : decode jdk_65_method_119_code 0 = .ok (.aload_n 0, 1) := by decide +kernel
theorem own_d_jdk_65_method_119_code_1 : decode jdk_65_method_119_code 1 = .ok (.iload_n 1, 1) := by decide +kernel
theorem own_d_jdk_65_method_119_code_2 : decode jdk_65_method_119_code 2 = .ok (.aload_n 0, 1) := by decide +kernel
theorem own_d_jdk_65_method_119_code_3 : decode jdk_65_method_119_code 3 = .ok (.invokevirtual 86, 3) := by decide +kernel
theorem own_d_jdk_65_method_119_code_6 : decode jdk_65_method_119_code 6 = .ok (.invokestatic 300, 3) := by decide +kernel
theorem own_pd5 : parseMethodDescriptor "([Ljava/lang/Object;ILjava/lang/Class;)[Ljava/lang/Object;" = some ⟨[(.array (.object "java/lang/Object")), .int, (.object "java/lang/Class")], some (.array (.object "java/lang/Object"))⟩ := by decide +kernel
theorem own_d_jdk_65_method_119_code_9 : decode jdk_65_method_119_code 9 = .ok (.areturn, 1) := by decide +kernel
theorem own_d_jdk_38_method_16_code_0 : decode jdk_38_method_16_code 0 = .ok (.aload_n 0, 1) := by decide +kernel
theorem own_d_jdk_38_method_16_code_1 : decode jdk_38_method_16_code 1 = .ok (.getfield 9, 3) := by decide +kernel
theorem own_d_jdk_38_method_16_code_4 : decode jdk_38_method_16_code 4 = .ok (.aload_n 0, 1) := by decide +kernel
theorem own_d_jdk_38_method_16_code_5 : decode jdk_38_method_16_code 5 = .ok (.getfield 48, 3) := by decide +kernel
theorem own_d_jdk_38_method_16_code_8 : decode jdk_38_method_16_code 8 = .ok (.invokestatic 66, 3) := by decide +kernel
theorem own_pd6 : parseMethodDescriptor "([Ljava/lang/Object;I)[Ljava/lang/Object;" = some ⟨[(.array (.object "java/lang/Object")), .int], some (.array (.object "java/lang/Object"))⟩ := by decide +kernel
theorem own_d_jdk_38_method_16_code_11 : decode jdk_38_method_16_code 11 = .ok (.areturn, 1) := by decide +kernel
theorem own_d_jdk_47_method_1_code_0 : decode jdk_47_method_1_code 0 = .ok (.aload_n 0, 1) := by decide +kernel
theorem own_d_jdk_47_method_1_code_1 : decode jdk_47_method_1_code 1 = .ok (.invokespecial 1, 3) := by decide +kernel
theorem own_d_jdk_47_method_1_code_4 : decode jdk_47_method_1_code 4 = .ok (.return_, 1) := by decide +kernel
theorem own_d_jdk_46_method_1_code_0 : decode jdk_46_method_1_code 0 = .ok (.aload_n 0, 1) := by decide +kernel
theorem own_d_jdk_46_method_1_code_1 : decode jdk_46_method_1_code 1 = .ok (.invokespecial 1, 3) := by decide +kernel
theorem own_d_jdk_46_method_1_code_4 : decode jdk_46_method_1_code 4 = .ok (.return_, 1) := by decide +kernel
theorem own_d_jdk_44_method_1_code_0 : decode jdk_44_method_1_code 0 = .ok (.aload_n 0, 1) := by decide +kernel
theorem own_d_jdk_44_method_1_code_1 : decode jdk_44_method_1_code 1 = .ok (.invokespecial 1, 3) := by decide +kernel
theorem own_d_jdk_44_method_1_code_4 : decode jdk_44_method_1_code 4 = .ok (.aload_n 0, 1) := by decide +kernel
theorem own_d_jdk_44_method_1_code_5 : decode jdk_44_method_1_code 5 = .ok (.aload_n 1, 1) := by decide +kernel
theorem own_d_jdk_44_method_1_code_6 : decode jdk_44_method_1_code 6 = .ok (.invokestatic 7, 3) := by decide +kernel
theorem own_pd7 : parseMethodDescriptor "(Ljava/lang/Object;)Ljava/lang/Object;" = some ⟨[(.object "java/lang/Object")], some (.object "java/lang/Object")⟩ := by decide +kernel
theorem own_d_jdk_44_method_1_code_9 : decode jdk_44_method_1_code 9 = .ok (.putfield 13, 3) := by decide +kernel
theorem own_d_jdk_44_method_1_code_12 : decode jdk_44_method_1_code 12 = .ok (.aload_n 0, 1) := by decide +kernel
theorem own_d_jdk_44_method_1_code_13 : decode jdk_44_method_1_code 13 = .ok (.getstatic 19, 3) := by decide +kernel
theorem own_d_jdk_44_method_1_code_16 : decode jdk_44_method_1_code 16 = .ok (.putfield 24, 3) := by decide +kernel
theorem own_d_jdk_44_method_1_code_19 : decode jdk_44_method_1_code 19 = .ok (.return_, 1) := by decide +kernel
theorem own_d_jdk_40_method_47_code_0 : decode jdk_40_method_47_code 0 = .ok (.aload_n 0, 1) := by decide +kernel
theorem own_d_jdk_40_method_47_code_1 : decode jdk_40_method_47_code 1 = .ok (.arraylength, 1) := by decide +kernel
theorem own_d_jdk_40_method_47_code_2 : decode jdk_40_method_47_code 2 = .ok (.tableswitch 57 0 2 #[26, 32, 43], 26) := by decide +kernel
theorem own_d_jdk_40_method_47_code_34 : decode jdk_40_method_47_code 34 = .ok (.new 96, 3) := by decide +kernel
theorem own_d_jdk_40_method_47_code_37 : decode jdk_40_method_47_code 37 = .ok (.dup, 1) := by decide +kernel
theorem own_d_jdk_40_method_47_code_38 : decode jdk_40_method_47_code 38 = .ok (.aload_n 0, 1) := by decide +kernel
theorem own_d_jdk_40_method_47_code_39 : decode jdk_40_method_47_code 39 = .ok (.iconst 0, 1) := by decide +kernel
theorem own_d_jdk_40_method_47_code_40 : decode jdk_40_method_47_code 40 = .ok (.aaload, 1) := by decide +kernel
theorem own_d_jdk_40_method_47_code_41 : decode jdk_40_method_47_code 41 = .ok (.invokespecial 98, 3) := by decide +kernel
theorem own_pd8 : parseMethodDescriptor "(Ljava/lang/Object;)V" = some ⟨[(.object "java/lang/Object")], none⟩ := by decide +kernel
theorem own_d_jdk_40_method_47_code_44 : decode jdk_40_method_47_code 44 = .ok (.areturn, 1) := by decide +kernel
theorem own_d_jdk_40_method_36_code_0 : decode jdk_40_method_36_code 0 = .ok (.getstatic 90, 3) := by decide +kernel
theorem own_d_jdk_40_method_36_code_3 : decode jdk_40_method_36_code 3 = .ok (.areturn, 1) := by decide +kernel
theorem own_d_jdk_56_method_3_code_0 : decode jdk_56_method_3_code 0 = .ok (.aload_n 0, 1) := by decide +kernel
theorem own_d_jdk_56_method_3_code_1 : decode jdk_56_method_3_code 1 = .ok (.instanceof 10, 3) := by decide +kernel
theorem own_d_jdk_56_method_3_code_4 : decode jdk_56_method_3_code 4 = .ok (.ifCond .ne 22, 3) := by decide +kernel
theorem own_d_jdk_56_method_3_code_7 : decode jdk_56_method_3_code 7 = .ok (.aload_n 0, 1) := by decide +kernel
theorem own_d_jdk_56_method_3_code_8 : decode jdk_56_method_3_code 8 = .ok (.instanceof 12, 3) := by decide +kernel
theorem own_d_jdk_56_method_3_code_11 : decode jdk_56_method_3_code 11 = .ok (.ifCond .eq 20, 3) := by decide +kernel
theorem own_d_jdk_56_method_3_code_31 : decode jdk_56_method_3_code 31 = .ok (.aload_n 0, 1) := by decide +kernel
theorem own_d_jdk_56_method_3_code_32 : decode jdk_56_method_3_code 32 = .ok (.invokeinterface 20 1, 5) := by decide +kernel
theorem own_pd9 : parseMethodDescriptor "()Z" = some ⟨[], some .boolean⟩ := by decide +kernel
theorem own_d_jdk_56_method_3_code_37 : decode jdk_56_method_3_code 37 = .ok (.ifCond .eq 7, 3) := by decide +kernel
theorem own_d_jdk_56_method_3_code_44 : decode jdk_56_method_3_code 44 = .ok (.aload_n 0, 1) := by decide +kernel
theorem own_d_jdk_56_method_3_code_45 : decode jdk_56_method_3_code 45 = .ok (.invokeinterface 30 1, 5) := by decide +kernel
theorem own_d_jdk_56_method_3_code_50 : decode jdk_56_method_3_code 50 = .ok (.invokestatic 34, 3) := by decide +kernel
theorem own_pd10 : parseMethodDescriptor "([Ljava/lang/Object;)Ljava/util/List;" = some ⟨[(.array (.object "java/lang/Object"))], some (.object "java/util/List")⟩ := by decide +kernel
theorem own_d_jdk_56_method_3_code_53 : decode jdk_56_method_3_code 53 = .ok (.areturn, 1) := by decide +kernel
theorem own_d_jdk_40_method_48_code_0 : decode jdk_40_method_48_code 0 = .ok (.aload_n 0, 1) := by decide +kernel
theorem own_d_jdk_40_method_48_code_1 : decode jdk_40_method_48_code 1 = .ok (.invokestatic 112, 3) := by decide +kernel
theorem own_pd11 : parseMethodDescriptor "(Ljava/util/Collection;)Ljava/util/List;" = some ⟨[(.object "java/util/Collection")], some (.object "java/util/List")⟩ := by decide +kernel
theorem own_d_jdk_40_method_48_code_4 : decode jdk_40_method_48_code 4 = .ok (.areturn, 1) := by decide +kernel
theorem own_d_jdk_56_method_3_code_40 : decode jdk_56_method_3_code 40 = .ok (.invokestatic 26, 3) := by decide +kernel
theorem own_pd12 : parseMethodDescriptor "()Ljava/util/List;" = some ⟨[], some (.object "java/util/List")⟩ := by decide +kernel
theorem own_d_jdk_56_method_3_code_43 : decode jdk_56_method_3_code 43 = .ok (.areturn, 1) := by decide +kernel
theorem own_d_jdk_56_method_3_code_26 : decode jdk_56_method_3_code 26 = .ok (.aload_n 0, 1) := by decide +kernel
theorem own_d_jdk_56_method_3_code_27 : decode jdk_56_method_3_code 27 = .ok (.checkcast 18, 3) := by decide +kernel
theorem own_d_jdk_56_method_3_code_30 : decode jdk_56_method_3_code 30 = .ok (.areturn, 1) := by decide +kernel
theorem own_d_jdk_56_method_3_code_14 : decode jdk_56_method_3_code 14 = .ok (.aload_n 0, 1) := by decide +kernel
theorem own_d_jdk_56_method_3_code_15 : decode jdk_56_method_3_code 15 = .ok (.checkcast 12, 3) := by decide +kernel
theorem own_d_jdk_56_method_3_code_18 : decode jdk_56_method_3_code 18 = .ok (.astore_n 1, 1) := by decide +kernel
theorem own_d_jdk_56_method_3_code_19 : decode jdk_56_method_3_code 19 = .ok (.aload_n 1, 1) := by decide +kernel
theorem own_d_jdk_56_method_3_code_20 : decode jdk_56_method_3_code 20 = .ok (.getfield 14, 3) := by decide +kernel
theorem own_d_jdk_56_method_3_code_23 : decode jdk_56_method_3_code 23 = .ok (.ifCond .ne 8, 3) := by decide +kernel
theorem own_d_method_2_code_0 : decode method_2_code 0 = .ok (.iconst 2, 1) := by decide +kernel
theorem own_d_method_2_code_1 : decode method_2_code 1 = .ok (.newarray .char, 2) := by decide +kernel
theorem own_d_method_2_code_3 : decode method_2_code 3 = .ok (.astore_n 1, 1) := by decide +kernel
theorem own_d_method_2_code_4 : decode method_2_code 4 = .ok (.aload_n 1, 1) := by decide +kernel
theorem own_d_method_2_code_5 : decode method_2_code 5 = .ok (.iconst 0, 1) := by decide +kernel
theorem own_d_method_2_code_6 : decode method_2_code 6 = .ok (.iload_n 0, 1) := by decide +kernel
theorem own_d_method_2_code_7 : decode method_2_code 7 = .ok (.sipush 255, 3) := by decide +kernel
theorem own_d_method_2_code_10 : decode method_2_code 10 = .ok (.iand, 1) := by decide +kernel
theorem own_d_method_2_code_11 : decode method_2_code 11 = .ok (.i2c, 1) := by decide +kernel
theorem own_d_method_2_code_12 : decode method_2_code 12 = .ok (.castore, 1) := by decide +kernel
theorem own_d_method_2_code_13 : decode method_2_code 13 = .ok (.aload_n 1, 1) := by decide +kernel
theorem own_d_method_2_code_14 : decode method_2_code 14 = .ok (.iconst 1, 1) := by decide +kernel
theorem own_d_method_2_code_15 : decode method_2_code 15 = .ok (.iload_n 0, 1) := by decide +kernel
theorem own_d_method_2_code_16 : decode method_2_code 16 = .ok (.bipush 8, 2) := by decide +kernel
theorem own_d_method_2_code_18 : decode method_2_code 18 = .ok (.iushr, 1) := by decide +kernel
theorem own_d_method_2_code_19 : decode method_2_code 19 = .ok (.sipush 255, 3) := by decide +kernel
theorem own_d_method_2_code_22 : decode method_2_code 22 = .ok (.iand, 1) := by decide +kernel
theorem own_d_method_2_code_23 : decode method_2_code 23 = .ok (.i2c, 1) := by decide +kernel
theorem own_d_method_2_code_24 : decode method_2_code 24 = .ok (.castore, 1) := by decide +kernel
theorem own_d_method_2_code_25 : decode method_2_code 25 = .ok (.new 7, 3) := by decide +kernel
theorem own_d_method_2_code_28 : decode method_2_code 28 = .ok (.dup, 1) := by decide +kernel
theorem own_d_method_2_code_29 : decode method_2_code 29 = .ok (.aload_n 1, 1) := by decide +kernel
theorem own_d_method_2_code_30 : decode method_2_code 30 = .ok (.invokespecial 9, 3) := by decide +kernel
theorem own_in_words : ∀ d ∈ StrChars.Road.words, d ∈ tables_1 := by decide +kernel
theorem own_pd13 : parseMethodDescriptor "([C)V" = some ⟨[(.array .char)], none⟩ := by decide +kernel
theorem own_d_method_2_code_33 : decode method_2_code 33 = .ok (.areturn, 1) := by decide +kernel
theorem own_d_prog_21_method_1_code_0 : decode prog_21_method_1_code 0 = .ok (.aload_n 0, 1) := by decide +kernel
theorem own_d_prog_21_method_1_code_1 : decode prog_21_method_1_code 1 = .ok (.invokespecial 1, 3) := by decide +kernel
theorem own_d_prog_21_method_1_code_4 : decode prog_21_method_1_code 4 = .ok (.aload_n 0, 1) := by decide +kernel
theorem own_d_prog_21_method_1_code_5 : decode prog_21_method_1_code 5 = .ok (.aload_n 1, 1) := by decide +kernel
theorem own_d_prog_21_method_1_code_6 : decode prog_21_method_1_code 6 = .ok (.putfield 7, 3) := by decide +kernel
theorem own_d_prog_21_method_1_code_9 : decode prog_21_method_1_code 9 = .ok (.aload_n 0, 1) := by decide +kernel
theorem own_d_prog_21_method_1_code_10 : decode prog_21_method_1_code 10 = .ok (.iload_n 2, 1) := by decide +kernel
theorem own_d_prog_21_method_1_code_11 : decode prog_21_method_1_code 11 = .ok (.putfield 13, 3) := by decide +kernel
theorem own_d_prog_21_method_1_code_14 : decode prog_21_method_1_code 14 = .ok (.aload_n 0, 1) := by decide +kernel
theorem own_d_prog_21_method_1_code_15 : decode prog_21_method_1_code 15 = .ok (.iload_n 3, 1) := by decide +kernel
theorem own_d_prog_21_method_1_code_16 : decode prog_21_method_1_code 16 = .ok (.putfield 17, 3) := by decide +kernel
theorem own_d_prog_21_method_1_code_19 : decode prog_21_method_1_code 19 = .ok (.return_, 1) := by decide +kernel
theorem own_d_prog_19_method_1_code_0 : decode prog_19_method_1_code 0 = .ok (.aload_n 0, 1) := by decide +kernel
theorem own_d_prog_19_method_1_code_1 : decode prog_19_method_1_code 1 = .ok (.invokespecial 1, 3) := by decide +kernel
theorem own_d_prog_19_method_1_code_4 : decode prog_19_method_1_code 4 = .ok (.aload 8, 2) := by decide +kernel
theorem own_d_prog_19_method_1_code_6 : decode prog_19_method_1_code 6 = .ok (.invokestatic 7, 3) := by decide +kernel
theorem own_d_prog_19_method_1_code_9 : decode prog_19_method_1_code 9 = .ok (.astore 8, 2) := by decide +kernel
theorem own_d_prog_19_method_1_code_11 : decode prog_19_method_1_code 11 = .ok (.aload 9, 2) := by decide +kernel
theorem own_d_prog_19_method_1_code_13 : decode prog_19_method_1_code 13 = .ok (.invokestatic 7, 3) := by decide +kernel
theorem own_d_prog_19_method_1_code_16 : decode prog_19_method_1_code 16 = .ok (.astore 9, 2) := by decide +kernel
theorem own_d_prog_19_method_1_code_18 : decode prog_19_method_1_code 18 = .ok (.aload_n 0, 1) := by decide +kernel
theorem own_d_prog_19_method_1_code_19 : decode prog_19_method_1_code 19 = .ok (.lload_n 1, 1) := by decide +kernel
theorem own_d_prog_19_method_1_code_20 : decode prog_19_method_1_code 20 = .ok (.putfield 13, 3) := by decide +kernel
theorem own_d_prog_19_method_1_code_23 : decode prog_19_method_1_code 23 = .ok (.aload_n 0, 1) := by decide +kernel
theorem own_d_prog_19_method_1_code_24 : decode prog_19_method_1_code 24 = .ok (.aload_n 3, 1) := by decide +kernel
theorem own_d_prog_19_method_1_code_25 : decode prog_19_method_1_code 25 = .ok (.putfield 19, 3) := by decide +kernel
theorem own_d_prog_19_method_1_code_28 : decode prog_19_method_1_code 28 = .ok (.aload_n 0, 1) := by decide +kernel
theorem own_d_prog_19_method_1_code_29 : decode prog_19_method_1_code 29 = .ok (.aload 4, 2) := by decide +kernel
theorem own_d_prog_19_method_1_code_31 : decode prog_19_method_1_code 31 = .ok (.putfield 23, 3) := by decide +kernel
theorem own_d_prog_19_method_1_code_34 : decode prog_19_method_1_code 34 = .ok (.aload_n 0, 1) := by decide +kernel
theorem own_d_prog_19_method_1_code_35 : decode prog_19_method_1_code 35 = .ok (.aload 5, 2) := by decide +kernel
theorem own_d_prog_19_method_1_code_37 : decode prog_19_method_1_code 37 = .ok (.putfield 26, 3) := by decide +kernel
theorem own_d_prog_19_method_1_code_40 : decode prog_19_method_1_code 40 = .ok (.aload_n 0, 1) := by decide +kernel
theorem own_d_prog_19_method_1_code_41 : decode prog_19_method_1_code 41 = .ok (.aload 6, 2) := by decide +kernel
theorem own_d_prog_19_method_1_code_43 : decode prog_19_method_1_code 43 = .ok (.putfield 30, 3) := by decide +kernel
theorem own_d_prog_19_method_1_code_46 : decode prog_19_method_1_code 46 = .ok (.aload_n 0, 1) := by decide +kernel
theorem own_d_prog_19_method_1_code_47 : decode prog_19_method_1_code 47 = .ok (.iload 7, 2) := by decide +kernel
theorem own_d_prog_19_method_1_code_49 : decode prog_19_method_1_code 49 = .ok (.putfield 33, 3) := by decide +kernel
theorem own_d_prog_19_method_1_code_52 : decode prog_19_method_1_code 52 = .ok (.aload_n 0, 1) := by decide +kernel
theorem own_d_prog_19_method_1_code_53 : decode prog_19_method_1_code 53 = .ok (.aload 8, 2) := by decide +kernel
theorem own_d_prog_19_method_1_code_55 : decode prog_19_method_1_code 55 = .ok (.putfield 37, 3) := by decide +kernel
theorem own_d_prog_19_method_1_code_58 : decode prog_19_method_1_code 58 = .ok (.aload_n 0, 1) := by decide +kernel
theorem own_d_prog_19_method_1_code_59 : decode prog_19_method_1_code 59 = .ok (.aload 9, 2) := by decide +kernel
theorem own_d_prog_19_method_1_code_61 : decode prog_19_method_1_code 61 = .ok (.putfield 41, 3) := by decide +kernel
theorem own_d_prog_19_method_1_code_64 : decode prog_19_method_1_code 64 = .ok (.return_, 1) := by decide +kernel
theorem own_d_prog_19_method_3_code_0 : decode prog_19_method_3_code 0 = .ok (.new 14, 3) := by decide +kernel
theorem own_d_prog_19_method_3_code_3 : decode prog_19_method_3_code 3 = .ok (.dup, 1) := by decide +kernel
theorem own_d_prog_19_method_3_code_4 : decode prog_19_method_3_code 4 = .ok (.aload_n 0, 1) := by decide +kernel
theorem own_d_prog_19_method_3_code_5 : decode prog_19_method_3_code 5 = .ok (.getfield 13, 3) := by decide +kernel
theorem own_d_prog_19_method_3_code_8 : decode prog_19_method_3_code 8 = .ok (.aload_n 0, 1) := by decide +kernel
theorem own_d_prog_19_method_3_code_9 : decode prog_19_method_3_code 9 = .ok (.getfield 19, 3) := by decide +kernel
theorem own_d_prog_19_method_3_code_12 : decode prog_19_method_3_code 12 = .ok (.aload_n 0, 1) := by decide +kernel
theorem own_d_prog_19_method_3_code_13 : decode prog_19_method_3_code 13 = .ok (.getfield 23, 3) := by decide +kernel
theorem own_d_prog_19_method_3_code_16 : decode prog_19_method_3_code 16 = .ok (.aload_n 0, 1) := by decide +kernel
theorem own_d_prog_19_method_3_code_17 : decode prog_19_method_3_code 17 = .ok (.getfield 26, 3) := by decide +kernel
theorem own_d_prog_19_method_3_code_20 : decode prog_19_method_3_code 20 = .ok (.aload_n 1, 1) := by decide +kernel
theorem own_d_prog_19_method_3_code_21 : decode prog_19_method_3_code 21 = .ok (.aload_n 0, 1) := by decide +kernel
theorem own_d_prog_19_method_3_code_22 : decode prog_19_method_3_code 22 = .ok (.getfield 33, 3) := by decide +kernel
theorem own_d_prog_19_method_3_code_25 : decode prog_19_method_3_code 25 = .ok (.aload_n 0, 1) := by decide +kernel
theorem own_d_prog_19_method_3_code_26 : decode prog_19_method_3_code 26 = .ok (.getfield 37, 3) := by decide +kernel
theorem own_d_prog_19_method_3_code_29 : decode prog_19_method_3_code 29 = .ok (.aload_n 0, 1) := by decide +kernel
theorem own_d_prog_19_method_3_code_30 : decode prog_19_method_3_code 30 = .ok (.getfield 41, 3) := by decide +kernel
theorem own_d_prog_19_method_3_code_33 : decode prog_19_method_3_code 33 = .ok (.invokespecial 44, 3) := by decide +kernel
theorem own_pd14 : parseMethodDescriptor "(JLjava/lang/String;Ljava/lang/String;Lcom/example/myna/myna/orders/Order$State;Ljava/lang/String;ZLjava/util/List;Ljava/util/List;)V" = some ⟨[.long, (.object "java/lang/String"), (.object "java/lang/String"), (.object "com/example/myna/myna/orders/Order$State"), (.object "java/lang/String"), .boolean, (.object "java/util/List"), (.object "java/util/List")], none⟩ := by decide +kernel
theorem own_d_prog_19_method_3_code_36 : decode prog_19_method_3_code 36 = .ok (.areturn, 1) := by decide +kernel
theorem own_d_prog_19_method_10_code_0 : decode prog_19_method_10_code 0 = .ok (.aload_n 0, 1) := by decide +kernel
theorem own_d_prog_19_method_10_code_1 : decode prog_19_method_10_code 1 = .ok (.getfield 13, 3) := by decide +kernel
theorem own_d_prog_19_method_10_code_4 : decode prog_19_method_10_code 4 = .ok (.lreturn, 1) := by decide +kernel
theorem own_d_prog_19_method_11_code_0 : decode prog_19_method_11_code 0 = .ok (.aload_n 0, 1) := by decide +kernel
theorem own_d_prog_19_method_11_code_1 : decode prog_19_method_11_code 1 = .ok (.getfield 19, 3) := by decide +kernel
theorem own_d_prog_19_method_11_code_4 : decode prog_19_method_11_code 4 = .ok (.areturn, 1) := by decide +kernel
theorem own_d_prog_19_method_12_code_0 : decode prog_19_method_12_code 0 = .ok (.aload_n 0, 1) := by decide +kernel
theorem own_d_prog_19_method_12_code_1 : decode prog_19_method_12_code 1 = .ok (.getfield 23, 3) := by decide +kernel
theorem own_d_prog_19_method_12_code_4 : decode prog_19_method_12_code 4 = .ok (.areturn, 1) := by decide +kernel
theorem own_d_prog_19_method_13_code_0 : decode prog_19_method_13_code 0 = .ok (.aload_n 0, 1) := by decide +kernel
theorem own_d_prog_19_method_13_code_1 : decode prog_19_method_13_code 1 = .ok (.getfield 26, 3) := by decide +kernel
theorem own_d_prog_19_method_13_code_4 : decode prog_19_method_13_code 4 = .ok (.areturn, 1) := by decide +kernel
theorem own_d_prog_19_method_14_code_0 : decode prog_19_method_14_code 0 = .ok (.aload_n 0, 1) := by decide +kernel
theorem own_d_prog_19_method_14_code_1 : decode prog_19_method_14_code 1 = .ok (.getfield 30, 3) := by decide +kernel
theorem own_d_prog_19_method_14_code_4 : decode prog_19_method_14_code 4 = .ok (.areturn, 1) := by decide +kernel
theorem own_d_prog_19_method_15_code_0 : decode prog_19_method_15_code 0 = .ok (.aload_n 0, 1) := by decide +kernel
theorem own_d_prog_19_method_15_code_1 : decode prog_19_method_15_code 1 = .ok (.getfield 33, 3) := by decide +kernel
theorem own_d_prog_19_method_15_code_4 : decode prog_19_method_15_code 4 = .ok (.ireturn, 1) := by decide +kernel
theorem own_d_prog_19_method_16_code_0 : decode prog_19_method_16_code 0 = .ok (.aload_n 0, 1) := by decide +kernel
theorem own_d_prog_19_method_16_code_1 : decode prog_19_method_16_code 1 = .ok (.getfield 37, 3) := by decide +kernel
theorem own_d_prog_19_method_16_code_4 : decode prog_19_method_16_code 4 = .ok (.areturn, 1) := by decide +kernel
theorem own_d_prog_19_method_17_code_0 : decode prog_19_method_17_code 0 = .ok (.aload_n 0, 1) := by decide +kernel
theorem own_d_prog_19_method_17_code_1 : decode prog_19_method_17_code 1 = .ok (.getfield 41, 3) := by decide +kernel
theorem own_d_prog_19_method_17_code_4 : decode prog_19_method_17_code 4 = .ok (.areturn, 1) := by decide +kernel
theorem own_d_jdk_42_method_66_code_0 : decode jdk_42_method_66_code 0 = .ok (.aload_n 0, 1) := by decide +kernel
theorem own_d_jdk_42_method_66_code_1 : decode jdk_42_method_66_code 1 = .ok (.aload_n 1, 1) := by decide +kernel
theorem own_d_jdk_42_method_66_code_2 : decode jdk_42_method_66_code 2 = .ok (.if_acmp .ne 5, 3) := by decide +kernel
theorem own_d_jdk_42_method_66_code_5 : decode jdk_42_method_66_code 5 = .ok (.iconst 1, 1) := by decide +kernel
theorem own_d_jdk_42_method_66_code_6 : decode jdk_42_method_66_code 6 = .ok (.ireturn, 1) := by decide +kernel
theorem own_d_method_3_code_0 : decode method_3_code 0 = .ok (.aload_n 0, 1) := by decide +kernel
theorem own_d_method_3_code_1 : decode method_3_code 1 = .ok (.ifnonnull 13, 3) := by decide +kernel
theorem own_d_method_3_code_4 : decode method_3_code 4 = .ok (.aload_n 1, 1) := by decide +kernel
theorem own_d_method_3_code_5 : decode method_3_code 5 = .ok (.ifnonnull 7, 3) := by decide +kernel
theorem own_d_method_3_code_8 : decode method_3_code 8 = .ok (.iconst 1, 1) := by decide +kernel
theorem own_d_method_3_code_9 : decode method_3_code 9 = .ok (.goto 4, 3) := by decide +kernel
theorem own_d_method_3_code_13 : decode method_3_code 13 = .ok (.ireturn, 1) := by decide +kernel
theorem own_d_method_3_code_14 : decode method_3_code 14 = .ok (.aload_n 0, 1) := by decide +kernel
theorem own_d_method_3_code_15 : decode method_3_code 15 = .ok (.aload_n 1, 1) := by decide +kernel
theorem own_d_method_3_code_16 : decode method_3_code 16 = .ok (.invokevirtual 12, 3) := by decide +kernel
theorem own_pd15 : parseMethodDescriptor "(Ljava/lang/Object;)Z" = some ⟨[(.object "java/lang/Object")], some .boolean⟩ := by decide +kernel
theorem own_d_method_3_code_19 : decode method_3_code 19 = .ok (.ireturn, 1) := by decide +kernel
theorem own_d_jdk_44_method_3_code_0 : decode jdk_44_method_3_code 0 = .ok (.aload_n 0, 1) := by decide +kernel
theorem own_d_jdk_44_method_3_code_1 : decode jdk_44_method_3_code 1 = .ok (.getfield 24, 3) := by decide +kernel
theorem own_d_jdk_44_method_3_code_4 : decode jdk_44_method_3_code 4 = .ok (.getstatic 19, 3) := by decide +kernel
theorem own_d_jdk_44_method_3_code_7 : decode jdk_44_method_3_code 7 = .ok (.if_acmp .eq 7, 3) := by decide +kernel
theorem own_d_jdk_44_method_3_code_14 : decode jdk_44_method_3_code 14 = .ok (.iconst 1, 1) := by decide +kernel
theorem own_d_jdk_44_method_3_code_15 : decode jdk_44_method_3_code 15 = .ok (.ireturn, 1) := by decide +kernel
theorem own_d_jdk_44_method_5_code_0 : decode jdk_44_method_5_code 0 = .ok (.iload_n 1, 1) := by decide +kernel
theorem own_d_jdk_44_method_5_code_1 : decode jdk_44_method_5_code 1 = .ok (.ifCond .ne 8, 3) := by decide +kernel
theorem own_d_jdk_44_method_5_code_4 : decode jdk_44_method_5_code 4 = .ok (.aload_n 0, 1) := by decide +kernel
theorem own_d_jdk_44_method_5_code_5 : decode jdk_44_method_5_code 5 = .ok (.getfield 13, 3) := by decide +kernel
theorem own_d_jdk_44_method_5_code_8 : decode jdk_44_method_5_code 8 = .ok (.areturn, 1) := by decide +kernel
theorem own_d_jdk_45_method_3_code_0 : decode jdk_45_method_3_code 0 = .ok (.aload_n 0, 1) := by decide +kernel
theorem own_d_jdk_45_method_3_code_1 : decode jdk_45_method_3_code 1 = .ok (.getfield 7, 3) := by decide +kernel
theorem own_d_jdk_45_method_3_code_4 : decode jdk_45_method_3_code 4 = .ok (.arraylength, 1) := by decide +kernel
theorem own_d_jdk_45_method_3_code_5 : decode jdk_45_method_3_code 5 = .ok (.ireturn, 1) := by decide +kernel
theorem own_pd16 : parseMethodDescriptor "(I)Ljava/lang/String;" = some ⟨[.int], some (.object "java/lang/String")⟩ := by decide +kernel
theorem own_pd17 : parseMethodDescriptor "(Lcom/example/myna/myna/catalog/Sku;II)V" = some ⟨[(.object "com/example/myna/myna/catalog/Sku"), .int, .int], none⟩ := by decide +kernel
theorem own_pd18 : parseMethodDescriptor "(Ljava/lang/String;)Lcom/example/myna/myna/orders/Order;" = some ⟨[(.object "java/lang/String")], some (.object "com/example/myna/myna/orders/Order")⟩ := by decide +kernel
theorem own_pd19 : parseMethodDescriptor "()J" = some ⟨[], some .long⟩ := by decide +kernel
theorem own_pd20 : parseMethodDescriptor "()Ljava/lang/String;" = some ⟨[], some (.object "java/lang/String")⟩ := by decide +kernel
theorem own_pd21 : parseMethodDescriptor "(Ljava/lang/String;Ljava/lang/String;)Z" = some ⟨[(.object "java/lang/String"), (.object "java/lang/String")], some .boolean⟩ := by decide +kernel
theorem own_pd22 : parseMethodDescriptor "()Lcom/example/myna/myna/orders/Order$State;" = some ⟨[], some (.object "com/example/myna/myna/orders/Order$State")⟩ := by decide +kernel
theorem own_pd23 : parseMethodDescriptor "()I" = some ⟨[], some .int⟩ := by decide +kernel
theorem own_pd24 : parseMethodDescriptor "(I)Ljava/lang/Object;" = some ⟨[.int], some (.object "java/lang/Object")⟩ := by decide +kernel
theorem own_eqI {t : Term} {args : Array Value} {s : State} {k : Int32} (h : (Jvm.Cond.eq t (Jvm.Term.int k)).value args s none s [] = some true) : t.eval args s none [] s = some (.int k) := by
  obtain ⟨x, y, h1, h2, h3, h4⟩ := cmp_v (Or.inl h)
  have h5 : (Jvm.Term.int k).eval args s none [] s = some (.int k) := Term.int_eval k
  rw [h5] at h2
  obtain rfl : (Value.int k) = y := Option.some.inj h2
  obtain ⟨z, rfl⟩ := h4
  have h6 : (Jvm.Cond.eq t (Jvm.Term.int k)).value args s none s [] = some (decide (z = k)) := by simp [Cond.value, h1, h5]
  rw [h6] at h
  have h7 : z = k := of_decide_eq_true (Option.some.inj h)
  rw [h1, h7]
theorem own_ord {s : State} {args : Array Value} {t t' : Term} {a b : Addr} {C n d : String} {i j : Int32} (ha : t.eval args s none [] s = some (.ref a)) (hb : t'.eval args s none [] s = some (.ref b))
    (h1 : (Jvm.Cond.eq (Jvm.Term.field t C n d) (Jvm.Term.int i)).value args s none s [] = some true) (h2 : (Jvm.Cond.eq (Jvm.Term.field t' C n d) (Jvm.Term.int j)).value args s none s [] = some true) (hij : i ≠ j) : a ≠ b := fun e => by
  subst e
  have e1 := own_eqI h1; have e2 := own_eqI h2
  rw [fld_at ha] at e1; rw [fld_at hb] at e2
  rw [e1] at e2
  exact hij (Value.int.inj (Option.some.inj e2))
theorem own_narb {P : Prop} [Decidable P] {z : Int32} (h : z = (if P then (0 : Int32) else (1 : Int32))) : nar .boolean z = z := by subst h; split <;> decide
theorem own_empty {s : State} {args : Array Value} {t : Term} {a : Addr} (hfit : Fit s) (ev : t.eval args s none [] s = some (.ref a)) (ha : (Jvm.Cond.arrayOf t (.object "java/lang/Object")).value args s none s [] = some true) (hl : (Jvm.Cond.eq (Jvm.Term.length t) (Jvm.Term.int 0)).value args s none s [] = some true) : ∃ k, Arv s s.heap a k (.object "java/lang/Object") (0 : Int32) [] .null := by
  obtain ⟨cl, A⟩ := Arr.start ev ha
  have e := own_eqI hl
  obtain ⟨x, cl', e1, e2, e3⟩ := Term.length_spec e
  rw [ev] at e1
  obtain rfl : a = x := Value.ref.inj (Option.some.inj e1)
  have e4 : s.arrayAt? a = some cl := Arr.fin (U := s) (Vm.Alike.refl _) A
  have h31 := Jvm.Free.SBG.length_lt ev e4 e
  rw [e4] at e2
  obtain rfl : cl = cl' := Option.some.inj e2
  exact ⟨_, Arv.start hfit A h31 (Value.int.inj e3).symm (by decide) rfl trivial⟩
theorem own_pn_own_abc : plainName "java/util/AbstractCollection" = true := by first | (simp [plainName, overriddenIn]; done) | decide +kernel
theorem own_ef_own_abc (m : MethodId) (a : Addr) : entryFrame m #[(.ref a)] 1 = mkF m 0 #[.val (.ref a)] [] := by first | (simp [entryFrame, mkF, argsToLocals, own_cI, own_cJ, own_cR, own_cN]; done) | rfl
abbrev own_F_own_abc (m : MethodId) (a : Addr) : JFrame := entryFrame m #[(.ref a)] 1
def Q_own_abc (Z : State) (a : Addr) (h0 : Heap) (n0 : Nat) (v : Option Value) (h : Heap) (L : List Loc) : Prop := v = none ∧ Fr n0 L ∧ h = h0
set_option maxRecDepth 65536 in
set_option maxHeartbeats 40000000 in
theorem own_abc (l : Launch) (Z : State) (a0 : Array Value) (hw : ∀ d ∈ tables_1, d.before a0 Z = true) (ws : List Jvm.Cond) (a : Addr) (h0 : Heap) (n0 : Nat) (O0 : Old Z n0 h0) :
    MetFree l (⟨"java/util/AbstractCollection", "<init>", "()V"⟩ : MethodName) (head1 (Jvm.Cond.code (⟨"java/util/AbstractCollection", "<init>", "()V"⟩ : MethodName) jdk_22_method_1_code 1 none :: ws) ({ frames := 1, cells := 0, slots := 0, locals := 12 } : Room)) (fun aa_ U_ => aa_ = #[(.ref a)] ∧ Z.Warmed39 U_.vm ∧ U_.heap = h0) (fun _ _ _ _ _ => True) (fun _ U_ o_ V_ => ∃ v_ L_, o_ = .returned v_ ∧ Q_own_abc Z a h0 n0 v_ V_.heap L_ ∧ FrameEnd U_ o_ V_ L_ ({ frames := 1, cells := 0, slots := 0, locals := 12 } : Room).cells ({ frames := 1, cells := 0, slots := 0, locals := 12 } : Room).slots) := by
  refine MetFree.of_bodySF (plainFor_of_name own_pn_own_abc) hisR ?_
  intro p e s m args below meth c s₁ Bd hml0 hP hK
  obtain ⟨rfl, hZ, hh⟩ := hP
  have hx := Bd.exec
  have hby := Bd.bytes
  have hml : c.maxLocals = 1 := hml0
  have hown : s.vm.findClass "java/util/AbstractCollection" = some m.cls := findClass_of_methodNamed Bd.named
  have hnm := (name_of_methodNamed Bd.named Bd.method).1
  have X0 : Stand p l e ({ frames := 1, cells := 0, slots := 0, locals := 12 } : Room) s m #[(.ref a)] below meth c s₁ [] 0 0 := Stand.of_body Bd
  have e0 : s₁.heap = h0 := by rw [← hh, Bd.state]; rfl
  have N0 := Fr.nil n0
  have K0 : Keep h0 h0 [] := Keep.refl _ _
  have r0 : GoTo p.tables e below s₁ (own_F_own_abc m a) s₁ (mkF m 0 #[.val (.ref a)] []) := fun tt_ kk_ => castTop (own_ef_own_abc m a) kk_
  obtain ⟨T1, X1, e1, st1⟩ := initO X0 hx hZ hown (hw _ (List.mem_of_getElem? (i := 73) rfl)) (hw _ (List.mem_of_getElem? (i := 16) rfl)) (hw _ (List.mem_of_getElem? (i := 17) rfl)) e0 (g := (mkF m 1 #[.val (.ref a)] [(.ref a)])) rfl (by rw [hml]; rfl) rfl (hb hby own_d_jdk_22_method_1_code_1) (by decide) (W := 0) (by show 2 * 0 + _ ≤ _; exact Nat.le_of_eq rfl) (by decide)
  obtain ⟨fs, hr, hrun, hended, hW, hsame⟩ := X1.leave (v := none) (fun _ => rfl)
  refine ⟨_, _, r0 _ ?_, hrun, hended, _, _, rfl, ?_, ⟨_, rfl⟩, hW, hsame.mono (by decide) (by decide)⟩
  · show Steps p.tables e below (s₁.setTop (mkF m 0 #[.val (.ref a)] [])) _
    refine XS.aloadN X0.here hx rfl (hb hby own_d_jdk_22_method_1_code_0) rfl rfl ?_
    show Steps p.tables e below (s₁.setTop (mkF m 1 #[.val (.ref a)] [(.ref a)])) _
    refine st1 _ ?_
    show Steps p.tables e below (T1.setTop (mkF m 4 #[.val (.ref a)] [])) _
    exact X1.returnOut hx Bd.returns (hb hby own_d_jdk_22_method_1_code_4) hr
  · show Q_own_abc Z a h0 n0 _ T1.heap _
    rw [e1]
    exact ⟨rfl, N0, rfl⟩
theorem own_pn_own_abl : plainName "java/util/AbstractList" = true := by first | (simp [plainName, overriddenIn]; done) | decide +kernel
theorem own_ef_own_abl (m : MethodId) (a : Addr) : entryFrame m #[(.ref a)] 1 = mkF m 0 #[.val (.ref a)] [] := by first | (simp [entryFrame, mkF, argsToLocals, own_cI, own_cJ, own_cR, own_cN]; done) | rfl
abbrev own_F_own_abl (m : MethodId) (a : Addr) : JFrame := entryFrame m #[(.ref a)] 1
def Q_own_abl (Z : State) (a : Addr) (h0 : Heap) (n0 : Nat) (v : Option Value) (h : Heap) (L : List Loc) : Prop := v = none ∧ Fr n0 L ∧ Keep h0 h [a] ∧ (Exa Z h a "java/util/ArrayList") ∧ (Fld Z h a "java/util/AbstractList" "modCount" "I" (.int (0 : Int32))) ∧ (Fld Z h a "java/util/ArrayList" "elementData" "[Ljava/lang/Object;" .null) ∧ (Fld Z h a "java/util/ArrayList" "size" "I" (.int (0 : Int32)))
set_option maxRecDepth 65536 in
set_option maxHeartbeats 40000000 in
theorem own_abl (l : Launch) (Z : State) (a0 : Array Value) (hw : ∀ d ∈ tables_1, d.before a0 Z = true) (ws : List Jvm.Cond) (a : Addr) (h0 : Heap) (n0 : Nat) (O0 : Old Z n0 h0) (hp0 : Exa Z h0 a "java/util/ArrayList") (hp1 : Fld Z h0 a "java/util/AbstractList" "modCount" "I" (.int (0 : Int32))) (hp2 : Fld Z h0 a "java/util/ArrayList" "elementData" "[Ljava/lang/Object;" .null) (hp3 : Fld Z h0 a "java/util/ArrayList" "size" "I" (.int (0 : Int32))) (hp4 : n0 ≤ a) :
    MetFree l (⟨"java/util/AbstractList", "<init>", "()V"⟩ : MethodName) (head1 (Jvm.Cond.code (⟨"java/util/AbstractList", "<init>", "()V"⟩ : MethodName) jdk_39_method_1_code 1 none :: ws) ({ frames := 2, cells := 0, slots := 0, locals := 24 } : Room)) (fun aa_ U_ => aa_ = #[(.ref a)] ∧ Z.Warmed39 U_.vm ∧ U_.heap = h0) (fun _ _ _ _ _ => True) (fun _ U_ o_ V_ => ∃ v_ L_, o_ = .returned v_ ∧ Q_own_abl Z a h0 n0 v_ V_.heap L_ ∧ FrameEnd U_ o_ V_ L_ ({ frames := 2, cells := 0, slots := 0, locals := 24 } : Room).cells ({ frames := 2, cells := 0, slots := 0, locals := 24 } : Room).slots) := by
  refine MetFree.of_bodySF (plainFor_of_name own_pn_own_abl) hisR ?_
  intro p e s m args below meth c s₁ Bd hml0 hP hK
  obtain ⟨rfl, hZ, hh⟩ := hP
  have hx := Bd.exec
  have hby := Bd.bytes
  have hml : c.maxLocals = 1 := hml0
  have hown : s.vm.findClass "java/util/AbstractList" = some m.cls := findClass_of_methodNamed Bd.named
  have hnm := (name_of_methodNamed Bd.named Bd.method).1
  have X0 : Stand p l e ({ frames := 2, cells := 0, slots := 0, locals := 24 } : Room) s m #[(.ref a)] below meth c s₁ [] 0 0 := Stand.of_body Bd
  have e0 : s₁.heap = h0 := by rw [← hh, Bd.state]; rfl
  have N0 := Fr.nil n0
  have K0 : Keep h0 h0 [a] := Keep.refl _ _
  have r0 : GoTo p.tables e below s₁ (own_F_own_abl m a) s₁ (mkF m 0 #[.val (.ref a)] []) := fun tt_ kk_ => castTop (own_ef_own_abl m a) kk_
  obtain ⟨_, _, ⟨T1, L1, k1, n1⟩, -, X1, ⟨Lc1, hQ1, l1, y1, z1⟩, st1⟩ := X0.specialBack hx (y := (⟨"java/util/AbstractCollection", "<init>", "()V"⟩ : MethodName)) rfl hown (mvT hZ (hw _ (List.mem_of_getElem? (i := 67) rfl))) (mvT hZ (hw _ (List.mem_of_getElem? (i := 68) rfl))) (mvT hZ (hw _ (List.mem_of_getElem? (i := 72) rfl))) (by decide) (backOf (W := 0) (own_abc l Z a0 hw [] (a) h0 n0 (O0.keep K0 (allS hp4 all0))) hZ (hw _ (List.mem_of_getElem? (i := 72) rfl)) (hw _ (List.mem_of_getElem? (i := 71) rfl)) (by decide) (by decide)) (g := (mkF m 1 #[.val (.ref a)] [(.ref a)])) rfl (by rw [hml]; rfl) (Steps.refl _) (a := a) (argsL := []) (rest := []) (lenOf own_pd0 rfl) rfl (by show 2 * 0 + _ ≤ _; exact Nat.le_of_eq rfl) (hb hby own_d_jdk_39_method_1_code_1) (fun _ _ => ⟨rfl, e0, (by decide : 0 + 0 ≤ _), (by decide : 0 + 0 ≤ _)⟩)
  dsimp only [Pt.U, Pt.locs, Pt.cells, Pt.slots] at X1 l1 y1 z1 st1 hQ1
  subst l1 y1 z1
  obtain ⟨rfl, Nq1, hh1⟩ := hQ1
  have N1 := Fr.app N0 Nq1
  obtain ⟨T2, h2, X2, e2, W2, st2⟩ := putF X1 hx hZ hown (host := "") (Or.inl (hw _ (List.mem_of_getElem? (i := 74) rfl))) Via.refl hh1 hp1 hp0 (Or.inl (hw _ (List.mem_of_getElem? (i := 75) rfl))) (hw _ (List.mem_of_getElem? (i := 56) rfl)) (ty := .int) (by decide) rfl rfl (g := (mkF m 6 #[.val (.ref a)] [(.int (0 : Int32)), (.ref a)])) rfl rfl (hb hby own_d_jdk_39_method_1_code_6)
  have K3 : Keep h0 h2 [a] := K0.wr W2 (Or.inl (List.mem_of_getElem? (i := 0) rfl))
  have Fw2 : Fld Z h2 a "java/util/AbstractList" "modCount" "I" (.int (0 : Int32)) := hp1.same W2
  have N2 := Fr.snoc X2 N1 hp4
  obtain ⟨fs, hr, hrun, hended, hW, hsame⟩ := X2.leave (v := none) (fun _ => rfl)
  refine ⟨_, _, r0 _ ?_, hrun, hended, _, _, rfl, ?_, ⟨_, rfl⟩, hW, hsame.mono (by decide) (by decide)⟩
  · show Steps p.tables e below (s₁.setTop (mkF m 0 #[.val (.ref a)] [])) _
    refine XS.aloadN X0.here hx rfl (hb hby own_d_jdk_39_method_1_code_0) rfl rfl ?_
    show Steps p.tables e below (s₁.setTop (mkF m 1 #[.val (.ref a)] [(.ref a)])) _
    refine st1.trans ?_
    show Steps p.tables e below (T1.setTop (mkF m 4 #[.val (.ref a)] [])) _
    refine XS.aloadN X1.here hx rfl (hb hby own_d_jdk_39_method_1_code_4) rfl rfl ?_
    show Steps p.tables e below (T1.setTop (mkF m 5 #[.val (.ref a)] [(.ref a)])) _
    refine XS.iconst X1.here hx rfl (hb hby own_d_jdk_39_method_1_code_5) ?_
    show Steps p.tables e below (T1.setTop (mkF m 6 #[.val (.ref a)] [(.int (0 : Int32)), (.ref a)])) _
    refine st2 _ ?_
    show Steps p.tables e below (T2.setTop (mkF m 9 #[.val (.ref a)] [])) _
    exact X2.returnOut hx Bd.returns (hb hby own_d_jdk_39_method_1_code_9) hr
  · show Q_own_abl Z a h0 n0 _ T2.heap _
    rw [e2]
    have f4 : Exa Z h2 a "java/util/ArrayList" := (hp0.wr W2)
    have f5 : Fld Z h2 a "java/util/ArrayList" "elementData" "[Ljava/lang/Object;" .null := (hp2.other W2 (Or.inr (Jvm.RoadKit.slot_ne (Or.inl (hw _ (List.mem_of_getElem? (i := 78) rfl))) (Or.inl (hw _ (List.mem_of_getElem? (i := 75) rfl))) (by decide) (t := (.array (.object "java/lang/Object"))) (t' := .int) (by decide) (by decide))))
    have f6 : Fld Z h2 a "java/util/ArrayList" "size" "I" (.int (0 : Int32)) := (hp3.other W2 (Or.inr (Jvm.RoadKit.slot_ne (Or.inl (hw _ (List.mem_of_getElem? (i := 87) rfl))) (Or.inl (hw _ (List.mem_of_getElem? (i := 75) rfl))) (by decide) (t := .int) (t' := .int) (by decide) (by decide))))
    exact ⟨rfl, N2, K3, f4, Fw2, f5, f6⟩
theorem own_pn_own_alinit : plainName "java/util/ArrayList" = true := by first | (simp [plainName, overriddenIn]; done) | decide +kernel
theorem own_ef_own_alinit (m : MethodId) (a : Addr) : entryFrame m #[(.ref a)] 1 = mkF m 0 #[.val (.ref a)] [] := by first | (simp [entryFrame, mkF, argsToLocals, own_cI, own_cJ, own_cR, own_cN]; done) | rfl
abbrev own_F_own_alinit (m : MethodId) (a : Addr) : JFrame := entryFrame m #[(.ref a)] 1
def Q_own_alinit (Z : State) (a : Addr) (dd : Addr) (h0 : Heap) (n0 : Nat) (v : Option Value) (h : Heap) (L : List Loc) : Prop := v = none ∧ Fr n0 L ∧ Keep h0 h [a] ∧ (Exa Z h a "java/util/ArrayList") ∧ (Fld Z h a "java/util/AbstractList" "modCount" "I" (.int (0 : Int32))) ∧ (Fld Z h a "java/util/ArrayList" "elementData" "[Ljava/lang/Object;" (.ref dd)) ∧ (Fld Z h a "java/util/ArrayList" "size" "I" (.int (0 : Int32)))
set_option maxRecDepth 65536 in
set_option maxHeartbeats 40000000 in
theorem own_alinit (l : Launch) (Z : State) (a0 : Array Value) (hw : ∀ d ∈ tables_1, d.before a0 Z = true) (ws : List Jvm.Cond) (a : Addr) (dd : Addr) (h0 : Heap) (n0 : Nat) (O0 : Old Z n0 h0) (hp0 : Exa Z h0 a "java/util/ArrayList") (hp1 : Fld Z h0 a "java/util/AbstractList" "modCount" "I" (.int (0 : Int32))) (hp2 : Fld Z h0 a "java/util/ArrayList" "elementData" "[Ljava/lang/Object;" .null) (hp3 : Fld Z h0 a "java/util/ArrayList" "size" "I" (.int (0 : Int32))) (hp4 : n0 ≤ a) (hp5 : Sta Z Z.heap "java/util/ArrayList" "DEFAULTCAPACITY_EMPTY_ELEMENTDATA" "[Ljava/lang/Object;" (.ref dd)) :
    MetFree l (⟨"java/util/ArrayList", "<init>", "()V"⟩ : MethodName) (head1 (Jvm.Cond.code (⟨"java/util/ArrayList", "<init>", "()V"⟩ : MethodName) jdk_38_method_2_code 1 none :: ws) ({ frames := 3, cells := 0, slots := 0, locals := 36 } : Room)) (fun aa_ U_ => aa_ = #[(.ref a)] ∧ Z.Warmed39 U_.vm ∧ U_.heap = h0) (fun _ _ _ _ _ => True) (fun _ U_ o_ V_ => ∃ v_ L_, o_ = .returned v_ ∧ Q_own_alinit Z a dd h0 n0 v_ V_.heap L_ ∧ FrameEnd U_ o_ V_ L_ ({ frames := 3, cells := 0, slots := 0, locals := 36 } : Room).cells ({ frames := 3, cells := 0, slots := 0, locals := 36 } : Room).slots) := by
  refine MetFree.of_bodySF (plainFor_of_name own_pn_own_alinit) hisR ?_
  intro p e s m args below meth c s₁ Bd hml0 hP hK
  obtain ⟨rfl, hZ, hh⟩ := hP
  have hx := Bd.exec
  have hby := Bd.bytes
  have hml : c.maxLocals = 1 := hml0
  have hown : s.vm.findClass "java/util/ArrayList" = some m.cls := findClass_of_methodNamed Bd.named
  have hnm := (name_of_methodNamed Bd.named Bd.method).1
  have X0 : Stand p l e ({ frames := 3, cells := 0, slots := 0, locals := 36 } : Room) s m #[(.ref a)] below meth c s₁ [] 0 0 := Stand.of_body Bd
  have e0 : s₁.heap = h0 := by rw [← hh, Bd.state]; rfl
  have N0 := Fr.nil n0
  have K0 : Keep h0 h0 [a] := Keep.refl _ _
  have r0 : GoTo p.tables e below s₁ (own_F_own_alinit m a) s₁ (mkF m 0 #[.val (.ref a)] []) := fun tt_ kk_ => castTop (own_ef_own_alinit m a) kk_
  obtain ⟨_, _, ⟨T1, L1, k1, n1⟩, -, X1, ⟨Lc1, hQ1, l1, y1, z1⟩, st1⟩ := X0.specialBack hx (y := (⟨"java/util/AbstractList", "<init>", "()V"⟩ : MethodName)) rfl hown (mvT hZ (hw _ (List.mem_of_getElem? (i := 61) rfl))) (mvT hZ (hw _ (List.mem_of_getElem? (i := 62) rfl))) (mvT hZ (hw _ (List.mem_of_getElem? (i := 66) rfl))) (by decide) (backOf (W := 0) (own_abl l Z a0 hw [] (a) h0 n0 (O0.keep K0 (allS hp4 all0)) (hp0) (hp1) (hp2) (hp3) (hp4)) hZ (hw _ (List.mem_of_getElem? (i := 66) rfl)) (hw _ (List.mem_of_getElem? (i := 65) rfl)) (by decide) (by decide)) (g := (mkF m 1 #[.val (.ref a)] [(.ref a)])) rfl (by rw [hml]; rfl) (Steps.refl _) (a := a) (argsL := []) (rest := []) (lenOf own_pd0 rfl) rfl (by show 2 * 0 + _ ≤ _; exact Nat.le_of_eq rfl) (hb hby own_d_jdk_38_method_2_code_1) (fun _ _ => ⟨rfl, e0, (by decide : 0 + 0 ≤ _), (by decide : 0 + 0 ≤ _)⟩)
  dsimp only [Pt.U, Pt.locs, Pt.cells, Pt.slots] at X1 l1 y1 z1 st1 hQ1
  subst l1 y1 z1
  obtain ⟨rfl, Nq1, Kq1, po1_0, po1_1, po1_2, po1_3⟩ := hQ1
  have N1 := Fr.app N0 Nq1
  have K2 : Keep h0 T1.heap [a] := K0.trans Kq1 (allS (Or.inl (List.mem_of_getElem? (i := 0) rfl)) all0)
  obtain ⟨T3, X3, e3, st3⟩ := getS2 X1 hx hZ hown (host := "") (Or.inl (hw _ (List.mem_of_getElem? (i := 76) rfl))) Via.refl rfl (hp5.ext (O0.keep K2 (allS hp4 all0)).2) (g := (mkF m 5 #[.val (.ref a)] [(.ref a)])) rfl (hb hby own_d_jdk_38_method_2_code_5)
  obtain ⟨T4, h4, X4, e4, W4, st4⟩ := putF X3 hx hZ hown (host := "") (Or.inl (hw _ (List.mem_of_getElem? (i := 77) rfl))) Via.refl e3 po1_2 po1_0 (Or.inl (hw _ (List.mem_of_getElem? (i := 78) rfl))) (hw _ (List.mem_of_getElem? (i := 56) rfl)) (ty := (.array (.object "java/lang/Object"))) (by decide) rfl rfl (g := (mkF m 8 #[.val (.ref a)] [(.ref dd), (.ref a)])) rfl rfl (hb hby own_d_jdk_38_method_2_code_8)
  have K5 : Keep h0 h4 [a] := K2.wr W4 (Or.inl (List.mem_of_getElem? (i := 0) rfl))
  have Fw4 : Fld Z h4 a "java/util/ArrayList" "elementData" "[Ljava/lang/Object;" (.ref dd) := po1_2.same W4
  have N4 := Fr.snoc X4 N1 hp4
  obtain ⟨fs, hr, hrun, hended, hW, hsame⟩ := X4.leave (v := none) (fun _ => rfl)
  refine ⟨_, _, r0 _ ?_, hrun, hended, _, _, rfl, ?_, ⟨_, rfl⟩, hW, hsame.mono (by decide) (by decide)⟩
  · show Steps p.tables e below (s₁.setTop (mkF m 0 #[.val (.ref a)] [])) _
    refine XS.aloadN X0.here hx rfl (hb hby own_d_jdk_38_method_2_code_0) rfl rfl ?_
    show Steps p.tables e below (s₁.setTop (mkF m 1 #[.val (.ref a)] [(.ref a)])) _
    refine st1.trans ?_
    show Steps p.tables e below (T1.setTop (mkF m 4 #[.val (.ref a)] [])) _
    refine XS.aloadN X1.here hx rfl (hb hby own_d_jdk_38_method_2_code_4) rfl rfl ?_
    show Steps p.tables e below (T1.setTop (mkF m 5 #[.val (.ref a)] [(.ref a)])) _
    refine st3 _ ?_
    show Steps p.tables e below (T3.setTop (mkF m 8 #[.val (.ref a)] [(.ref dd), (.ref a)])) _
    refine st4 _ ?_
    show Steps p.tables e below (T4.setTop (mkF m 11 #[.val (.ref a)] [])) _
    exact X4.returnOut hx Bd.returns (hb hby own_d_jdk_38_method_2_code_11) hr
  · show Q_own_alinit Z a dd h0 n0 _ T4.heap _
    rw [e4]
    have f6 : Exa Z h4 a "java/util/ArrayList" := (po1_0.wr W4)
    have f7 : Fld Z h4 a "java/util/AbstractList" "modCount" "I" (.int (0 : Int32)) := (po1_1.other W4 (Or.inr (Jvm.RoadKit.slot_ne (Or.inl (hw _ (List.mem_of_getElem? (i := 75) rfl))) (Or.inl (hw _ (List.mem_of_getElem? (i := 78) rfl))) (by decide) (t := .int) (t' := (.array (.object "java/lang/Object"))) (by decide) (by decide))))
    have f8 : Fld Z h4 a "java/util/ArrayList" "size" "I" (.int (0 : Int32)) := (po1_3.other W4 (Or.inr (Jvm.RoadKit.slot_ne (Or.inl (hw _ (List.mem_of_getElem? (i := 87) rfl))) (Or.inl (hw _ (List.mem_of_getElem? (i := 78) rfl))) (by decide) (t := .int) (t' := (.array (.object "java/lang/Object"))) (by decide) (by decide))))
    exact ⟨rfl, N4, K5, f6, f7, Fw4, f8⟩
theorem own_pn_own_rec : plainName "java/lang/Record" = true := by first | (simp [plainName, overriddenIn]; done) | decide +kernel
theorem own_ef_own_rec (m : MethodId) (a : Addr) : entryFrame m #[(.ref a)] 1 = mkF m 0 #[.val (.ref a)] [] := by first | (simp [entryFrame, mkF, argsToLocals, own_cI, own_cJ, own_cR, own_cN]; done) | rfl
abbrev own_F_own_rec (m : MethodId) (a : Addr) : JFrame := entryFrame m #[(.ref a)] 1
def Q_own_rec (Z : State) (a : Addr) (h0 : Heap) (n0 : Nat) (v : Option Value) (h : Heap) (L : List Loc) : Prop := v = none ∧ Fr n0 L ∧ h = h0
set_option maxRecDepth 65536 in
set_option maxHeartbeats 40000000 in
theorem own_rec (l : Launch) (Z : State) (a0 : Array Value) (hw : ∀ d ∈ tables_1, d.before a0 Z = true) (ws : List Jvm.Cond) (a : Addr) (h0 : Heap) (n0 : Nat) (O0 : Old Z n0 h0) :
    MetFree l (⟨"java/lang/Record", "<init>", "()V"⟩ : MethodName) (head1 (Jvm.Cond.code (⟨"java/lang/Record", "<init>", "()V"⟩ : MethodName) jdk_30_method_1_code 1 none :: ws) ({ frames := 1, cells := 0, slots := 0, locals := 12 } : Room)) (fun aa_ U_ => aa_ = #[(.ref a)] ∧ Z.Warmed39 U_.vm ∧ U_.heap = h0) (fun _ _ _ _ _ => True) (fun _ U_ o_ V_ => ∃ v_ L_, o_ = .returned v_ ∧ Q_own_rec Z a h0 n0 v_ V_.heap L_ ∧ FrameEnd U_ o_ V_ L_ ({ frames := 1, cells := 0, slots := 0, locals := 12 } : Room).cells ({ frames := 1, cells := 0, slots := 0, locals := 12 } : Room).slots) := by
  refine MetFree.of_bodySF (plainFor_of_name own_pn_own_rec) hisR ?_
  intro p e s m args below meth c s₁ Bd hml0 hP hK
  obtain ⟨rfl, hZ, hh⟩ := hP
  have hx := Bd.exec
  have hby := Bd.bytes
  have hml : c.maxLocals = 1 := hml0
  have hown : s.vm.findClass "java/lang/Record" = some m.cls := findClass_of_methodNamed Bd.named
  have hnm := (name_of_methodNamed Bd.named Bd.method).1
  have X0 : Stand p l e ({ frames := 1, cells := 0, slots := 0, locals := 12 } : Room) s m #[(.ref a)] below meth c s₁ [] 0 0 := Stand.of_body Bd
  have e0 : s₁.heap = h0 := by rw [← hh, Bd.state]; rfl
  have N0 := Fr.nil n0
  have K0 : Keep h0 h0 [] := Keep.refl _ _
  have r0 : GoTo p.tables e below s₁ (own_F_own_rec m a) s₁ (mkF m 0 #[.val (.ref a)] []) := fun tt_ kk_ => castTop (own_ef_own_rec m a) kk_
  obtain ⟨T1, X1, e1, st1⟩ := initO X0 hx hZ hown (hw _ (List.mem_of_getElem? (i := 48) rfl)) (hw _ (List.mem_of_getElem? (i := 16) rfl)) (hw _ (List.mem_of_getElem? (i := 17) rfl)) e0 (g := (mkF m 1 #[.val (.ref a)] [(.ref a)])) rfl (by rw [hml]; rfl) rfl (hb hby own_d_jdk_30_method_1_code_1) (by decide) (W := 0) (by show 2 * 0 + _ ≤ _; exact Nat.le_of_eq rfl) (by decide)
  obtain ⟨fs, hr, hrun, hended, hW, hsame⟩ := X1.leave (v := none) (fun _ => rfl)
  refine ⟨_, _, r0 _ ?_, hrun, hended, _, _, rfl, ?_, ⟨_, rfl⟩, hW, hsame.mono (by decide) (by decide)⟩
  · show Steps p.tables e below (s₁.setTop (mkF m 0 #[.val (.ref a)] [])) _
    refine XS.aloadN X0.here hx rfl (hb hby own_d_jdk_30_method_1_code_0) rfl rfl ?_
    show Steps p.tables e below (s₁.setTop (mkF m 1 #[.val (.ref a)] [(.ref a)])) _
    refine st1 _ ?_
    show Steps p.tables e below (T1.setTop (mkF m 4 #[.val (.ref a)] [])) _
    exact X1.returnOut hx Bd.returns (hb hby own_d_jdk_30_method_1_code_4) hr
  · show Q_own_rec Z a h0 n0 _ T1.heap _
    rw [e1]
    exact ⟨rfl, N0, rfl⟩
theorem own_pn_own_rnn : plainName "java/util/Objects" = true := by first | (simp [plainName, overriddenIn]; done) | decide +kernel
theorem own_ef_own_rnn (m : MethodId) (a : Addr) : entryFrame m #[(.ref a)] 1 = mkF m 0 #[.val (.ref a)] [] := by first | (simp [entryFrame, mkF, argsToLocals, own_cI, own_cJ, own_cR, own_cN]; done) | rfl
abbrev own_F_own_rnn (m : MethodId) (a : Addr) : JFrame := entryFrame m #[(.ref a)] 1
def Q_own_rnn (Z : State) (a : Addr) (h0 : Heap) (n0 : Nat) (v : Option Value) (h : Heap) (L : List Loc) : Prop := v = some (.ref a) ∧ Fr n0 L ∧ h = h0
set_option maxRecDepth 65536 in
set_option maxHeartbeats 40000000 in
theorem own_rnn (l : Launch) (Z : State) (a0 : Array Value) (hw : ∀ d ∈ tables_1, d.before a0 Z = true) (ws : List Jvm.Cond) (a : Addr) (h0 : Heap) (n0 : Nat) (O0 : Old Z n0 h0) :
    MetFree l (⟨"java/util/Objects", "requireNonNull", "(Ljava/lang/Object;)Ljava/lang/Object;"⟩ : MethodName) (head1 (Jvm.Cond.code (⟨"java/util/Objects", "requireNonNull", "(Ljava/lang/Object;)Ljava/lang/Object;"⟩ : MethodName) jdk_31_method_10_code 1 (some (.object "java/lang/Object")) :: ws) ({ frames := 0, cells := 0, slots := 0, locals := 0 } : Room)) (fun aa_ U_ => aa_ = #[(.ref a)] ∧ Z.Warmed39 U_.vm ∧ U_.heap = h0) (fun _ _ _ _ _ => True) (fun _ U_ o_ V_ => ∃ v_ L_, o_ = .returned v_ ∧ Q_own_rnn Z a h0 n0 v_ V_.heap L_ ∧ FrameEnd U_ o_ V_ L_ ({ frames := 0, cells := 0, slots := 0, locals := 0 } : Room).cells ({ frames := 0, cells := 0, slots := 0, locals := 0 } : Room).slots) := by
  refine MetFree.of_bodySF (plainFor_of_name own_pn_own_rnn) hisR ?_
  intro p e s m args below meth c s₁ Bd hml0 hP hK
  obtain ⟨rfl, hZ, hh⟩ := hP
  have hx := Bd.exec
  have hby := Bd.bytes
  have hml : c.maxLocals = 1 := hml0
  have hown : s.vm.findClass "java/util/Objects" = some m.cls := findClass_of_methodNamed Bd.named
  have hnm := (name_of_methodNamed Bd.named Bd.method).1
  have X0 : Stand p l e ({ frames := 0, cells := 0, slots := 0, locals := 0 } : Room) s m #[(.ref a)] below meth c s₁ [] 0 0 := Stand.of_body Bd
  have e0 : s₁.heap = h0 := by rw [← hh, Bd.state]; rfl
  have N0 := Fr.nil n0
  have K0 : Keep h0 h0 [] := Keep.refl _ _
  have r0 : GoTo p.tables e below s₁ (own_F_own_rnn m a) s₁ (mkF m 0 #[.val (.ref a)] []) := fun tt_ kk_ => castTop (own_ef_own_rnn m a) kk_
  obtain ⟨fs, hr, hrun, hended, hW, hsame⟩ := X0.leave (v := some (.ref a)) (fun h => by rw [Bd.returns] at h; cases h)
  refine ⟨_, _, r0 _ ?_, hrun, hended, _, _, rfl, ?_, ⟨_, rfl⟩, hW, hsame.mono (by decide) (by decide)⟩
  · show Steps p.tables e below (s₁.setTop (mkF m 0 #[.val (.ref a)] [])) _
    refine XS.aloadN X0.here hx rfl (hb hby own_d_jdk_31_method_10_code_0) rfl rfl ?_
    show Steps p.tables e below (s₁.setTop (mkF m 1 #[.val (.ref a)] [(.ref a)])) _
    refine XS.ifnonnullYes X0.here hx rfl (pc0 := 1) (pc' := 12) rfl (hb hby own_d_jdk_31_method_10_code_1) rfl (by decide) (by decide) ?_
    show Steps p.tables e below (s₁.setTop (mkF m 12 #[.val (.ref a)] [])) _
    refine XS.aloadN X0.here hx rfl (hb hby own_d_jdk_31_method_10_code_12) rfl rfl ?_
    show Steps p.tables e below (s₁.setTop (mkF m 13 #[.val (.ref a)] [(.ref a)])) _
    exact retOut X0 hx (t := (.object "java/lang/Object")) Bd.returns rfl (Or.inr (Or.inr (Or.inr (Or.inr ⟨rfl, rfl, rfl⟩)))) (hb hby own_d_jdk_31_method_10_code_13) hr
  · show Q_own_rnn Z a h0 n0 _ s₁.heap _
    rw [e0]
    exact ⟨rfl, N0, rfl⟩
theorem own_ef_own_max_10_1 (m : MethodId)  : entryFrame m #[(.int (10 : Int32)), (.int (1 : Int32))] 2 = mkF m 0 #[.val (.int (10 : Int32)), .val (.int (1 : Int32))] [] := by first | (simp [entryFrame, mkF, argsToLocals, own_cI, own_cJ, own_cR, own_cN]; done) | rfl
abbrev own_F_own_max_10_1 (m : MethodId)  : JFrame := entryFrame m #[(.int (10 : Int32)), (.int (1 : Int32))] 2
def Q_own_max_10_1 (Z : State)  (h0 : Heap) (n0 : Nat) (v : Option Value) (h : Heap) (L : List Loc) : Prop := v = some (.int (10 : Int32)) ∧ Fr n0 L ∧ h = h0
set_option maxRecDepth 65536 in
set_option maxHeartbeats 40000000 in
theorem own_max_10_1 (l : Launch) (Z : State) (a0 : Array Value) (hw : ∀ d ∈ tables_1, d.before a0 Z = true) (ws : List Jvm.Cond)  (h0 : Heap) (n0 : Nat) (O0 : Old Z n0 h0) :
    MetFree l (⟨"java/lang/Math", "max", "(II)I"⟩ : MethodName) (head1 (Jvm.Cond.code (⟨"java/lang/Math", "max", "(II)I"⟩ : MethodName) jdk_29_method_65_code 2 (some .int) :: ws) ({ frames := 0, cells := 0, slots := 0, locals := 0 } : Room)) (fun aa_ U_ => aa_ = #[(.int (10 : Int32)), (.int (1 : Int32))] ∧ Z.Warmed39 U_.vm ∧ U_.heap = h0) (fun _ _ _ _ _ => True) (fun _ U_ o_ V_ => ∃ v_ L_, o_ = .returned v_ ∧ Q_own_max_10_1 Z  h0 n0 v_ V_.heap L_ ∧ FrameEnd U_ o_ V_ L_ ({ frames := 0, cells := 0, slots := 0, locals := 0 } : Room).cells ({ frames := 0, cells := 0, slots := 0, locals := 0 } : Room).slots) := by
  refine MetFree.of_bodySF (Jvm.Free.JP.mathPlain rfl (by decide +kernel)) hisR ?_
  intro p e s m args below meth c s₁ Bd hml0 hP hK
  obtain ⟨rfl, hZ, hh⟩ := hP
  have hx := Bd.exec
  have hby := Bd.bytes
  have hml : c.maxLocals = 2 := hml0
  have hown : s.vm.findClass "java/lang/Math" = some m.cls := findClass_of_methodNamed Bd.named
  have hnm := (name_of_methodNamed Bd.named Bd.method).1
  have X0 : Stand p l e ({ frames := 0, cells := 0, slots := 0, locals := 0 } : Room) s m #[(.int (10 : Int32)), (.int (1 : Int32))] below meth c s₁ [] 0 0 := Stand.of_body Bd
  have e0 : s₁.heap = h0 := by rw [← hh, Bd.state]; rfl
  have N0 := Fr.nil n0
  have K0 : Keep h0 h0 [] := Keep.refl _ _
  have r0 : GoTo p.tables e below s₁ (own_F_own_max_10_1 m ) s₁ (mkF m 0 #[.val (.int (10 : Int32)), .val (.int (1 : Int32))] []) := fun tt_ kk_ => castTop (own_ef_own_max_10_1 m ) kk_
  obtain ⟨fs, hr, hrun, hended, hW, hsame⟩ := X0.leave (v := some (.int (10 : Int32))) (fun h => by rw [Bd.returns] at h; cases h)
  refine ⟨_, _, r0 _ ?_, hrun, hended, _, _, rfl, ?_, ⟨_, rfl⟩, hW, hsame.mono (by decide) (by decide)⟩
  · show Steps p.tables e below (s₁.setTop (mkF m 0 #[.val (.int (10 : Int32)), .val (.int (1 : Int32))] [])) _
    refine XS.iloadN X0.here hx rfl (hb hby own_d_jdk_29_method_65_code_0) rfl ?_
    show Steps p.tables e below (s₁.setTop (mkF m 1 #[.val (.int (10 : Int32)), .val (.int (1 : Int32))] [(.int (10 : Int32))])) _
    refine XS.iloadN X0.here hx rfl (hb hby own_d_jdk_29_method_65_code_1) rfl ?_
    show Steps p.tables e below (s₁.setTop (mkF m 2 #[.val (.int (10 : Int32)), .val (.int (1 : Int32))] [(.int (1 : Int32)), (.int (10 : Int32))])) _
    refine XS.icmpNo X0.here hx rfl (hb hby own_d_jdk_29_method_65_code_2) rfl (flt (by decide)).1 ?_
    show Steps p.tables e below (s₁.setTop (mkF m 5 #[.val (.int (10 : Int32)), .val (.int (1 : Int32))] [])) _
    refine XS.iloadN X0.here hx rfl (hb hby own_d_jdk_29_method_65_code_5) rfl ?_
    show Steps p.tables e below (s₁.setTop (mkF m 6 #[.val (.int (10 : Int32)), .val (.int (1 : Int32))] [(.int (10 : Int32))])) _
    refine XS.goto X0.here hx rfl (pc0 := 6) (pc' := 10) rfl (hb hby own_d_jdk_29_method_65_code_6) (by decide) (by decide) ?_
    show Steps p.tables e below (s₁.setTop (mkF m 10 #[.val (.int (10 : Int32)), .val (.int (1 : Int32))] [(.int (10 : Int32))])) _
    exact retI X0 hx Bd.returns (hb hby own_d_jdk_29_method_65_code_10) hr
  · show Q_own_max_10_1 Z  h0 n0 _ s₁.heap _
    rw [e0]
    exact ⟨rfl, N0, rfl⟩
theorem own_pn_own_growI : plainName "java/util/ArrayList" = true := by first | (simp [plainName, overriddenIn]; done) | decide +kernel
theorem own_ef_own_growI (m : MethodId) (a : Addr) : entryFrame m #[(.ref a), (.int (1 : Int32))] 4 = mkF m 0 #[.val (.ref a), .val (.int (1 : Int32)), .unset, .unset] [] := by first | (simp [entryFrame, mkF, argsToLocals, own_cI, own_cJ, own_cR, own_cN]; done) | rfl
abbrev own_F_own_growI (m : MethodId) (a : Addr) : JFrame := entryFrame m #[(.ref a), (.int (1 : Int32))] 4
def Q_own_growI (Z : State) (a : Addr) (mc : Int32) (dd : Addr) (kd : ClassId) (h0 : Heap) (n0 : Nat) (v : Option Value) (h : Heap) (L : List Loc) : Prop := ∃ (b : Addr), ∃ (kb : ClassId), v = some (.ref b) ∧ Fr n0 L ∧ Keep h0 h [a] ∧ (h0.size ≤ b) ∧ (n0 ≤ b) ∧ (Exa Z h a "java/util/ArrayList") ∧ (Fld Z h a "java/util/AbstractList" "modCount" "I" (.int mc)) ∧ (Fld Z h a "java/util/ArrayList" "elementData" "[Ljava/lang/Object;" (.ref b)) ∧ (Fld Z h a "java/util/ArrayList" "size" "I" (.int (0 : Int32))) ∧ (Arv Z h b kb (.object "java/lang/Object") (10 : Int32) [.null, .null, .null, .null, .null, .null, .null, .null, .null, .null] .null) ∧ (Ovr Z kb "java/lang/Object") ∧ (Exa Z h b "[Ljava/lang/Object;")
set_option maxRecDepth 65536 in
set_option maxHeartbeats 40000000 in
theorem own_growI (l : Launch) (Z : State) (a0 : Array Value) (hw : ∀ d ∈ tables_1, d.before a0 Z = true) (ws : List Jvm.Cond) (a : Addr) (mc : Int32) (dd : Addr) (kd : ClassId) (h0 : Heap) (n0 : Nat) (O0 : Old Z n0 h0) (hp0 : Exa Z h0 a "java/util/ArrayList") (hp1 : Fld Z h0 a "java/util/AbstractList" "modCount" "I" (.int mc)) (hp2 : Fld Z h0 a "java/util/ArrayList" "elementData" "[Ljava/lang/Object;" (.ref dd)) (hp3 : Fld Z h0 a "java/util/ArrayList" "size" "I" (.int (0 : Int32))) (hp4 : n0 ≤ a) (hp5 : Sta Z Z.heap "java/util/ArrayList" "DEFAULTCAPACITY_EMPTY_ELEMENTDATA" "[Ljava/lang/Object;" (.ref dd)) (hp6 : Arv Z Z.heap dd kd (.object "java/lang/Object") (0 : Int32) [] .null) :
    MetFree l (⟨"java/util/ArrayList", "grow", "(I)[Ljava/lang/Object;"⟩ : MethodName) (head1 (Jvm.Cond.code (⟨"java/util/ArrayList", "grow", "(I)[Ljava/lang/Object;"⟩ : MethodName) jdk_38_method_6_code 4 (some (.array (.object "java/lang/Object"))) :: ws) ({ frames := 1, cells := 1, slots := 10, locals := 14 } : Room)) (fun aa_ U_ => aa_ = #[(.ref a), (.int (1 : Int32))] ∧ Z.Warmed39 U_.vm ∧ U_.heap = h0) (fun _ _ _ _ _ => True) (fun _ U_ o_ V_ => ∃ v_ L_, o_ = .returned v_ ∧ Q_own_growI Z a mc dd kd h0 n0 v_ V_.heap L_ ∧ FrameEnd U_ o_ V_ L_ ({ frames := 1, cells := 1, slots := 10, locals := 14 } : Room).cells ({ frames := 1, cells := 1, slots := 10, locals := 14 } : Room).slots) := by
  refine MetFree.of_bodySF (plainFor_of_name own_pn_own_growI) hisR ?_
  intro p e s m args below meth c s₁ Bd hml0 hP hK
  obtain ⟨rfl, hZ, hh⟩ := hP
  have hx := Bd.exec
  have hby := Bd.bytes
  have hml : c.maxLocals = 4 := hml0
  have hown : s.vm.findClass "java/util/ArrayList" = some m.cls := findClass_of_methodNamed Bd.named
  have hnm := (name_of_methodNamed Bd.named Bd.method).1
  have X0 : Stand p l e ({ frames := 1, cells := 1, slots := 10, locals := 14 } : Room) s m #[(.ref a), (.int (1 : Int32))] below meth c s₁ [] 0 0 := Stand.of_body Bd
  have e0 : s₁.heap = h0 := by rw [← hh, Bd.state]; rfl
  have N0 := Fr.nil n0
  have K0 : Keep h0 h0 [a] := Keep.refl _ _
  have r0 : GoTo p.tables e below s₁ (own_F_own_growI m a) s₁ (mkF m 0 #[.val (.ref a), .val (.int (1 : Int32)), .unset, .unset] []) := fun tt_ kk_ => castTop (own_ef_own_growI m a) kk_
  obtain ⟨T1, X1, e1, st1⟩ := getF X0 hx hZ hown (host := "") (Or.inl (hw _ (List.mem_of_getElem? (i := 77) rfl))) Via.refl e0 hp2 (g := (mkF m 1 #[.val (.ref a), .val (.int (1 : Int32)), .unset, .unset] [(.ref a)])) rfl rfl (hb hby own_d_jdk_38_method_6_code_1)
  obtain ⟨cl2, Ar2, q2, S2, NN2, H2, G2⟩ := id (hp6.ext (O0.keep K0 (allS hp4 all0)).2)
  obtain ⟨T3, X3, e3, st3⟩ := getF X1 hx hZ hown (host := "") (Or.inl (hw _ (List.mem_of_getElem? (i := 77) rfl))) Via.refl e1 hp2 (g := (mkF m 11 #[.val (.ref a), .val (.int (1 : Int32)), .val (.int (0 : Int32)), .unset] [(.ref a)])) rfl rfl (hb hby own_d_jdk_38_method_6_code_11)
  obtain ⟨T4, X4, e4, st4⟩ := getS2 X3 hx hZ hown (host := "") (Or.inl (hw _ (List.mem_of_getElem? (i := 76) rfl))) Via.refl e3 (hp5.ext (O0.keep K0 (allS hp4 all0)).2) (g := (mkF m 14 #[.val (.ref a), .val (.int (1 : Int32)), .val (.int (0 : Int32)), .unset] [(.ref dd)])) rfl (hb hby own_d_jdk_38_method_6_code_14)
  obtain ⟨_, _, ⟨T5, L5, k5, n5⟩, -, X5, ⟨Lc5, hQ5, l5, y5, z5⟩, st5⟩ := Jvm.LawKit.callS X4 hx (y := (⟨"java/lang/Math", "max", "(II)I"⟩ : MethodName)) hown (mvT hZ (hw _ (List.mem_of_getElem? (i := 103) rfl))) (mvT hZ (hw _ (List.mem_of_getElem? (i := 104) rfl))) (mvT hZ (hw _ (List.mem_of_getElem? (i := 105) rfl))) (mvT hZ (hw _ (List.mem_of_getElem? (i := 106) rfl))) (by decide) (backOf (W := 1) (own_max_10_1 l Z a0 hw []  h0 n0 (O0.keep K0 (allS hp4 all0))) hZ (hw _ (List.mem_of_getElem? (i := 106) rfl)) (hw _ (List.mem_of_getElem? (i := 105) rfl)) (by decide) (by decide)) (g := (mkF m 49 #[.val (.ref a), .val (.int (1 : Int32)), .val (.int (0 : Int32)), .unset] [(.int (1 : Int32)), (.int (10 : Int32)), (.ref a)])) rfl (by rw [hml]; rfl) (argsL := [(.int (10 : Int32)), (.int (1 : Int32))]) (rest := [(.ref a)]) (lenOf own_pd1 rfl) rfl (by show 2 * 0 + _ ≤ _; exact Nat.le_of_eq rfl) (hb hby own_d_jdk_38_method_6_code_49) (fun _ _ => ⟨rfl, e4, (by decide : 0 + 0 ≤ _), (by decide : 0 + 0 ≤ _)⟩)
  dsimp only [Pt.U, Pt.locs, Pt.cells, Pt.slots] at X5 l5 y5 z5 st5 hQ5
  subst l5 y5 z5
  obtain ⟨rfl, Nq5, hh5⟩ := hQ5
  have N5 := Fr.app N0 Nq5
  obtain ⟨T6, h6, k6, X6, e6, E6, A6, Ex6, O6, st6⟩ := newRE X5 hx hZ hown (hw _ (List.mem_of_getElem? (i := 107) rfl)) (hw _ (List.mem_of_getElem? (i := 108) rfl)) hh5 (g := (mkF m 52 #[.val (.ref a), .val (.int (1 : Int32)), .val (.int (0 : Int32)), .unset] [(.int (10 : Int32)), (.ref a)])) rfl (hb hby own_d_jdk_38_method_6_code_52) rfl (by decide) (cap := 10) (by decide) (by decide) (by decide) (by decide) (ad := "[Ljava/lang/Object;") (by decide)
  obtain ⟨b6, gg6⟩ : ∃ z, z = h0.size := ⟨_, rfl⟩
  rw [← gg6] at A6 Ex6 st6
  have ne7 : a ≠ b6 := Nat.ne_of_lt (Nat.lt_of_lt_of_le hp0.lt (Nat.le_of_eq gg6.symm))
  have g8 : n0 ≤ b6 := Nat.le_trans (Nat.le_trans (own_le O0) K0.1) (Nat.le_of_eq gg6.symm)
  have b9 : h0.size ≤ b6 := Nat.le_trans K0.1 (Nat.le_of_eq gg6.symm)
  have K10 : Keep h0 h6 [a] := K0.ext E6
  have V6 : Arv Z h6 b6 k6 (.object "java/lang/Object") (10 : Int32) [.null, .null, .null, .null, .null, .null, .null, .null, .null, .null] .null := (Arv.new A6 (by decide)).pad (pad_rep [] .null 10)
  have f11 : Fld Z h6 a "java/util/ArrayList" "elementData" "[Ljava/lang/Object;" (.ref dd) := (hp2.ext E6)
  have f12 : Exa Z h6 a "java/util/ArrayList" := (hp0.ext E6)
  obtain ⟨T13, h13, X13, e13, W13, st13⟩ := putF X6 hx hZ hown (host := "") (Or.inl (hw _ (List.mem_of_getElem? (i := 77) rfl))) Via.refl e6 f11 f12 (Or.inl (hw _ (List.mem_of_getElem? (i := 78) rfl))) (hw _ (List.mem_of_getElem? (i := 56) rfl)) (ty := (.array (.object "java/lang/Object"))) (by decide) rfl rfl (g := (mkF m 56 #[.val (.ref a), .val (.int (1 : Int32)), .val (.int (0 : Int32)), .unset] [(.ref b6), (.ref a), (.ref b6)])) rfl rfl (hb hby own_d_jdk_38_method_6_code_56)
  have K14 : Keep h0 h13 [a] := K10.wr W13 (Or.inl (List.mem_of_getElem? (i := 0) rfl))
  have Fw13 : Fld Z h13 a "java/util/ArrayList" "elementData" "[Ljava/lang/Object;" (.ref b6) := f11.same W13
  have N13 := Fr.snoc X13 N5 hp4
  have f15 : Arv Z h13 b6 k6 (.object "java/lang/Object") (10 : Int32) [.null, .null, .null, .null, .null, .null, .null, .null, .null, .null] .null := (V6.other W13 (Ne.symm ne7))
  have f16 : Exa Z h13 a "java/util/ArrayList" := (f12.wr W13)
  have f17 : Fld Z h13 a "java/util/AbstractList" "modCount" "I" (.int mc) := ((hp1.ext E6).other W13 (Or.inr (Jvm.RoadKit.slot_ne (Or.inl (hw _ (List.mem_of_getElem? (i := 75) rfl))) (Or.inl (hw _ (List.mem_of_getElem? (i := 78) rfl))) (by decide) (t := .int) (t' := (.array (.object "java/lang/Object"))) (by decide) (by decide))))
  have f18 : Fld Z h13 a "java/util/ArrayList" "size" "I" (.int (0 : Int32)) := ((hp3.ext E6).other W13 (Or.inr (Jvm.RoadKit.slot_ne (Or.inl (hw _ (List.mem_of_getElem? (i := 87) rfl))) (Or.inl (hw _ (List.mem_of_getElem? (i := 78) rfl))) (by decide) (t := .int) (t' := (.array (.object "java/lang/Object"))) (by decide) (by decide))))
  have f19 : Exa Z h13 b6 "[Ljava/lang/Object;" := (Ex6.wr W13)
  obtain ⟨fs, hr, hrun, hended, hW, hsame⟩ := X13.leave (v := some (.ref b6)) (fun h => by rw [Bd.returns] at h; cases h)
  refine ⟨_, _, r0 _ ?_, hrun, hended, _, _, rfl, ?_, ⟨_, rfl⟩, hW, hsame.mono (by decide) (by decide)⟩
  · show Steps p.tables e below (s₁.setTop (mkF m 0 #[.val (.ref a), .val (.int (1 : Int32)), .unset, .unset] [])) _
    refine XS.aloadN X0.here hx rfl (hb hby own_d_jdk_38_method_6_code_0) rfl rfl ?_
    show Steps p.tables e below (s₁.setTop (mkF m 1 #[.val (.ref a), .val (.int (1 : Int32)), .unset, .unset] [(.ref a)])) _
    refine st1 _ ?_
    show Steps p.tables e below (T1.setTop (mkF m 4 #[.val (.ref a), .val (.int (1 : Int32)), .unset, .unset] [(.ref dd)])) _
    refine X1.arraylength hx (by rw [e1]; exact Ar2.1) (State.isArrayOf_alike hZ.alike Ar2.2.1) (g := (mkF m 4 #[.val (.ref a), .val (.int (1 : Int32)), .unset, .unset] [(.ref dd)])) rfl rfl (hb hby own_d_jdk_38_method_6_code_4) _ ?_
    rw [len_of S2 NN2]
    show Steps p.tables e below (T1.setTop (mkF m 5 #[.val (.ref a), .val (.int (1 : Int32)), .unset, .unset] [(.int (0 : Int32))])) _
    refine XS.istoreN X1.here hx rfl (hb hby own_d_jdk_38_method_6_code_5) rfl (l' := #[.val (.ref a), .val (.int (1 : Int32)), .val (.int (0 : Int32)), .unset]) rfl ?_
    show Steps p.tables e below (T1.setTop (mkF m 6 #[.val (.ref a), .val (.int (1 : Int32)), .val (.int (0 : Int32)), .unset] [])) _
    refine XS.iloadN X1.here hx rfl (hb hby own_d_jdk_38_method_6_code_6) rfl ?_
    show Steps p.tables e below (T1.setTop (mkF m 7 #[.val (.ref a), .val (.int (1 : Int32)), .val (.int (0 : Int32)), .unset] [(.int (0 : Int32))])) _
    refine XS.ifNo X1.here hx rfl (hb hby own_d_jdk_38_method_6_code_7) rfl ((if0 _ _).trans (flt (by decide)).2.2.1) ?_
    show Steps p.tables e below (T1.setTop (mkF m 10 #[.val (.ref a), .val (.int (1 : Int32)), .val (.int (0 : Int32)), .unset] [])) _
    refine XS.aloadN X1.here hx rfl (hb hby own_d_jdk_38_method_6_code_10) rfl rfl ?_
    show Steps p.tables e below (T1.setTop (mkF m 11 #[.val (.ref a), .val (.int (1 : Int32)), .val (.int (0 : Int32)), .unset] [(.ref a)])) _
    refine st3 _ ?_
    show Steps p.tables e below (T3.setTop (mkF m 14 #[.val (.ref a), .val (.int (1 : Int32)), .val (.int (0 : Int32)), .unset] [(.ref dd)])) _
    refine st4 _ ?_
    show Steps p.tables e below (T4.setTop (mkF m 17 #[.val (.ref a), .val (.int (1 : Int32)), .val (.int (0 : Int32)), .unset] [(.ref dd), (.ref dd)])) _
    refine Jvm.RoadKit.acmp (g := (mkF m 17 #[.val (.ref a), .val (.int (1 : Int32)), .val (.int (0 : Int32)), .unset] [(.ref dd), (.ref dd)])) X4 hx rfl rfl rfl (pc0 := 17) (pc' := 45) (same := true) rfl (hb hby own_d_jdk_38_method_6_code_17) rfl (decide_eq_true (congrArg Value.ref rfl)) (by decide) (by decide) ?_
    show Steps p.tables e below (T4.setTop (mkF m 45 #[.val (.ref a), .val (.int (1 : Int32)), .val (.int (0 : Int32)), .unset] [])) _
    refine XS.aloadN X4.here hx rfl (hb hby own_d_jdk_38_method_6_code_45) rfl rfl ?_
    show Steps p.tables e below (T4.setTop (mkF m 46 #[.val (.ref a), .val (.int (1 : Int32)), .val (.int (0 : Int32)), .unset] [(.ref a)])) _
    refine XS.bipush X4.here hx rfl (hb hby own_d_jdk_38_method_6_code_46) ?_
    show Steps p.tables e below (T4.setTop (mkF m 48 #[.val (.ref a), .val (.int (1 : Int32)), .val (.int (0 : Int32)), .unset] [(.int (10 : Int32)), (.ref a)])) _
    refine XS.iloadN X4.here hx rfl (hb hby own_d_jdk_38_method_6_code_48) rfl ?_
    show Steps p.tables e below (T4.setTop (mkF m 49 #[.val (.ref a), .val (.int (1 : Int32)), .val (.int (0 : Int32)), .unset] [(.int (1 : Int32)), (.int (10 : Int32)), (.ref a)])) _
    refine st5 _ ?_
    show Steps p.tables e below (T5.setTop (mkF m 52 #[.val (.ref a), .val (.int (1 : Int32)), .val (.int (0 : Int32)), .unset] [(.int (10 : Int32)), (.ref a)])) _
    refine st6 _ ?_
    show Steps p.tables e below (T6.setTop (mkF m 55 #[.val (.ref a), .val (.int (1 : Int32)), .val (.int (0 : Int32)), .unset] [(.ref b6), (.ref a)])) _
    refine XS.dupX1 X6.here hx rfl (hb hby own_d_jdk_38_method_6_code_55) rfl rfl rfl ?_
    show Steps p.tables e below (T6.setTop (mkF m 56 #[.val (.ref a), .val (.int (1 : Int32)), .val (.int (0 : Int32)), .unset] [(.ref b6), (.ref a), (.ref b6)])) _
    refine st13 _ ?_
    show Steps p.tables e below (T13.setTop (mkF m 59 #[.val (.ref a), .val (.int (1 : Int32)), .val (.int (0 : Int32)), .unset] [(.ref b6)])) _
    exact retOut X13 hx (t := (.array (.object "java/lang/Object"))) Bd.returns rfl (Or.inr (Or.inr (Or.inr (Or.inr ⟨rfl, rfl, rfl⟩)))) (hb hby own_d_jdk_38_method_6_code_59) hr
  · show Q_own_growI Z a mc dd kd h0 n0 _ T13.heap _
    rw [e13]
    exact ⟨b6, k6, rfl, N13, K14, b9, g8, f16, f17, Fw13, f18, f15, O6, f19⟩
theorem own_pn_own_grow : plainName "java/util/ArrayList" = true := by first | (simp [plainName, overriddenIn]; done) | decide +kernel
theorem own_ef_own_grow (m : MethodId) (a : Addr) : entryFrame m #[(.ref a)] 1 = mkF m 0 #[.val (.ref a)] [] := by first | (simp [entryFrame, mkF, argsToLocals, own_cI, own_cJ, own_cR, own_cN]; done) | rfl
abbrev own_F_own_grow (m : MethodId) (a : Addr) : JFrame := entryFrame m #[(.ref a)] 1
def Q_own_grow (Z : State) (a : Addr) (mc : Int32) (dd : Addr) (kd : ClassId) (h0 : Heap) (n0 : Nat) (v : Option Value) (h : Heap) (L : List Loc) : Prop := ∃ (b : Addr), ∃ (kb : ClassId), v = some (.ref b) ∧ Fr n0 L ∧ Keep h0 h [a] ∧ (h0.size ≤ b) ∧ (n0 ≤ b) ∧ (Exa Z h a "java/util/ArrayList") ∧ (Fld Z h a "java/util/AbstractList" "modCount" "I" (.int mc)) ∧ (Fld Z h a "java/util/ArrayList" "elementData" "[Ljava/lang/Object;" (.ref b)) ∧ (Fld Z h a "java/util/ArrayList" "size" "I" (.int (0 : Int32))) ∧ (Arv Z h b kb (.object "java/lang/Object") (10 : Int32) [.null, .null, .null, .null, .null, .null, .null, .null, .null, .null] .null) ∧ (Ovr Z kb "java/lang/Object") ∧ (Exa Z h b "[Ljava/lang/Object;")
set_option maxRecDepth 65536 in
set_option maxHeartbeats 40000000 in
theorem own_grow (l : Launch) (Z : State) (a0 : Array Value) (hw : ∀ d ∈ tables_1, d.before a0 Z = true) (ws : List Jvm.Cond) (a : Addr) (mc : Int32) (dd : Addr) (kd : ClassId) (h0 : Heap) (n0 : Nat) (O0 : Old Z n0 h0) (hp0 : Exa Z h0 a "java/util/ArrayList") (hp1 : Fld Z h0 a "java/util/AbstractList" "modCount" "I" (.int mc)) (hp2 : Fld Z h0 a "java/util/ArrayList" "elementData" "[Ljava/lang/Object;" (.ref dd)) (hp3 : Fld Z h0 a "java/util/ArrayList" "size" "I" (.int (0 : Int32))) (hp4 : n0 ≤ a) (hp5 : Sta Z Z.heap "java/util/ArrayList" "DEFAULTCAPACITY_EMPTY_ELEMENTDATA" "[Ljava/lang/Object;" (.ref dd)) (hp6 : Arv Z Z.heap dd kd (.object "java/lang/Object") (0 : Int32) [] .null) :
    MetFree l (⟨"java/util/ArrayList", "grow", "()[Ljava/lang/Object;"⟩ : MethodName) (head1 (Jvm.Cond.code (⟨"java/util/ArrayList", "grow", "()[Ljava/lang/Object;"⟩ : MethodName) jdk_38_method_7_code 1 (some (.array (.object "java/lang/Object"))) :: ws) ({ frames := 2, cells := 1, slots := 10, locals := 29 } : Room)) (fun aa_ U_ => aa_ = #[(.ref a)] ∧ Z.Warmed39 U_.vm ∧ U_.heap = h0) (fun _ _ _ _ _ => True) (fun _ U_ o_ V_ => ∃ v_ L_, o_ = .returned v_ ∧ Q_own_grow Z a mc dd kd h0 n0 v_ V_.heap L_ ∧ FrameEnd U_ o_ V_ L_ ({ frames := 2, cells := 1, slots := 10, locals := 29 } : Room).cells ({ frames := 2, cells := 1, slots := 10, locals := 29 } : Room).slots) := by
  refine MetFree.of_bodySF (plainFor_of_name own_pn_own_grow) hisR ?_
  intro p e s m args below meth c s₁ Bd hml0 hP hK
  obtain ⟨rfl, hZ, hh⟩ := hP
  have hx := Bd.exec
  have hby := Bd.bytes
  have hml : c.maxLocals = 1 := hml0
  have hown : s.vm.findClass "java/util/ArrayList" = some m.cls := findClass_of_methodNamed Bd.named
  have hnm := (name_of_methodNamed Bd.named Bd.method).1
  have X0 : Stand p l e ({ frames := 2, cells := 1, slots := 10, locals := 29 } : Room) s m #[(.ref a)] below meth c s₁ [] 0 0 := Stand.of_body Bd
  have e0 : s₁.heap = h0 := by rw [← hh, Bd.state]; rfl
  have N0 := Fr.nil n0
  have K0 : Keep h0 h0 [a] := Keep.refl _ _
  have r0 : GoTo p.tables e below s₁ (own_F_own_grow m a) s₁ (mkF m 0 #[.val (.ref a)] []) := fun tt_ kk_ => castTop (own_ef_own_grow m a) kk_
  obtain ⟨T1, X1, e1, st1⟩ := getF X0 hx hZ hown (host := "") (Or.inl (hw _ (List.mem_of_getElem? (i := 86) rfl))) Via.refl e0 hp3 (g := (mkF m 2 #[.val (.ref a)] [(.ref a), (.ref a)])) rfl rfl (hb hby own_d_jdk_38_method_7_code_2)
  obtain ⟨cq2, qa2, qb2⟩ := hp0.cell
  obtain ⟨_, _, ⟨T2, L2, k2, n2⟩, -, X2, ⟨Lc2, hQ2, l2, y2, z2⟩, st2⟩ := X1.privateBack hx (y := (⟨"java/util/ArrayList", "grow", "(I)[Ljava/lang/Object;"⟩ : MethodName)) hown (mvT hZ (hw _ (List.mem_of_getElem? (i := 98) rfl))) (mvT hZ (hw _ (List.mem_of_getElem? (i := 99) rfl))) (mvT hZ (hw _ (List.mem_of_getElem? (i := 101) rfl))) (Cond.privateMethod_at (mvP hZ (hw _ (List.mem_of_getElem? (i := 100) rfl)) (args := #[]))) (mvT hZ (hw _ (List.mem_of_getElem? (i := 102) rfl))) (by decide) (backOf (W := 0) (own_growI l Z a0 hw [] (a) (mc) (dd) (kd) h0 n0 (O0.keep K0 (allS hp4 all0)) (hp0) (hp1) (hp2) (hp3) (hp4) (hp5) (hp6)) hZ (hw _ (List.mem_of_getElem? (i := 102) rfl)) (hw _ (List.mem_of_getElem? (i := 57) rfl)) (by decide) (by decide)) (g := (mkF m 7 #[.val (.ref a)] [(.int (1 : Int32)), (.ref a)])) rfl (by rw [hml]; rfl) (Steps.refl _) (a := a) (by rw [e1]; exact qa2) qb2 (argsL := [(.int (1 : Int32))]) (rest := []) (lenOf own_pd2 rfl) rfl (by show 2 * 0 + _ ≤ _; exact Nat.le_of_eq rfl) (hb hby own_d_jdk_38_method_7_code_7) (fun _ _ => ⟨rfl, e1, (by decide : 0 + 1 ≤ _), (by decide : 0 + 10 ≤ _)⟩)
  dsimp only [Pt.U, Pt.locs, Pt.cells, Pt.slots] at X2 l2 y2 z2 st2 hQ2
  subst l2 y2 z2
  obtain ⟨b_2, kb_2, rfl, Nq2, Kq2, po2_0, po2_1, po2_2, po2_3, po2_4, po2_5, po2_6, po2_7, po2_8⟩ := hQ2
  have N2 := Fr.app N0 Nq2
  have ne3 : a ≠ b_2 := Nat.ne_of_lt (Nat.lt_of_lt_of_le hp0.lt po2_0)
  have g4 : n0 ≤ b_2 := Nat.le_trans (Nat.le_trans (own_le O0) K0.1) po2_0
  have b5 : h0.size ≤ b_2 := Nat.le_trans K0.1 po2_0
  have K6 : Keep h0 T2.heap [a] := K0.trans Kq2 (allS (Or.inl (List.mem_of_getElem? (i := 0) rfl)) all0)
  obtain ⟨fs, hr, hrun, hended, hW, hsame⟩ := X2.leave (v := some (.ref b_2)) (fun h => by rw [Bd.returns] at h; cases h)
  refine ⟨_, _, r0 _ ?_, hrun, hended, _, _, rfl, ?_, ⟨_, rfl⟩, hW, hsame.mono (by decide) (by decide)⟩
  · show Steps p.tables e below (s₁.setTop (mkF m 0 #[.val (.ref a)] [])) _
    refine XS.aloadN X0.here hx rfl (hb hby own_d_jdk_38_method_7_code_0) rfl rfl ?_
    show Steps p.tables e below (s₁.setTop (mkF m 1 #[.val (.ref a)] [(.ref a)])) _
    refine XS.aloadN X0.here hx rfl (hb hby own_d_jdk_38_method_7_code_1) rfl rfl ?_
    show Steps p.tables e below (s₁.setTop (mkF m 2 #[.val (.ref a)] [(.ref a), (.ref a)])) _
    refine st1 _ ?_
    show Steps p.tables e below (T1.setTop (mkF m 5 #[.val (.ref a)] [(.int (0 : Int32)), (.ref a)])) _
    refine XS.iconst X1.here hx rfl (hb hby own_d_jdk_38_method_7_code_5) ?_
    show Steps p.tables e below (T1.setTop (mkF m 6 #[.val (.ref a)] [(.int (1 : Int32)), (.int (0 : Int32)), (.ref a)])) _
    refine XS.iadd X1.here hx rfl (hb hby own_d_jdk_38_method_7_code_6) rfl ?_
    show Steps p.tables e below (T1.setTop (mkF m 7 #[.val (.ref a)] [(.int (1 : Int32)), (.ref a)])) _
    refine st2.trans ?_
    show Steps p.tables e below (T2.setTop (mkF m 10 #[.val (.ref a)] [(.ref b_2)])) _
    exact retOut X2 hx (t := (.array (.object "java/lang/Object"))) Bd.returns rfl (Or.inr (Or.inr (Or.inr (Or.inr ⟨rfl, rfl, rfl⟩)))) (hb hby own_d_jdk_38_method_7_code_10) hr
  · show Q_own_grow Z a mc dd kd h0 n0 _ T2.heap _
    exact ⟨b_2, kb_2, rfl, N2, K6, b5, po2_1, po2_2, po2_3, po2_4, po2_5, po2_6, po2_7, po2_8⟩
theorem own_pn_own_add3 : plainName "java/util/ArrayList" = true := by first | (simp [plainName, overriddenIn]; done) | decide +kernel
theorem own_ef_own_add3 (m : MethodId) (a : Addr) (x : Addr) (dd : Addr) : entryFrame m #[(.ref a), (.ref x), (.ref dd), (.int (0 : Int32))] 4 = mkF m 0 #[.val (.ref a), .val (.ref x), .val (.ref dd), .val (.int (0 : Int32))] [] := by first | (simp [entryFrame, mkF, argsToLocals, own_cI, own_cJ, own_cR, own_cN]; done) | rfl
abbrev own_F_own_add3 (m : MethodId) (a : Addr) (x : Addr) (dd : Addr) : JFrame := entryFrame m #[(.ref a), (.ref x), (.ref dd), (.int (0 : Int32))] 4
def Q_own_add3 (Z : State) (a : Addr) (x : Addr) (mc : Int32) (dd : Addr) (kd : ClassId) (h0 : Heap) (n0 : Nat) (v : Option Value) (h : Heap) (L : List Loc) : Prop := ∃ (b : Addr), ∃ (kb : ClassId), v = none ∧ Fr n0 L ∧ Keep h0 h [a] ∧ (h0.size ≤ b) ∧ (n0 ≤ b) ∧ (Exa Z h a "java/util/ArrayList") ∧ (Fld Z h a "java/util/AbstractList" "modCount" "I" (.int mc)) ∧ (Fld Z h a "java/util/ArrayList" "elementData" "[Ljava/lang/Object;" (.ref b)) ∧ (Fld Z h a "java/util/ArrayList" "size" "I" (.int (1 : Int32))) ∧ (Arv Z h b kb (.object "java/lang/Object") (10 : Int32) [(.ref x), .null, .null, .null, .null, .null, .null, .null, .null, .null] .null) ∧ (Ovr Z kb "java/lang/Object") ∧ (Exa Z h b "[Ljava/lang/Object;")
set_option maxRecDepth 65536 in
set_option maxHeartbeats 40000000 in
theorem own_add3 (l : Launch) (Z : State) (a0 : Array Value) (hw : ∀ d ∈ tables_1, d.before a0 Z = true) (ws : List Jvm.Cond) (a : Addr) (x : Addr) (mc : Int32) (dd : Addr) (kd : ClassId) (h0 : Heap) (n0 : Nat) (O0 : Old Z n0 h0) (hp0 : Exa Z h0 a "java/util/ArrayList") (hp1 : Fld Z h0 a "java/util/AbstractList" "modCount" "I" (.int mc)) (hp2 : Fld Z h0 a "java/util/ArrayList" "elementData" "[Ljava/lang/Object;" (.ref dd)) (hp3 : Fld Z h0 a "java/util/ArrayList" "size" "I" (.int (0 : Int32))) (hp4 : n0 ≤ a) (hp5 : Exa Z h0 x "com/example/myna/myna/orders/OrderLine") (hp6 : Sta Z Z.heap "java/util/ArrayList" "DEFAULTCAPACITY_EMPTY_ELEMENTDATA" "[Ljava/lang/Object;" (.ref dd)) (hp7 : Arv Z Z.heap dd kd (.object "java/lang/Object") (0 : Int32) [] .null) :
    MetFree l (⟨"java/util/ArrayList", "add", "(Ljava/lang/Object;[Ljava/lang/Object;I)V"⟩ : MethodName) (head1 (Jvm.Cond.code (⟨"java/util/ArrayList", "add", "(Ljava/lang/Object;[Ljava/lang/Object;I)V"⟩ : MethodName) jdk_38_method_24_code 4 none :: ws) ({ frames := 3, cells := 1, slots := 10, locals := 41 } : Room)) (fun aa_ U_ => aa_ = #[(.ref a), (.ref x), (.ref dd), (.int (0 : Int32))] ∧ Z.Warmed39 U_.vm ∧ U_.heap = h0) (fun _ _ _ _ _ => True) (fun _ U_ o_ V_ => ∃ v_ L_, o_ = .returned v_ ∧ Q_own_add3 Z a x mc dd kd h0 n0 v_ V_.heap L_ ∧ FrameEnd U_ o_ V_ L_ ({ frames := 3, cells := 1, slots := 10, locals := 41 } : Room).cells ({ frames := 3, cells := 1, slots := 10, locals := 41 } : Room).slots) := by
  refine MetFree.of_bodySF (plainFor_of_name own_pn_own_add3) hisR ?_
  intro p e s m args below meth c s₁ Bd hml0 hP hK
  obtain ⟨rfl, hZ, hh⟩ := hP
  have hx := Bd.exec
  have hby := Bd.bytes
  have hml : c.maxLocals = 4 := hml0
  have hown : s.vm.findClass "java/util/ArrayList" = some m.cls := findClass_of_methodNamed Bd.named
  have hnm := (name_of_methodNamed Bd.named Bd.method).1
  have X0 : Stand p l e ({ frames := 3, cells := 1, slots := 10, locals := 41 } : Room) s m #[(.ref a), (.ref x), (.ref dd), (.int (0 : Int32))] below meth c s₁ [] 0 0 := Stand.of_body Bd
  have e0 : s₁.heap = h0 := by rw [← hh, Bd.state]; rfl
  have N0 := Fr.nil n0
  have K0 : Keep h0 h0 [a] := Keep.refl _ _
  have r0 : GoTo p.tables e below s₁ (own_F_own_add3 m a x dd) s₁ (mkF m 0 #[.val (.ref a), .val (.ref x), .val (.ref dd), .val (.int (0 : Int32))] []) := fun tt_ kk_ => castTop (own_ef_own_add3 m a x dd) kk_
  obtain ⟨cl1, Ar1, q1, S1, NN1, H1, G1⟩ := id (hp7.ext (O0.keep K0 (allS hp4 all0)).2)
  obtain ⟨cq2, qa2, qb2⟩ := hp0.cell
  obtain ⟨_, _, ⟨T2, L2, k2, n2⟩, -, X2, ⟨Lc2, hQ2, l2, y2, z2⟩, st2⟩ := X0.privateBack hx (y := (⟨"java/util/ArrayList", "grow", "()[Ljava/lang/Object;"⟩ : MethodName)) hown (mvT hZ (hw _ (List.mem_of_getElem? (i := 93) rfl))) (mvT hZ (hw _ (List.mem_of_getElem? (i := 94) rfl))) (mvT hZ (hw _ (List.mem_of_getElem? (i := 96) rfl))) (Cond.privateMethod_at (mvP hZ (hw _ (List.mem_of_getElem? (i := 95) rfl)) (args := #[]))) (mvT hZ (hw _ (List.mem_of_getElem? (i := 97) rfl))) (by decide) (backOf (W := 0) (own_grow l Z a0 hw [] (a) (mc) (dd) (kd) h0 n0 (O0.keep K0 (allS hp4 all0)) (hp0) (hp1) (hp2) (hp3) (hp4) (hp6) (hp7)) hZ (hw _ (List.mem_of_getElem? (i := 97) rfl)) (hw _ (List.mem_of_getElem? (i := 57) rfl)) (by decide) (by decide)) (g := (mkF m 7 #[.val (.ref a), .val (.ref x), .val (.ref dd), .val (.int (0 : Int32))] [(.ref a)])) rfl (by rw [hml]; rfl) (Steps.refl _) (a := a) (by rw [e0]; exact qa2) qb2 (argsL := []) (rest := []) (lenOf own_pd3 rfl) rfl (by show 2 * 0 + _ ≤ _; exact Nat.le_of_eq rfl) (hb hby own_d_jdk_38_method_24_code_7) (fun _ _ => ⟨rfl, e0, (by decide : 0 + 1 ≤ _), (by decide : 0 + 10 ≤ _)⟩)
  dsimp only [Pt.U, Pt.locs, Pt.cells, Pt.slots] at X2 l2 y2 z2 st2 hQ2
  subst l2 y2 z2
  obtain ⟨b_2, kb_2, rfl, Nq2, Kq2, po2_0, po2_1, po2_2, po2_3, po2_4, po2_5, po2_6, po2_7, po2_8⟩ := hQ2
  have N2 := Fr.app N0 Nq2
  have ne3 : a ≠ b_2 := Nat.ne_of_lt (Nat.lt_of_lt_of_le hp0.lt po2_0)
  have ne4 : x ≠ b_2 := Nat.ne_of_lt (Nat.lt_of_lt_of_le hp5.lt po2_0)
  have g5 : n0 ≤ b_2 := Nat.le_trans (Nat.le_trans (own_le O0) K0.1) po2_0
  have b6 : h0.size ≤ b_2 := Nat.le_trans K0.1 po2_0
  have K7 : Keep h0 T2.heap [a] := K0.trans Kq2 (allS (Or.inl (List.mem_of_getElem? (i := 0) rfl)) all0)
  obtain ⟨cl8, Ar8, q8, S8, NN8, H8, G8⟩ := id po2_6
  have hin8 : ¬ ((0 : Int32) < 0 ∨ cl8.slots.size ≤ ((0 : Int32)).toNatClampNeg) := inb_of S8 ⟨by decide, by decide⟩
  have f9 : Exa Z T2.heap x "com/example/myna/myna/orders/OrderLine" := (hp5.keep Kq2)
  obtain ⟨T10, h10, X10, e10, W10, st10⟩ := stR X2 hx hZ rfl Ar8 (j := (0 : Int32)) hin8 rfl (Sto.ofV Ar8 q8 po2_7 (Ins.of_exa f9 (hw _ (List.mem_of_getElem? (i := 109) rfl)))) (g := (mkF m 14 #[.val (.ref a), .val (.ref x), .val (.ref b_2), .val (.int (0 : Int32))] [(.ref x), (.int (0 : Int32)), (.ref b_2)])) rfl rfl (hb hby own_d_jdk_38_method_24_code_14)
  have K11 : Keep h0 h10 [a] := K7.wr W10 (Or.inr b6)
  have V10 : Arv Z h10 b_2 kb_2 (.object "java/lang/Object") (10 : Int32) [(.ref x), .null, .null, .null, .null, .null, .null, .null, .null, .null] .null := Arv.set Ar8 q8 S8 NN8 H8 G8 rfl W10 0 rfl (Nat.le_of_ble_eq_true rfl)
  have N10 := Fr.snoc X10 N2 po2_1
  have f12 : Fld Z h10 a "java/util/ArrayList" "size" "I" (.int (0 : Int32)) := (po2_5.other W10 (Or.inl ne3))
  have f13 : Exa Z h10 a "java/util/ArrayList" := (po2_2.wr W10)
  obtain ⟨T14, h14, X14, e14, W14, st14⟩ := putF X10 hx hZ hown (host := "") (Or.inl (hw _ (List.mem_of_getElem? (i := 86) rfl))) Via.refl e10 f12 f13 (Or.inl (hw _ (List.mem_of_getElem? (i := 87) rfl))) (hw _ (List.mem_of_getElem? (i := 56) rfl)) (ty := .int) (by decide) rfl rfl (g := (mkF m 19 #[.val (.ref a), .val (.ref x), .val (.ref b_2), .val (.int (0 : Int32))] [(.int (1 : Int32)), (.ref a)])) rfl rfl (hb hby own_d_jdk_38_method_24_code_19)
  have K15 : Keep h0 h14 [a] := K11.wr W14 (Or.inl (List.mem_of_getElem? (i := 0) rfl))
  have Fw14 : Fld Z h14 a "java/util/ArrayList" "size" "I" (.int (1 : Int32)) := f12.same W14
  have N14 := Fr.snoc X14 N10 hp4
  have f16 : Arv Z h14 b_2 kb_2 (.object "java/lang/Object") (10 : Int32) [(.ref x), .null, .null, .null, .null, .null, .null, .null, .null, .null] .null := (V10.other W14 (Ne.symm ne3))
  have f17 : Exa Z h14 a "java/util/ArrayList" := (f13.wr W14)
  have f18 : Fld Z h14 a "java/util/AbstractList" "modCount" "I" (.int mc) := ((po2_3.other W10 (Or.inl ne3)).other W14 (Or.inr (Jvm.RoadKit.slot_ne (Or.inl (hw _ (List.mem_of_getElem? (i := 75) rfl))) (Or.inl (hw _ (List.mem_of_getElem? (i := 87) rfl))) (by decide) (t := .int) (t' := .int) (by decide) (by decide))))
  have f19 : Fld Z h14 a "java/util/ArrayList" "elementData" "[Ljava/lang/Object;" (.ref b_2) := ((po2_4.other W10 (Or.inl ne3)).other W14 (Or.inr (Jvm.RoadKit.slot_ne (Or.inl (hw _ (List.mem_of_getElem? (i := 78) rfl))) (Or.inl (hw _ (List.mem_of_getElem? (i := 87) rfl))) (by decide) (t := (.array (.object "java/lang/Object"))) (t' := .int) (by decide) (by decide))))
  have f20 : Exa Z h14 b_2 "[Ljava/lang/Object;" := ((po2_8.wr W10).wr W14)
  obtain ⟨fs, hr, hrun, hended, hW, hsame⟩ := X14.leave (v := none) (fun _ => rfl)
  refine ⟨_, _, r0 _ ?_, hrun, hended, _, _, rfl, ?_, ⟨_, rfl⟩, hW, hsame.mono (by decide) (by decide)⟩
  · show Steps p.tables e below (s₁.setTop (mkF m 0 #[.val (.ref a), .val (.ref x), .val (.ref dd), .val (.int (0 : Int32))] [])) _
    refine XS.iloadN X0.here hx rfl (hb hby own_d_jdk_38_method_24_code_0) rfl ?_
    show Steps p.tables e below (s₁.setTop (mkF m 1 #[.val (.ref a), .val (.ref x), .val (.ref dd), .val (.int (0 : Int32))] [(.int (0 : Int32))])) _
    refine XS.aloadN X0.here hx rfl (hb hby own_d_jdk_38_method_24_code_1) rfl rfl ?_
    show Steps p.tables e below (s₁.setTop (mkF m 2 #[.val (.ref a), .val (.ref x), .val (.ref dd), .val (.int (0 : Int32))] [(.ref dd), (.int (0 : Int32))])) _
    refine X0.arraylength hx (by rw [e0]; exact Ar1.1) (State.isArrayOf_alike hZ.alike Ar1.2.1) (g := (mkF m 2 #[.val (.ref a), .val (.ref x), .val (.ref dd), .val (.int (0 : Int32))] [(.ref dd), (.int (0 : Int32))])) rfl rfl (hb hby own_d_jdk_38_method_24_code_2) _ ?_
    rw [len_of S1 NN1]
    show Steps p.tables e below (s₁.setTop (mkF m 3 #[.val (.ref a), .val (.ref x), .val (.ref dd), .val (.int (0 : Int32))] [(.int (0 : Int32)), (.int (0 : Int32))])) _
    refine XS.icmpNo X0.here hx rfl (hb hby own_d_jdk_38_method_24_code_3) rfl (teq rfl).2 ?_
    show Steps p.tables e below (s₁.setTop (mkF m 6 #[.val (.ref a), .val (.ref x), .val (.ref dd), .val (.int (0 : Int32))] [])) _
    refine XS.aloadN X0.here hx rfl (hb hby own_d_jdk_38_method_24_code_6) rfl rfl ?_
    show Steps p.tables e below (s₁.setTop (mkF m 7 #[.val (.ref a), .val (.ref x), .val (.ref dd), .val (.int (0 : Int32))] [(.ref a)])) _
    refine st2.trans ?_
    show Steps p.tables e below (T2.setTop (mkF m 10 #[.val (.ref a), .val (.ref x), .val (.ref dd), .val (.int (0 : Int32))] [(.ref b_2)])) _
    refine XS.astoreN X2.here hx rfl (hb hby own_d_jdk_38_method_24_code_10) rfl rfl (l' := #[.val (.ref a), .val (.ref x), .val (.ref b_2), .val (.int (0 : Int32))]) rfl ?_
    show Steps p.tables e below (T2.setTop (mkF m 11 #[.val (.ref a), .val (.ref x), .val (.ref b_2), .val (.int (0 : Int32))] [])) _
    refine XS.aloadN X2.here hx rfl (hb hby own_d_jdk_38_method_24_code_11) rfl rfl ?_
    show Steps p.tables e below (T2.setTop (mkF m 12 #[.val (.ref a), .val (.ref x), .val (.ref b_2), .val (.int (0 : Int32))] [(.ref b_2)])) _
    refine XS.iloadN X2.here hx rfl (hb hby own_d_jdk_38_method_24_code_12) rfl ?_
    show Steps p.tables e below (T2.setTop (mkF m 13 #[.val (.ref a), .val (.ref x), .val (.ref b_2), .val (.int (0 : Int32))] [(.int (0 : Int32)), (.ref b_2)])) _
    refine XS.aloadN X2.here hx rfl (hb hby own_d_jdk_38_method_24_code_13) rfl rfl ?_
    show Steps p.tables e below (T2.setTop (mkF m 14 #[.val (.ref a), .val (.ref x), .val (.ref b_2), .val (.int (0 : Int32))] [(.ref x), (.int (0 : Int32)), (.ref b_2)])) _
    refine st10 _ ?_
    show Steps p.tables e below (T10.setTop (mkF m 15 #[.val (.ref a), .val (.ref x), .val (.ref b_2), .val (.int (0 : Int32))] [])) _
    refine XS.aloadN X10.here hx rfl (hb hby own_d_jdk_38_method_24_code_15) rfl rfl ?_
    show Steps p.tables e below (T10.setTop (mkF m 16 #[.val (.ref a), .val (.ref x), .val (.ref b_2), .val (.int (0 : Int32))] [(.ref a)])) _
    refine XS.iloadN X10.here hx rfl (hb hby own_d_jdk_38_method_24_code_16) rfl ?_
    show Steps p.tables e below (T10.setTop (mkF m 17 #[.val (.ref a), .val (.ref x), .val (.ref b_2), .val (.int (0 : Int32))] [(.int (0 : Int32)), (.ref a)])) _
    refine XS.iconst X10.here hx rfl (hb hby own_d_jdk_38_method_24_code_17) ?_
    show Steps p.tables e below (T10.setTop (mkF m 18 #[.val (.ref a), .val (.ref x), .val (.ref b_2), .val (.int (0 : Int32))] [(.int (1 : Int32)), (.int (0 : Int32)), (.ref a)])) _
    refine XS.iadd X10.here hx rfl (hb hby own_d_jdk_38_method_24_code_18) rfl ?_
    show Steps p.tables e below (T10.setTop (mkF m 19 #[.val (.ref a), .val (.ref x), .val (.ref b_2), .val (.int (0 : Int32))] [(.int (1 : Int32)), (.ref a)])) _
    refine st14 _ ?_
    show Steps p.tables e below (T14.setTop (mkF m 22 #[.val (.ref a), .val (.ref x), .val (.ref b_2), .val (.int (0 : Int32))] [])) _
    exact X14.returnOut hx Bd.returns (hb hby own_d_jdk_38_method_24_code_22) hr
  · show Q_own_add3 Z a x mc dd kd h0 n0 _ T14.heap _
    rw [e14]
    exact ⟨b_2, kb_2, rfl, N14, K15, b6, po2_1, f17, f18, f19, Fw14, f16, po2_7, f20⟩
theorem own_pn_own_add : plainName "java/util/ArrayList" = true := by first | (simp [plainName, overriddenIn]; done) | decide +kernel
theorem own_ef_own_add (m : MethodId) (a : Addr) (x : Addr) : entryFrame m #[(.ref a), (.ref x)] 2 = mkF m 0 #[.val (.ref a), .val (.ref x)] [] := by first | (simp [entryFrame, mkF, argsToLocals, own_cI, own_cJ, own_cR, own_cN]; done) | rfl
abbrev own_F_own_add (m : MethodId) (a : Addr) (x : Addr) : JFrame := entryFrame m #[(.ref a), (.ref x)] 2
def Q_own_add (Z : State) (a : Addr) (x : Addr) (mc : Int32) (dd : Addr) (kd : ClassId) (h0 : Heap) (n0 : Nat) (v : Option Value) (h : Heap) (L : List Loc) : Prop := ∃ (b : Addr), ∃ (kb : ClassId), v = some (.int (1 : Int32)) ∧ Fr n0 L ∧ Keep h0 h [a] ∧ (h0.size ≤ b) ∧ (n0 ≤ b) ∧ (Exa Z h a "java/util/ArrayList") ∧ (Fld Z h a "java/util/AbstractList" "modCount" "I" (.int (mc + (1 : Int32)))) ∧ (Fld Z h a "java/util/ArrayList" "elementData" "[Ljava/lang/Object;" (.ref b)) ∧ (Fld Z h a "java/util/ArrayList" "size" "I" (.int (1 : Int32))) ∧ (Arv Z h b kb (.object "java/lang/Object") (10 : Int32) [(.ref x), .null, .null, .null, .null, .null, .null, .null, .null, .null] .null) ∧ (Ovr Z kb "java/lang/Object") ∧ (Exa Z h b "[Ljava/lang/Object;")
set_option maxRecDepth 65536 in
set_option maxHeartbeats 40000000 in
theorem own_add (l : Launch) (Z : State) (a0 : Array Value) (hw : ∀ d ∈ tables_1, d.before a0 Z = true) (ws : List Jvm.Cond) (a : Addr) (x : Addr) (mc : Int32) (dd : Addr) (kd : ClassId) (h0 : Heap) (n0 : Nat) (O0 : Old Z n0 h0) (hp0 : Exa Z h0 a "java/util/ArrayList") (hp1 : Fld Z h0 a "java/util/AbstractList" "modCount" "I" (.int mc)) (hp2 : Fld Z h0 a "java/util/ArrayList" "elementData" "[Ljava/lang/Object;" (.ref dd)) (hp3 : Fld Z h0 a "java/util/ArrayList" "size" "I" (.int (0 : Int32))) (hp4 : n0 ≤ a) (hp5 : Exa Z h0 x "com/example/myna/myna/orders/OrderLine") (hp6 : Sta Z Z.heap "java/util/ArrayList" "DEFAULTCAPACITY_EMPTY_ELEMENTDATA" "[Ljava/lang/Object;" (.ref dd)) (hp7 : Arv Z Z.heap dd kd (.object "java/lang/Object") (0 : Int32) [] .null) :
    MetFree l (⟨"java/util/ArrayList", "add", "(Ljava/lang/Object;)Z"⟩ : MethodName) (head1 (Jvm.Cond.code (⟨"java/util/ArrayList", "add", "(Ljava/lang/Object;)Z"⟩ : MethodName) jdk_38_method_25_code 2 (some .boolean) :: ws) ({ frames := 4, cells := 1, slots := 10, locals := 56 } : Room)) (fun aa_ U_ => aa_ = #[(.ref a), (.ref x)] ∧ Z.Warmed39 U_.vm ∧ U_.heap = h0) (fun _ _ _ _ _ => True) (fun _ U_ o_ V_ => ∃ v_ L_, o_ = .returned v_ ∧ Q_own_add Z a x mc dd kd h0 n0 v_ V_.heap L_ ∧ FrameEnd U_ o_ V_ L_ ({ frames := 4, cells := 1, slots := 10, locals := 56 } : Room).cells ({ frames := 4, cells := 1, slots := 10, locals := 56 } : Room).slots) := by
  refine MetFree.of_bodySF (plainFor_of_name own_pn_own_add) hisR ?_
  intro p e s m args below meth c s₁ Bd hml0 hP hK
  obtain ⟨rfl, hZ, hh⟩ := hP
  have hx := Bd.exec
  have hby := Bd.bytes
  have hml : c.maxLocals = 2 := hml0
  have hown : s.vm.findClass "java/util/ArrayList" = some m.cls := findClass_of_methodNamed Bd.named
  have hnm := (name_of_methodNamed Bd.named Bd.method).1
  have X0 : Stand p l e ({ frames := 4, cells := 1, slots := 10, locals := 56 } : Room) s m #[(.ref a), (.ref x)] below meth c s₁ [] 0 0 := Stand.of_body Bd
  have e0 : s₁.heap = h0 := by rw [← hh, Bd.state]; rfl
  have N0 := Fr.nil n0
  have K0 : Keep h0 h0 [a] := Keep.refl _ _
  have r0 : GoTo p.tables e below s₁ (own_F_own_add m a x) s₁ (mkF m 0 #[.val (.ref a), .val (.ref x)] []) := fun tt_ kk_ => castTop (own_ef_own_add m a x) kk_
  obtain ⟨T1, X1, e1, st1⟩ := getF X0 hx hZ hown (host := "") (Or.inl (hw _ (List.mem_of_getElem? (i := 84) rfl))) (Via.of (hw _ (List.mem_of_getElem? (i := 85) rfl))) e0 hp1 (g := (mkF m 2 #[.val (.ref a), .val (.ref x)] [(.ref a), (.ref a)])) rfl rfl (hb hby own_d_jdk_38_method_25_code_2)
  obtain ⟨T2, h2, X2, e2, W2, st2⟩ := putF X1 hx hZ hown (host := "") (Or.inl (hw _ (List.mem_of_getElem? (i := 84) rfl))) (Via.of (hw _ (List.mem_of_getElem? (i := 85) rfl))) e1 hp1 hp0 (Or.inl (hw _ (List.mem_of_getElem? (i := 75) rfl))) (hw _ (List.mem_of_getElem? (i := 56) rfl)) (ty := .int) (by decide) rfl rfl (g := (mkF m 7 #[.val (.ref a), .val (.ref x)] [(.int (mc + (1 : Int32))), (.ref a)])) rfl rfl (hb hby own_d_jdk_38_method_25_code_7)
  have K3 : Keep h0 h2 [a] := K0.wr W2 (Or.inl (List.mem_of_getElem? (i := 0) rfl))
  have Fw2 : Fld Z h2 a "java/util/AbstractList" "modCount" "I" (.int (mc + (1 : Int32))) := hp1.same W2
  have N2 := Fr.snoc X2 N0 hp4
  have f4 : Fld Z h2 a "java/util/ArrayList" "elementData" "[Ljava/lang/Object;" (.ref dd) := (hp2.other W2 (Or.inr (Jvm.RoadKit.slot_ne (Or.inl (hw _ (List.mem_of_getElem? (i := 78) rfl))) (Or.inl (hw _ (List.mem_of_getElem? (i := 75) rfl))) (by decide) (t := (.array (.object "java/lang/Object"))) (t' := .int) (by decide) (by decide))))
  obtain ⟨T5, X5, e5, st5⟩ := getF X2 hx hZ hown (host := "") (Or.inl (hw _ (List.mem_of_getElem? (i := 77) rfl))) Via.refl e2 f4 (g := (mkF m 13 #[.val (.ref a), .val (.ref x)] [(.ref a), (.ref x), (.ref a)])) rfl rfl (hb hby own_d_jdk_38_method_25_code_13)
  have f6 : Fld Z h2 a "java/util/ArrayList" "size" "I" (.int (0 : Int32)) := (hp3.other W2 (Or.inr (Jvm.RoadKit.slot_ne (Or.inl (hw _ (List.mem_of_getElem? (i := 87) rfl))) (Or.inl (hw _ (List.mem_of_getElem? (i := 75) rfl))) (by decide) (t := .int) (t' := .int) (by decide) (by decide))))
  obtain ⟨T7, X7, e7, st7⟩ := getF X5 hx hZ hown (host := "") (Or.inl (hw _ (List.mem_of_getElem? (i := 86) rfl))) Via.refl e5 f6 (g := (mkF m 17 #[.val (.ref a), .val (.ref x)] [(.ref a), (.ref dd), (.ref x), (.ref a)])) rfl rfl (hb hby own_d_jdk_38_method_25_code_17)
  have f8 : Exa Z h2 a "java/util/ArrayList" := (hp0.wr W2)
  have f9 : Exa Z h2 x "com/example/myna/myna/orders/OrderLine" := (hp5.wr W2)
  obtain ⟨cq10, qa10, qb10⟩ := f8.cell
  obtain ⟨_, _, ⟨T10, L10, k10, n10⟩, -, X10, ⟨Lc10, hQ10, l10, y10, z10⟩, st10⟩ := X7.privateBack hx (y := (⟨"java/util/ArrayList", "add", "(Ljava/lang/Object;[Ljava/lang/Object;I)V"⟩ : MethodName)) hown (mvT hZ (hw _ (List.mem_of_getElem? (i := 88) rfl))) (mvT hZ (hw _ (List.mem_of_getElem? (i := 89) rfl))) (mvT hZ (hw _ (List.mem_of_getElem? (i := 91) rfl))) (Cond.privateMethod_at (mvP hZ (hw _ (List.mem_of_getElem? (i := 90) rfl)) (args := #[]))) (mvT hZ (hw _ (List.mem_of_getElem? (i := 92) rfl))) (by decide) (backOf (W := 0) (own_add3 l Z a0 hw [] (a) (x) ((mc + (1 : Int32))) (dd) (kd) h2 n0 (O0.keep K3 (allS hp4 all0)) (f8) (Fw2) (f4) (f6) (hp4) (f9) (hp6) (hp7)) hZ (hw _ (List.mem_of_getElem? (i := 92) rfl)) (hw _ (List.mem_of_getElem? (i := 57) rfl)) (by decide) (by decide)) (g := (mkF m 20 #[.val (.ref a), .val (.ref x)] [(.int (0 : Int32)), (.ref dd), (.ref x), (.ref a)])) rfl (by rw [hml]; rfl) (Steps.refl _) (a := a) (by rw [e7]; exact qa10) qb10 (argsL := [(.ref x), (.ref dd), (.int (0 : Int32))]) (rest := []) (lenOf own_pd4 rfl) rfl (by show 2 * 0 + _ ≤ _; exact Nat.le_of_eq rfl) (hb hby own_d_jdk_38_method_25_code_20) (fun _ _ => ⟨rfl, e7, (by decide : 0 + 1 ≤ _), (by decide : 0 + 10 ≤ _)⟩)
  dsimp only [Pt.U, Pt.locs, Pt.cells, Pt.slots] at X10 l10 y10 z10 st10 hQ10
  subst l10 y10 z10
  obtain ⟨b_10, kb_10, rfl, Nq10, Kq10, po10_0, po10_1, po10_2, po10_3, po10_4, po10_5, po10_6, po10_7, po10_8⟩ := hQ10
  have N10 := Fr.app N2 Nq10
  have ne11 : a ≠ b_10 := Nat.ne_of_lt (Nat.lt_of_lt_of_le (Nat.lt_of_lt_of_le hp0.lt (Nat.le_of_eq (Wr.size W2).symm)) po10_0)
  have ne12 : x ≠ b_10 := Nat.ne_of_lt (Nat.lt_of_lt_of_le (Nat.lt_of_lt_of_le hp5.lt (Nat.le_of_eq (Wr.size W2).symm)) po10_0)
  have g13 : n0 ≤ b_10 := Nat.le_trans (Nat.le_trans (own_le O0) K3.1) po10_0
  have b14 : h0.size ≤ b_10 := Nat.le_trans K3.1 po10_0
  have K15 : Keep h0 T10.heap [a] := K3.trans Kq10 (allS (Or.inl (List.mem_of_getElem? (i := 0) rfl)) all0)
  obtain ⟨fs, hr, hrun, hended, hW, hsame⟩ := X10.leave (v := some (.int (nar .boolean (1 : Int32)))) (fun h => by rw [Bd.returns] at h; cases h)
  refine ⟨_, _, r0 _ ?_, hrun, hended, _, _, rfl, ?_, ⟨_, rfl⟩, hW, hsame.mono (by decide) (by decide)⟩
  · show Steps p.tables e below (s₁.setTop (mkF m 0 #[.val (.ref a), .val (.ref x)] [])) _
    refine XS.aloadN X0.here hx rfl (hb hby own_d_jdk_38_method_25_code_0) rfl rfl ?_
    show Steps p.tables e below (s₁.setTop (mkF m 1 #[.val (.ref a), .val (.ref x)] [(.ref a)])) _
    refine XS.dup X0.here hx rfl (hb hby own_d_jdk_38_method_25_code_1) rfl rfl ?_
    show Steps p.tables e below (s₁.setTop (mkF m 2 #[.val (.ref a), .val (.ref x)] [(.ref a), (.ref a)])) _
    refine st1 _ ?_
    show Steps p.tables e below (T1.setTop (mkF m 5 #[.val (.ref a), .val (.ref x)] [(.int mc), (.ref a)])) _
    refine XS.iconst X1.here hx rfl (hb hby own_d_jdk_38_method_25_code_5) ?_
    show Steps p.tables e below (T1.setTop (mkF m 6 #[.val (.ref a), .val (.ref x)] [(.int (1 : Int32)), (.int mc), (.ref a)])) _
    refine XS.iadd X1.here hx rfl (hb hby own_d_jdk_38_method_25_code_6) rfl ?_
    show Steps p.tables e below (T1.setTop (mkF m 7 #[.val (.ref a), .val (.ref x)] [(.int (mc + (1 : Int32))), (.ref a)])) _
    refine st2 _ ?_
    show Steps p.tables e below (T2.setTop (mkF m 10 #[.val (.ref a), .val (.ref x)] [])) _
    refine XS.aloadN X2.here hx rfl (hb hby own_d_jdk_38_method_25_code_10) rfl rfl ?_
    show Steps p.tables e below (T2.setTop (mkF m 11 #[.val (.ref a), .val (.ref x)] [(.ref a)])) _
    refine XS.aloadN X2.here hx rfl (hb hby own_d_jdk_38_method_25_code_11) rfl rfl ?_
    show Steps p.tables e below (T2.setTop (mkF m 12 #[.val (.ref a), .val (.ref x)] [(.ref x), (.ref a)])) _
    refine XS.aloadN X2.here hx rfl (hb hby own_d_jdk_38_method_25_code_12) rfl rfl ?_
    show Steps p.tables e below (T2.setTop (mkF m 13 #[.val (.ref a), .val (.ref x)] [(.ref a), (.ref x), (.ref a)])) _
    refine st5 _ ?_
    show Steps p.tables e below (T5.setTop (mkF m 16 #[.val (.ref a), .val (.ref x)] [(.ref dd), (.ref x), (.ref a)])) _
    refine XS.aloadN X5.here hx rfl (hb hby own_d_jdk_38_method_25_code_16) rfl rfl ?_
    show Steps p.tables e below (T5.setTop (mkF m 17 #[.val (.ref a), .val (.ref x)] [(.ref a), (.ref dd), (.ref x), (.ref a)])) _
    refine st7 _ ?_
    show Steps p.tables e below (T7.setTop (mkF m 20 #[.val (.ref a), .val (.ref x)] [(.int (0 : Int32)), (.ref dd), (.ref x), (.ref a)])) _
    refine st10.trans ?_
    show Steps p.tables e below (T10.setTop (mkF m 23 #[.val (.ref a), .val (.ref x)] [])) _
    refine XS.iconst X10.here hx rfl (hb hby own_d_jdk_38_method_25_code_23) ?_
    show Steps p.tables e below (T10.setTop (mkF m 24 #[.val (.ref a), .val (.ref x)] [(.int (1 : Int32))])) _
    exact retN X10 hx (t := .boolean) Bd.returns (by simp) (hb hby own_d_jdk_38_method_25_code_24) hr
  · show Q_own_add Z a x mc dd kd h0 n0 _ T10.heap _
    exact ⟨b_10, kb_10, rfl, N10, K15, b14, po10_1, po10_2, po10_3, po10_4, po10_5, po10_6, po10_7, po10_8⟩
theorem own_pn_own_isEmpty0 : plainName "java/util/ArrayList" = true := by first | (simp [plainName, overriddenIn]; done) | decide +kernel
theorem own_ef_own_isEmpty0 (m : MethodId) (a : Addr) : entryFrame m #[(.ref a)] 1 = mkF m 0 #[.val (.ref a)] [] := by first | (simp [entryFrame, mkF, argsToLocals, own_cI, own_cJ, own_cR, own_cN]; done) | rfl
abbrev own_F_own_isEmpty0 (m : MethodId) (a : Addr) : JFrame := entryFrame m #[(.ref a)] 1
def Q_own_isEmpty0 (Z : State) (a : Addr) (h0 : Heap) (n0 : Nat) (v : Option Value) (h : Heap) (L : List Loc) : Prop := v = some (.int (1 : Int32)) ∧ Fr n0 L ∧ h = h0
set_option maxRecDepth 65536 in
set_option maxHeartbeats 40000000 in
theorem own_isEmpty0 (l : Launch) (Z : State) (a0 : Array Value) (hw : ∀ d ∈ tables_1, d.before a0 Z = true) (ws : List Jvm.Cond) (a : Addr) (h0 : Heap) (n0 : Nat) (O0 : Old Z n0 h0) (hp0 : Fld Z h0 a "java/util/ArrayList" "size" "I" (.int (0 : Int32))) :
    MetFree l (⟨"java/util/ArrayList", "isEmpty", "()Z"⟩ : MethodName) (head1 (Jvm.Cond.code (⟨"java/util/ArrayList", "isEmpty", "()Z"⟩ : MethodName) jdk_38_method_9_code 1 (some .boolean) :: ws) ({ frames := 0, cells := 0, slots := 0, locals := 0 } : Room)) (fun aa_ U_ => aa_ = #[(.ref a)] ∧ Z.Warmed39 U_.vm ∧ U_.heap = h0) (fun _ _ _ _ _ => True) (fun _ U_ o_ V_ => ∃ v_ L_, o_ = .returned v_ ∧ Q_own_isEmpty0 Z a h0 n0 v_ V_.heap L_ ∧ FrameEnd U_ o_ V_ L_ ({ frames := 0, cells := 0, slots := 0, locals := 0 } : Room).cells ({ frames := 0, cells := 0, slots := 0, locals := 0 } : Room).slots) := by
  refine MetFree.of_bodySF (plainFor_of_name own_pn_own_isEmpty0) hisR ?_
  intro p e s m args below meth c s₁ Bd hml0 hP hK
  obtain ⟨rfl, hZ, hh⟩ := hP
  have hx := Bd.exec
  have hby := Bd.bytes
  have hml : c.maxLocals = 1 := hml0
  have hown : s.vm.findClass "java/util/ArrayList" = some m.cls := findClass_of_methodNamed Bd.named
  have hnm := (name_of_methodNamed Bd.named Bd.method).1
  have X0 : Stand p l e ({ frames := 0, cells := 0, slots := 0, locals := 0 } : Room) s m #[(.ref a)] below meth c s₁ [] 0 0 := Stand.of_body Bd
  have e0 : s₁.heap = h0 := by rw [← hh, Bd.state]; rfl
  have N0 := Fr.nil n0
  have K0 : Keep h0 h0 [] := Keep.refl _ _
  have r0 : GoTo p.tables e below s₁ (own_F_own_isEmpty0 m a) s₁ (mkF m 0 #[.val (.ref a)] []) := fun tt_ kk_ => castTop (own_ef_own_isEmpty0 m a) kk_
  obtain ⟨T1, X1, e1, st1⟩ := getF X0 hx hZ hown (host := "") (Or.inl (hw _ (List.mem_of_getElem? (i := 86) rfl))) Via.refl e0 hp0 (g := (mkF m 1 #[.val (.ref a)] [(.ref a)])) rfl rfl (hb hby own_d_jdk_38_method_9_code_1)
  obtain ⟨fs, hr, hrun, hended, hW, hsame⟩ := X1.leave (v := some (.int (nar .boolean (1 : Int32)))) (fun h => by rw [Bd.returns] at h; cases h)
  refine ⟨_, _, r0 _ ?_, hrun, hended, _, _, rfl, ?_, ⟨_, rfl⟩, hW, hsame.mono (by decide) (by decide)⟩
  · show Steps p.tables e below (s₁.setTop (mkF m 0 #[.val (.ref a)] [])) _
    refine XS.aloadN X0.here hx rfl (hb hby own_d_jdk_38_method_9_code_0) rfl rfl ?_
    show Steps p.tables e below (s₁.setTop (mkF m 1 #[.val (.ref a)] [(.ref a)])) _
    refine st1 _ ?_
    show Steps p.tables e below (T1.setTop (mkF m 4 #[.val (.ref a)] [(.int (0 : Int32))])) _
    refine XS.ifNo X1.here hx rfl (hb hby own_d_jdk_38_method_9_code_4) rfl ((if0 _ _).trans (teq rfl).2) ?_
    show Steps p.tables e below (T1.setTop (mkF m 7 #[.val (.ref a)] [])) _
    refine XS.iconst X1.here hx rfl (hb hby own_d_jdk_38_method_9_code_7) ?_
    show Steps p.tables e below (T1.setTop (mkF m 8 #[.val (.ref a)] [(.int (1 : Int32))])) _
    refine XS.goto X1.here hx rfl (pc0 := 8) (pc' := 12) rfl (hb hby own_d_jdk_38_method_9_code_8) (by decide) (by decide) ?_
    show Steps p.tables e below (T1.setTop (mkF m 12 #[.val (.ref a)] [(.int (1 : Int32))])) _
    exact retN X1 hx (t := .boolean) Bd.returns (by simp) (hb hby own_d_jdk_38_method_9_code_12) hr
  · show Q_own_isEmpty0 Z a h0 n0 _ T1.heap _
    rw [e1]
    exact ⟨rfl, N0, rfl⟩
theorem own_pn_own_isEmpty1 : plainName "java/util/ArrayList" = true := by first | (simp [plainName, overriddenIn]; done) | decide +kernel
theorem own_ef_own_isEmpty1 (m : MethodId) (a : Addr) : entryFrame m #[(.ref a)] 1 = mkF m 0 #[.val (.ref a)] [] := by first | (simp [entryFrame, mkF, argsToLocals, own_cI, own_cJ, own_cR, own_cN]; done) | rfl
abbrev own_F_own_isEmpty1 (m : MethodId) (a : Addr) : JFrame := entryFrame m #[(.ref a)] 1
def Q_own_isEmpty1 (Z : State) (a : Addr) (h0 : Heap) (n0 : Nat) (v : Option Value) (h : Heap) (L : List Loc) : Prop := v = some (.int (0 : Int32)) ∧ Fr n0 L ∧ h = h0
set_option maxRecDepth 65536 in
set_option maxHeartbeats 40000000 in
theorem own_isEmpty1 (l : Launch) (Z : State) (a0 : Array Value) (hw : ∀ d ∈ tables_1, d.before a0 Z = true) (ws : List Jvm.Cond) (a : Addr) (h0 : Heap) (n0 : Nat) (O0 : Old Z n0 h0) (hp0 : Fld Z h0 a "java/util/ArrayList" "size" "I" (.int (1 : Int32))) :
    MetFree l (⟨"java/util/ArrayList", "isEmpty", "()Z"⟩ : MethodName) (head1 (Jvm.Cond.code (⟨"java/util/ArrayList", "isEmpty", "()Z"⟩ : MethodName) jdk_38_method_9_code 1 (some .boolean) :: ws) ({ frames := 0, cells := 0, slots := 0, locals := 0 } : Room)) (fun aa_ U_ => aa_ = #[(.ref a)] ∧ Z.Warmed39 U_.vm ∧ U_.heap = h0) (fun _ _ _ _ _ => True) (fun _ U_ o_ V_ => ∃ v_ L_, o_ = .returned v_ ∧ Q_own_isEmpty1 Z a h0 n0 v_ V_.heap L_ ∧ FrameEnd U_ o_ V_ L_ ({ frames := 0, cells := 0, slots := 0, locals := 0 } : Room).cells ({ frames := 0, cells := 0, slots := 0, locals := 0 } : Room).slots) := by
  refine MetFree.of_bodySF (plainFor_of_name own_pn_own_isEmpty1) hisR ?_
  intro p e s m args below meth c s₁ Bd hml0 hP hK
  obtain ⟨rfl, hZ, hh⟩ := hP
  have hx := Bd.exec
  have hby := Bd.bytes
  have hml : c.maxLocals = 1 := hml0
  have hown : s.vm.findClass "java/util/ArrayList" = some m.cls := findClass_of_methodNamed Bd.named
  have hnm := (name_of_methodNamed Bd.named Bd.method).1
  have X0 : Stand p l e ({ frames := 0, cells := 0, slots := 0, locals := 0 } : Room) s m #[(.ref a)] below meth c s₁ [] 0 0 := Stand.of_body Bd
  have e0 : s₁.heap = h0 := by rw [← hh, Bd.state]; rfl
  have N0 := Fr.nil n0
  have K0 : Keep h0 h0 [] := Keep.refl _ _
  have r0 : GoTo p.tables e below s₁ (own_F_own_isEmpty1 m a) s₁ (mkF m 0 #[.val (.ref a)] []) := fun tt_ kk_ => castTop (own_ef_own_isEmpty1 m a) kk_
  obtain ⟨T1, X1, e1, st1⟩ := getF X0 hx hZ hown (host := "") (Or.inl (hw _ (List.mem_of_getElem? (i := 86) rfl))) Via.refl e0 hp0 (g := (mkF m 1 #[.val (.ref a)] [(.ref a)])) rfl rfl (hb hby own_d_jdk_38_method_9_code_1)
  obtain ⟨fs, hr, hrun, hended, hW, hsame⟩ := X1.leave (v := some (.int (nar .boolean (0 : Int32)))) (fun h => by rw [Bd.returns] at h; cases h)
  refine ⟨_, _, r0 _ ?_, hrun, hended, _, _, rfl, ?_, ⟨_, rfl⟩, hW, hsame.mono (by decide) (by decide)⟩
  · show Steps p.tables e below (s₁.setTop (mkF m 0 #[.val (.ref a)] [])) _
    refine XS.aloadN X0.here hx rfl (hb hby own_d_jdk_38_method_9_code_0) rfl rfl ?_
    show Steps p.tables e below (s₁.setTop (mkF m 1 #[.val (.ref a)] [(.ref a)])) _
    refine st1 _ ?_
    show Steps p.tables e below (T1.setTop (mkF m 4 #[.val (.ref a)] [(.int (1 : Int32))])) _
    refine XS.ifYes X1.here hx rfl (pc0 := 4) (pc' := 11) rfl (hb hby own_d_jdk_38_method_9_code_4) rfl ((if0 _ _).trans (feq (by decide)).2) (by decide) (by decide) ?_
    show Steps p.tables e below (T1.setTop (mkF m 11 #[.val (.ref a)] [])) _
    refine XS.iconst X1.here hx rfl (hb hby own_d_jdk_38_method_9_code_11) ?_
    show Steps p.tables e below (T1.setTop (mkF m 12 #[.val (.ref a)] [(.int (0 : Int32))])) _
    exact retN X1 hx (t := .boolean) Bd.returns (by simp) (hb hby own_d_jdk_38_method_9_code_12) hr
  · show Q_own_isEmpty1 Z a h0 n0 _ T1.heap _
    rw [e1]
    exact ⟨rfl, N0, rfl⟩
theorem own_ef_own_min_10_1 (m : MethodId)  : entryFrame m #[(.int (10 : Int32)), (.int (1 : Int32))] 2 = mkF m 0 #[.val (.int (10 : Int32)), .val (.int (1 : Int32))] [] := by first | (simp [entryFrame, mkF, argsToLocals, own_cI, own_cJ, own_cR, own_cN]; done) | rfl
abbrev own_F_own_min_10_1 (m : MethodId)  : JFrame := entryFrame m #[(.int (10 : Int32)), (.int (1 : Int32))] 2
def Q_own_min_10_1 (Z : State)  (h0 : Heap) (n0 : Nat) (v : Option Value) (h : Heap) (L : List Loc) : Prop := v = some (.int (1 : Int32)) ∧ Fr n0 L ∧ h = h0
set_option maxRecDepth 65536 in
set_option maxHeartbeats 40000000 in
theorem own_min_10_1 (l : Launch) (Z : State) (a0 : Array Value) (hw : ∀ d ∈ tables_1, d.before a0 Z = true) (ws : List Jvm.Cond)  (h0 : Heap) (n0 : Nat) (O0 : Old Z n0 h0) :
    MetFree l (⟨"java/lang/Math", "min", "(II)I"⟩ : MethodName) (head1 (Jvm.Cond.code (⟨"java/lang/Math", "min", "(II)I"⟩ : MethodName) jdk_29_method_69_code 2 (some .int) :: ws) ({ frames := 0, cells := 0, slots := 0, locals := 0 } : Room)) (fun aa_ U_ => aa_ = #[(.int (10 : Int32)), (.int (1 : Int32))] ∧ Z.Warmed39 U_.vm ∧ U_.heap = h0) (fun _ _ _ _ _ => True) (fun _ U_ o_ V_ => ∃ v_ L_, o_ = .returned v_ ∧ Q_own_min_10_1 Z  h0 n0 v_ V_.heap L_ ∧ FrameEnd U_ o_ V_ L_ ({ frames := 0, cells := 0, slots := 0, locals := 0 } : Room).cells ({ frames := 0, cells := 0, slots := 0, locals := 0 } : Room).slots) := by
  refine MetFree.of_bodySF (Jvm.Free.JP.mathPlain rfl (by decide +kernel)) hisR ?_
  intro p e s m args below meth c s₁ Bd hml0 hP hK
  obtain ⟨rfl, hZ, hh⟩ := hP
  have hx := Bd.exec
  have hby := Bd.bytes
  have hml : c.maxLocals = 2 := hml0
  have hown : s.vm.findClass "java/lang/Math" = some m.cls := findClass_of_methodNamed Bd.named
  have hnm := (name_of_methodNamed Bd.named Bd.method).1
  have X0 : Stand p l e ({ frames := 0, cells := 0, slots := 0, locals := 0 } : Room) s m #[(.int (10 : Int32)), (.int (1 : Int32))] below meth c s₁ [] 0 0 := Stand.of_body Bd
  have e0 : s₁.heap = h0 := by rw [← hh, Bd.state]; rfl
  have N0 := Fr.nil n0
  have K0 : Keep h0 h0 [] := Keep.refl _ _
  have r0 : GoTo p.tables e below s₁ (own_F_own_min_10_1 m ) s₁ (mkF m 0 #[.val (.int (10 : Int32)), .val (.int (1 : Int32))] []) := fun tt_ kk_ => castTop (own_ef_own_min_10_1 m ) kk_
  obtain ⟨fs, hr, hrun, hended, hW, hsame⟩ := X0.leave (v := some (.int (1 : Int32))) (fun h => by rw [Bd.returns] at h; cases h)
  refine ⟨_, _, r0 _ ?_, hrun, hended, _, _, rfl, ?_, ⟨_, rfl⟩, hW, hsame.mono (by decide) (by decide)⟩
  · show Steps p.tables e below (s₁.setTop (mkF m 0 #[.val (.int (10 : Int32)), .val (.int (1 : Int32))] [])) _
    refine XS.iloadN X0.here hx rfl (hb hby own_d_jdk_29_method_69_code_0) rfl ?_
    show Steps p.tables e below (s₁.setTop (mkF m 1 #[.val (.int (10 : Int32)), .val (.int (1 : Int32))] [(.int (10 : Int32))])) _
    refine XS.iloadN X0.here hx rfl (hb hby own_d_jdk_29_method_69_code_1) rfl ?_
    show Steps p.tables e below (s₁.setTop (mkF m 2 #[.val (.int (10 : Int32)), .val (.int (1 : Int32))] [(.int (1 : Int32)), (.int (10 : Int32))])) _
    refine XS.icmpYes X0.here hx rfl (pc0 := 2) (pc' := 9) rfl (hb hby own_d_jdk_29_method_69_code_2) rfl (tlt (by decide)).2.2.1 (by decide) (by decide) ?_
    show Steps p.tables e below (s₁.setTop (mkF m 9 #[.val (.int (10 : Int32)), .val (.int (1 : Int32))] [])) _
    refine XS.iloadN X0.here hx rfl (hb hby own_d_jdk_29_method_69_code_9) rfl ?_
    show Steps p.tables e below (s₁.setTop (mkF m 10 #[.val (.int (10 : Int32)), .val (.int (1 : Int32))] [(.int (1 : Int32))])) _
    exact retI X0 hx Bd.returns (hb hby own_d_jdk_29_method_69_code_10) hr
  · show Q_own_min_10_1 Z  h0 n0 _ s₁.heap _
    rw [e0]
    exact ⟨rfl, N0, rfl⟩
theorem own_pn_own_cp3 : plainName "java/util/Arrays" = true := by first | (simp [plainName, overriddenIn]; done) | decide +kernel
theorem own_ef_own_cp3 (m : MethodId) (ar : Addr) (mr : Addr) : entryFrame m #[(.ref ar), (.int (1 : Int32)), (.ref mr)] 4 = mkF m 0 #[.val (.ref ar), .val (.int (1 : Int32)), .val (.ref mr), .unset] [] := by first | (simp [entryFrame, mkF, argsToLocals, own_cI, own_cJ, own_cR, own_cN]; done) | rfl
abbrev own_F_own_cp3 (m : MethodId) (ar : Addr) (mr : Addr) : JFrame := entryFrame m #[(.ref ar), (.int (1 : Int32)), (.ref mr)] 4
def Q_own_cp3 (Z : State) (ar : Addr) (ka : ClassId) (x : Addr) (mr : Addr) (h0 : Heap) (n0 : Nat) (v : Option Value) (h : Heap) (L : List Loc) : Prop := ∃ (b : Addr), ∃ (kb : ClassId), v = some (.ref b) ∧ Fr n0 L ∧ Keep h0 h [] ∧ (h0.size ≤ b) ∧ (n0 ≤ b) ∧ (Arv Z h b kb (.object "java/lang/Object") (1 : Int32) [(.ref x)] .null)
set_option maxRecDepth 65536 in
set_option maxHeartbeats 40000000 in
theorem own_cp3 (l : Launch) (Z : State) (a0 : Array Value) (hw : ∀ d ∈ tables_1, d.before a0 Z = true) (ws : List Jvm.Cond) (ar : Addr) (ka : ClassId) (x : Addr) (mr : Addr) (h0 : Heap) (n0 : Nat) (O0 : Old Z n0 h0) (hp0 : Arv Z h0 ar ka (.object "java/lang/Object") (10 : Int32) [(.ref x), .null, .null, .null, .null, .null, .null, .null, .null, .null] .null) (hp1 : Exa Z h0 ar "[Ljava/lang/Object;") (hp2 : Exa Z h0 x "com/example/myna/myna/orders/OrderLine") (hMir : own_Mir Z "[Ljava/lang/Object;" mr) :
    MetFree l (⟨"java/util/Arrays", "copyOf", "([Ljava/lang/Object;ILjava/lang/Class;)[Ljava/lang/Object;"⟩ : MethodName) (head1 (Jvm.Cond.code (⟨"java/util/Arrays", "copyOf", "([Ljava/lang/Object;ILjava/lang/Class;)[Ljava/lang/Object;"⟩ : MethodName) jdk_65_method_120_code 4 (some (.array (.object "java/lang/Object"))) :: ws) ({ frames := 1, cells := 1, slots := 1, locals := 60 } : Room)) (fun aa_ U_ => aa_ = #[(.ref ar), (.int (1 : Int32)), (.ref mr)] ∧ Z.Warmed39 U_.vm ∧ U_.heap = h0) (fun _ _ _ _ _ => True) (fun _ U_ o_ V_ => ∃ v_ L_, o_ = .returned v_ ∧ Q_own_cp3 Z ar ka x mr h0 n0 v_ V_.heap L_ ∧ FrameEnd U_ o_ V_ L_ ({ frames := 1, cells := 1, slots := 1, locals := 60 } : Room).cells ({ frames := 1, cells := 1, slots := 1, locals := 60 } : Room).slots) := by
  refine MetFree.of_bodySF (plainFor_of_name own_pn_own_cp3) hisR ?_
  intro p e s m args below meth c s₁ Bd hml0 hP hK
  obtain ⟨rfl, hZ, hh⟩ := hP
  have hx := Bd.exec
  have hby := Bd.bytes
  have hml : c.maxLocals = 4 := hml0
  have hown : s.vm.findClass "java/util/Arrays" = some m.cls := findClass_of_methodNamed Bd.named
  have hnm := (name_of_methodNamed Bd.named Bd.method).1
  have X0 : Stand p l e ({ frames := 1, cells := 1, slots := 1, locals := 60 } : Room) s m #[(.ref ar), (.int (1 : Int32)), (.ref mr)] below meth c s₁ [] 0 0 := Stand.of_body Bd
  have e0 : s₁.heap = h0 := by rw [← hh, Bd.state]; rfl
  have N0 := Fr.nil n0
  have K0 : Keep h0 h0 [] := Keep.refl _ _
  have r0 : GoTo p.tables e below s₁ (own_F_own_cp3 m ar mr) s₁ (mkF m 0 #[.val (.ref ar), .val (.int (1 : Int32)), .val (.ref mr), .unset] []) := fun tt_ kk_ => castTop (own_ef_own_cp3 m ar mr) kk_
  obtain ⟨vm1, X1, st1⟩ := X0.ldcMirror hx hown (mvT hZ (hw _ (List.mem_of_getElem? (i := 161) rfl))) (own_mir hZ hMir) (g := (mkF m 1 #[.val (.ref ar), .val (.int (1 : Int32)), .val (.ref mr), .unset] [(.ref mr)])) rfl (hb hby own_d_jdk_65_method_120_code_1)
  obtain ⟨T1, eT1⟩ : ∃ z, z = s₁.setVm vm1 := ⟨_, rfl⟩
  rw [← eT1] at X1 st1
  have e1 : T1.heap = h0 := by rw [eT1]; exact e0
  obtain ⟨T2, h2, k2, X2, e2, E2, A2, Ex2, O2, st2⟩ := newRE X1 hx hZ hown (hw _ (List.mem_of_getElem? (i := 162) rfl)) (hw _ (List.mem_of_getElem? (i := 108) rfl)) e1 (g := (mkF m 7 #[.val (.ref ar), .val (.int (1 : Int32)), .val (.ref mr), .unset] [(.int (1 : Int32))])) rfl (hb hby own_d_jdk_65_method_120_code_7) rfl (by decide) (cap := 1) (by decide) (by decide) (by decide) (by decide) (ad := "[Ljava/lang/Object;") (by decide)
  obtain ⟨b2, gg2⟩ : ∃ z, z = h0.size := ⟨_, rfl⟩
  rw [← gg2] at A2 Ex2 st2
  have ne3 : ar ≠ b2 := Nat.ne_of_lt (Nat.lt_of_lt_of_le hp0.lt (Nat.le_of_eq gg2.symm))
  have ne4 : x ≠ b2 := Nat.ne_of_lt (Nat.lt_of_lt_of_le hp2.lt (Nat.le_of_eq gg2.symm))
  have g5 : n0 ≤ b2 := Nat.le_trans (Nat.le_trans (own_le O0) K0.1) (Nat.le_of_eq gg2.symm)
  have b6 : h0.size ≤ b2 := Nat.le_trans K0.1 (Nat.le_of_eq gg2.symm)
  have K7 : Keep h0 h2 [] := K0.ext E2
  have V2 : Arv Z h2 b2 k2 (.object "java/lang/Object") (1 : Int32) [.null] .null := (Arv.new A2 (by decide)).pad (pad_rep [] .null 1)
  have f8 : Arv Z h2 ar ka (.object "java/lang/Object") (10 : Int32) [(.ref x), .null, .null, .null, .null, .null, .null, .null, .null, .null] .null := (hp0.ext E2)
  obtain ⟨cl9, Ar9, q9, S9, NN9, H9, G9⟩ := id f8
  obtain ⟨_, _, ⟨T10, L10, k10, n10⟩, -, X10, ⟨Lc10, hQ10, l10, y10, z10⟩, st10⟩ := Jvm.LawKit.callS X2 hx (y := (⟨"java/lang/Math", "min", "(II)I"⟩ : MethodName)) hown (mvT hZ (hw _ (List.mem_of_getElem? (i := 163) rfl))) (mvT hZ (hw _ (List.mem_of_getElem? (i := 164) rfl))) (mvT hZ (hw _ (List.mem_of_getElem? (i := 105) rfl))) (mvT hZ (hw _ (List.mem_of_getElem? (i := 165) rfl))) (by decide) (backOf (W := 4) (own_min_10_1 l Z a0 hw []  h2 n0 (O0.keep K7 all0)) hZ (hw _ (List.mem_of_getElem? (i := 165) rfl)) (hw _ (List.mem_of_getElem? (i := 105) rfl)) (by decide) (by decide)) (g := (mkF m 32 #[.val (.ref ar), .val (.int (1 : Int32)), .val (.ref mr), .val (.ref b2)] [(.int (1 : Int32)), (.int (10 : Int32)), (.int (0 : Int32)), (.ref b2), (.int (0 : Int32)), (.ref ar)])) rfl (by rw [hml]; rfl) (argsL := [(.int (10 : Int32)), (.int (1 : Int32))]) (rest := [(.int (0 : Int32)), (.ref b2), (.int (0 : Int32)), (.ref ar)]) (lenOf own_pd1 rfl) rfl (by show 2 * 0 + _ ≤ _; exact Nat.le_of_eq rfl) (hb hby own_d_jdk_65_method_120_code_32) (fun _ _ => ⟨rfl, e2, (by decide : 1 + 0 ≤ _), (by decide : 1 + 0 ≤ _)⟩)
  dsimp only [Pt.U, Pt.locs, Pt.cells, Pt.slots] at X10 l10 y10 z10 st10 hQ10
  subst l10 y10 z10
  obtain ⟨rfl, Nq10, hh10⟩ := hQ10
  have N10 := Fr.app N0 Nq10
  obtain ⟨clS, ArS, qS, -⟩ := id V2
  have f11 : Exa Z h2 x "com/example/myna/myna/orders/OrderLine" := (hp2.ext E2)
  obtain ⟨T12, h12, L12, X12, e12, N12, Kc12, V12, st12⟩ := cpA X10 hx hZ hown (hw _ (List.mem_of_getElem? (i := 166) rfl)) (hw _ (List.mem_of_getElem? (i := 169) rfl)) (hw _ (List.mem_of_getElem? (i := 167) rfl)) (hw _ (List.mem_of_getElem? (i := 168) rfl)) hh10 (us := [(.ref x)]) f8 V2 (Or.inr ⟨rfl, rfl, ⟨Sto.ofV ArS qS O2 (Ins.of_exa f11 (hw _ (List.mem_of_getElem? (i := 109) rfl))), trivial⟩⟩) (by decide) (by decide) (by decide) (by decide) (by decide) rfl (by decide) N10 g5 (g := (mkF m 35 #[.val (.ref ar), .val (.int (1 : Int32)), .val (.ref mr), .val (.ref b2)] [(.int (1 : Int32)), (.int (0 : Int32)), (.ref b2), (.int (0 : Int32)), (.ref ar)])) rfl (by rw [hml]; rfl) rfl (hb hby own_d_jdk_65_method_120_code_35) (by decide) (W := 0) (by show 2 * 0 + _ ≤ _; exact Nat.le_of_eq rfl) (by decide)
  have K13 : Keep h0 h12 [] := K7.trans Kc12 (allS (Or.inr b6) all0)
  have Vc12 : Arv Z h12 b2 k2 (.object "java/lang/Object") (1 : Int32) [(.ref x)] .null := V12
  obtain ⟨fs, hr, hrun, hended, hW, hsame⟩ := X12.leave (v := some (.ref b2)) (fun h => by rw [Bd.returns] at h; cases h)
  refine ⟨_, _, r0 _ ?_, hrun, hended, _, _, rfl, ?_, ⟨_, rfl⟩, hW, hsame.mono (by decide) (by decide)⟩
  · show Steps p.tables e below (s₁.setTop (mkF m 0 #[.val (.ref ar), .val (.int (1 : Int32)), .val (.ref mr), .unset] [])) _
    refine XS.aloadN X0.here hx rfl (hb hby own_d_jdk_65_method_120_code_0) rfl rfl ?_
    show Steps p.tables e below (s₁.setTop (mkF m 1 #[.val (.ref ar), .val (.int (1 : Int32)), .val (.ref mr), .unset] [(.ref mr)])) _
    refine st1 _ ?_
    show Steps p.tables e below (T1.setTop (mkF m 3 #[.val (.ref ar), .val (.int (1 : Int32)), .val (.ref mr), .unset] [(.ref mr), (.ref mr)])) _
    refine Jvm.RoadKit.acmp (g := (mkF m 3 #[.val (.ref ar), .val (.int (1 : Int32)), .val (.ref mr), .unset] [(.ref mr), (.ref mr)])) X1 hx rfl rfl rfl (pc0 := 3) (pc' := 6) (same := true) rfl (hb hby own_d_jdk_65_method_120_code_3) rfl (decide_eq_true (congrArg Value.ref rfl)) (by decide) (by decide) ?_
    show Steps p.tables e below (T1.setTop (mkF m 6 #[.val (.ref ar), .val (.int (1 : Int32)), .val (.ref mr), .unset] [])) _
    refine XS.iloadN X1.here hx rfl (hb hby own_d_jdk_65_method_120_code_6) rfl ?_
    show Steps p.tables e below (T1.setTop (mkF m 7 #[.val (.ref ar), .val (.int (1 : Int32)), .val (.ref mr), .unset] [(.int (1 : Int32))])) _
    refine st2 _ ?_
    show Steps p.tables e below (T2.setTop (mkF m 10 #[.val (.ref ar), .val (.int (1 : Int32)), .val (.ref mr), .unset] [(.ref b2)])) _
    refine XS.goto X2.here hx rfl (pc0 := 10) (pc' := 24) rfl (hb hby own_d_jdk_65_method_120_code_10) (by decide) (by decide) ?_
    show Steps p.tables e below (T2.setTop (mkF m 24 #[.val (.ref ar), .val (.int (1 : Int32)), .val (.ref mr), .unset] [(.ref b2)])) _
    refine XS.astoreN X2.here hx rfl (hb hby own_d_jdk_65_method_120_code_24) rfl rfl (l' := #[.val (.ref ar), .val (.int (1 : Int32)), .val (.ref mr), .val (.ref b2)]) rfl ?_
    show Steps p.tables e below (T2.setTop (mkF m 25 #[.val (.ref ar), .val (.int (1 : Int32)), .val (.ref mr), .val (.ref b2)] [])) _
    refine XS.aloadN X2.here hx rfl (hb hby own_d_jdk_65_method_120_code_25) rfl rfl ?_
    show Steps p.tables e below (T2.setTop (mkF m 26 #[.val (.ref ar), .val (.int (1 : Int32)), .val (.ref mr), .val (.ref b2)] [(.ref ar)])) _
    refine XS.iconst X2.here hx rfl (hb hby own_d_jdk_65_method_120_code_26) ?_
    show Steps p.tables e below (T2.setTop (mkF m 27 #[.val (.ref ar), .val (.int (1 : Int32)), .val (.ref mr), .val (.ref b2)] [(.int (0 : Int32)), (.ref ar)])) _
    refine XS.aloadN X2.here hx rfl (hb hby own_d_jdk_65_method_120_code_27) rfl rfl ?_
    show Steps p.tables e below (T2.setTop (mkF m 28 #[.val (.ref ar), .val (.int (1 : Int32)), .val (.ref mr), .val (.ref b2)] [(.ref b2), (.int (0 : Int32)), (.ref ar)])) _
    refine XS.iconst X2.here hx rfl (hb hby own_d_jdk_65_method_120_code_28) ?_
    show Steps p.tables e below (T2.setTop (mkF m 29 #[.val (.ref ar), .val (.int (1 : Int32)), .val (.ref mr), .val (.ref b2)] [(.int (0 : Int32)), (.ref b2), (.int (0 : Int32)), (.ref ar)])) _
    refine XS.aloadN X2.here hx rfl (hb hby own_d_jdk_65_method_120_code_29) rfl rfl ?_
    show Steps p.tables e below (T2.setTop (mkF m 30 #[.val (.ref ar), .val (.int (1 : Int32)), .val (.ref mr), .val (.ref b2)] [(.ref ar), (.int (0 : Int32)), (.ref b2), (.int (0 : Int32)), (.ref ar)])) _
    refine X2.arraylength hx (by rw [e2]; exact Ar9.1) (State.isArrayOf_alike hZ.alike Ar9.2.1) (g := (mkF m 30 #[.val (.ref ar), .val (.int (1 : Int32)), .val (.ref mr), .val (.ref b2)] [(.ref ar), (.int (0 : Int32)), (.ref b2), (.int (0 : Int32)), (.ref ar)])) rfl rfl (hb hby own_d_jdk_65_method_120_code_30) _ ?_
    rw [len_of S9 NN9]
    show Steps p.tables e below (T2.setTop (mkF m 31 #[.val (.ref ar), .val (.int (1 : Int32)), .val (.ref mr), .val (.ref b2)] [(.int (10 : Int32)), (.int (0 : Int32)), (.ref b2), (.int (0 : Int32)), (.ref ar)])) _
    refine XS.iloadN X2.here hx rfl (hb hby own_d_jdk_65_method_120_code_31) rfl ?_
    show Steps p.tables e below (T2.setTop (mkF m 32 #[.val (.ref ar), .val (.int (1 : Int32)), .val (.ref mr), .val (.ref b2)] [(.int (1 : Int32)), (.int (10 : Int32)), (.int (0 : Int32)), (.ref b2), (.int (0 : Int32)), (.ref ar)])) _
    refine st10 _ ?_
    show Steps p.tables e below (T10.setTop (mkF m 35 #[.val (.ref ar), .val (.int (1 : Int32)), .val (.ref mr), .val (.ref b2)] [(.int (1 : Int32)), (.int (0 : Int32)), (.ref b2), (.int (0 : Int32)), (.ref ar)])) _
    refine st12 _ ?_
    show Steps p.tables e below (T12.setTop (mkF m 38 #[.val (.ref ar), .val (.int (1 : Int32)), .val (.ref mr), .val (.ref b2)] [])) _
    refine XS.aloadN X12.here hx rfl (hb hby own_d_jdk_65_method_120_code_38) rfl rfl ?_
    show Steps p.tables e below (T12.setTop (mkF m 39 #[.val (.ref ar), .val (.int (1 : Int32)), .val (.ref mr), .val (.ref b2)] [(.ref b2)])) _
    exact retOut X12 hx (t := (.array (.object "java/lang/Object"))) Bd.returns rfl (Or.inr (Or.inr (Or.inr (Or.inr ⟨rfl, rfl, rfl⟩)))) (hb hby own_d_jdk_65_method_120_code_39) hr
  · show Q_own_cp3 Z ar ka x mr h0 n0 _ T12.heap _
    rw [e12]
    exact ⟨b2, k2, rfl, N12, K13, b6, g5, Vc12⟩
theorem own_pn_own_cp2 : plainName "java/util/Arrays" = true := by first | (simp [plainName, overriddenIn]; done) | decide +kernel
theorem own_ef_own_cp2 (m : MethodId) (ar : Addr) : entryFrame m #[(.ref ar), (.int (1 : Int32))] 2 = mkF m 0 #[.val (.ref ar), .val (.int (1 : Int32))] [] := by first | (simp [entryFrame, mkF, argsToLocals, own_cI, own_cJ, own_cR, own_cN]; done) | rfl
abbrev own_F_own_cp2 (m : MethodId) (ar : Addr) : JFrame := entryFrame m #[(.ref ar), (.int (1 : Int32))] 2
def Q_own_cp2 (Z : State) (ar : Addr) (ka : ClassId) (x : Addr) (mr : Addr) (h0 : Heap) (n0 : Nat) (v : Option Value) (h : Heap) (L : List Loc) : Prop := ∃ (b : Addr), ∃ (kb : ClassId), v = some (.ref b) ∧ Fr n0 L ∧ Keep h0 h [] ∧ (h0.size ≤ b) ∧ (n0 ≤ b) ∧ (Arv Z h b kb (.object "java/lang/Object") (1 : Int32) [(.ref x)] .null)
set_option maxRecDepth 65536 in
set_option maxHeartbeats 40000000 in
theorem own_cp2 (l : Launch) (Z : State) (a0 : Array Value) (hw : ∀ d ∈ tables_1, d.before a0 Z = true) (ws : List Jvm.Cond) (ar : Addr) (ka : ClassId) (x : Addr) (mr : Addr) (h0 : Heap) (n0 : Nat) (O0 : Old Z n0 h0) (hp0 : Arv Z h0 ar ka (.object "java/lang/Object") (10 : Int32) [(.ref x), .null, .null, .null, .null, .null, .null, .null, .null, .null] .null) (hp1 : Exa Z h0 ar "[Ljava/lang/Object;") (hp2 : Exa Z h0 x "com/example/myna/myna/orders/OrderLine") (hMir : own_Mir Z "[Ljava/lang/Object;" mr) :
    MetFree l (⟨"java/util/Arrays", "copyOf", "([Ljava/lang/Object;I)[Ljava/lang/Object;"⟩ : MethodName) (head1 (Jvm.Cond.code (⟨"java/util/Arrays", "copyOf", "([Ljava/lang/Object;I)[Ljava/lang/Object;"⟩ : MethodName) jdk_65_method_119_code 2 (some (.array (.object "java/lang/Object"))) :: ws) ({ frames := 2, cells := 1, slots := 1, locals := 75 } : Room)) (fun aa_ U_ => aa_ = #[(.ref ar), (.int (1 : Int32))] ∧ Z.Warmed39 U_.vm ∧ U_.heap = h0) (fun _ _ _ _ _ => True) (fun _ U_ o_ V_ => ∃ v_ L_, o_ = .returned v_ ∧ Q_own_cp2 Z ar ka x mr h0 n0 v_ V_.heap L_ ∧ FrameEnd U_ o_ V_ L_ ({ frames := 2, cells := 1, slots := 1, locals := 75 } : Room).cells ({ frames := 2, cells := 1, slots := 1, locals := 75 } : Room).slots) := by
  refine MetFree.of_bodySF (plainFor_of_name own_pn_own_cp2) hisR ?_
  intro p e s m args below meth c s₁ Bd hml0 hP hK
  obtain ⟨rfl, hZ, hh⟩ := hP
  have hx := Bd.exec
  have hby := Bd.bytes
  have hml : c.maxLocals = 2 := hml0
  have hown : s.vm.findClass "java/util/Arrays" = some m.cls := findClass_of_methodNamed Bd.named
  have hnm := (name_of_methodNamed Bd.named Bd.method).1
  have X0 : Stand p l e ({ frames := 2, cells := 1, slots := 1, locals := 75 } : Room) s m #[(.ref ar), (.int (1 : Int32))] below meth c s₁ [] 0 0 := Stand.of_body Bd
  have e0 : s₁.heap = h0 := by rw [← hh, Bd.state]; rfl
  have N0 := Fr.nil n0
  have K0 : Keep h0 h0 [] := Keep.refl _ _
  have r0 : GoTo p.tables e below s₁ (own_F_own_cp2 m ar) s₁ (mkF m 0 #[.val (.ref ar), .val (.int (1 : Int32))] []) := fun tt_ kk_ => castTop (own_ef_own_cp2 m ar) kk_
  obtain ⟨T1, X1, e1, st1⟩ := own_gcls X0 hx hZ hown (hw _ (List.mem_of_getElem? (i := 152) rfl)) (hw _ (List.mem_of_getElem? (i := 153) rfl)) (hw _ (List.mem_of_getElem? (i := 129) rfl)) (hw _ (List.mem_of_getElem? (i := 155) rfl)) (hw _ (List.mem_of_getElem? (i := 154) rfl)) (hw _ (List.mem_of_getElem? (i := 156) rfl)) e0 hp1 hMir (g := (mkF m 3 #[.val (.ref ar), .val (.int (1 : Int32))] [(.ref ar), (.int (1 : Int32)), (.ref ar)])) rfl (by rw [hml]; rfl) rfl (hb hby own_d_jdk_65_method_119_code_3) (by decide) (W := 2) (by show 2 * 0 + _ ≤ _; exact Nat.le_of_eq rfl) (by decide)
  obtain ⟨_, _, ⟨T2, L2, k2, n2⟩, -, X2, ⟨Lc2, hQ2, l2, y2, z2⟩, st2⟩ := Jvm.LawKit.callS X1 hx (y := (⟨"java/util/Arrays", "copyOf", "([Ljava/lang/Object;ILjava/lang/Class;)[Ljava/lang/Object;"⟩ : MethodName)) hown (mvT hZ (hw _ (List.mem_of_getElem? (i := 158) rfl))) (mvT hZ (hw _ (List.mem_of_getElem? (i := 159) rfl))) (mvT hZ (hw _ (List.mem_of_getElem? (i := 150) rfl))) (mvT hZ (hw _ (List.mem_of_getElem? (i := 160) rfl))) (by decide) (backOf (W := 0) (own_cp3 l Z a0 hw [] (ar) (ka) (x) (mr) h0 n0 (O0.keep K0 all0) (hp0) (hp1) (hp2) (hMir)) hZ (hw _ (List.mem_of_getElem? (i := 160) rfl)) (hw _ (List.mem_of_getElem? (i := 150) rfl)) (by decide) (by decide)) (g := (mkF m 6 #[.val (.ref ar), .val (.int (1 : Int32))] [(.ref mr), (.int (1 : Int32)), (.ref ar)])) rfl (by rw [hml]; rfl) (argsL := [(.ref ar), (.int (1 : Int32)), (.ref mr)]) (rest := []) (lenOf own_pd5 rfl) rfl (by show 2 * 0 + _ ≤ _; exact Nat.le_of_eq rfl) (hb hby own_d_jdk_65_method_119_code_6) (fun _ _ => ⟨rfl, e1, (by decide : 0 + 1 ≤ _), (by decide : 0 + 1 ≤ _)⟩)
  dsimp only [Pt.U, Pt.locs, Pt.cells, Pt.slots] at X2 l2 y2 z2 st2 hQ2
  subst l2 y2 z2
  obtain ⟨b_2, kb_2, rfl, Nq2, Kq2, po2_0, po2_1, po2_2⟩ := hQ2
  have N2 := Fr.app N0 Nq2
  have ne3 : ar ≠ b_2 := Nat.ne_of_lt (Nat.lt_of_lt_of_le hp0.lt po2_0)
  have ne4 : x ≠ b_2 := Nat.ne_of_lt (Nat.lt_of_lt_of_le hp2.lt po2_0)
  have g5 : n0 ≤ b_2 := Nat.le_trans (Nat.le_trans (own_le O0) K0.1) po2_0
  have b6 : h0.size ≤ b_2 := Nat.le_trans K0.1 po2_0
  have K7 : Keep h0 T2.heap [] := K0.trans Kq2 all0
  obtain ⟨fs, hr, hrun, hended, hW, hsame⟩ := X2.leave (v := some (.ref b_2)) (fun h => by rw [Bd.returns] at h; cases h)
  refine ⟨_, _, r0 _ ?_, hrun, hended, _, _, rfl, ?_, ⟨_, rfl⟩, hW, hsame.mono (by decide) (by decide)⟩
  · show Steps p.tables e below (s₁.setTop (mkF m 0 #[.val (.ref ar), .val (.int (1 : Int32))] [])) _
    refine XS.aloadN X0.here hx rfl (hb hby own_d_jdk_65_method_119_code_0) rfl rfl ?_
    show Steps p.tables e below (s₁.setTop (mkF m 1 #[.val (.ref ar), .val (.int (1 : Int32))] [(.ref ar)])) _
    refine XS.iloadN X0.here hx rfl (hb hby own_d_jdk_65_method_119_code_1) rfl ?_
    show Steps p.tables e below (s₁.setTop (mkF m 2 #[.val (.ref ar), .val (.int (1 : Int32))] [(.int (1 : Int32)), (.ref ar)])) _
    refine XS.aloadN X0.here hx rfl (hb hby own_d_jdk_65_method_119_code_2) rfl rfl ?_
    show Steps p.tables e below (s₁.setTop (mkF m 3 #[.val (.ref ar), .val (.int (1 : Int32))] [(.ref ar), (.int (1 : Int32)), (.ref ar)])) _
    refine st1 _ ?_
    show Steps p.tables e below (T1.setTop (mkF m 6 #[.val (.ref ar), .val (.int (1 : Int32))] [(.ref mr), (.int (1 : Int32)), (.ref ar)])) _
    refine st2 _ ?_
    show Steps p.tables e below (T2.setTop (mkF m 9 #[.val (.ref ar), .val (.int (1 : Int32))] [(.ref b_2)])) _
    exact retOut X2 hx (t := (.array (.object "java/lang/Object"))) Bd.returns rfl (Or.inr (Or.inr (Or.inr (Or.inr ⟨rfl, rfl, rfl⟩)))) (hb hby own_d_jdk_65_method_119_code_9) hr
  · show Q_own_cp2 Z ar ka x mr h0 n0 _ T2.heap _
    exact ⟨b_2, kb_2, rfl, N2, K7, b6, po2_1, po2_2⟩
theorem own_pn_own_toArray : plainName "java/util/ArrayList" = true := by first | (simp [plainName, overriddenIn]; done) | decide +kernel
theorem own_ef_own_toArray (m : MethodId) (a : Addr) : entryFrame m #[(.ref a)] 1 = mkF m 0 #[.val (.ref a)] [] := by first | (simp [entryFrame, mkF, argsToLocals, own_cI, own_cJ, own_cR, own_cN]; done) | rfl
abbrev own_F_own_toArray (m : MethodId) (a : Addr) : JFrame := entryFrame m #[(.ref a)] 1
def Q_own_toArray (Z : State) (a : Addr) (ar : Addr) (ka : ClassId) (x : Addr) (mr : Addr) (h0 : Heap) (n0 : Nat) (v : Option Value) (h : Heap) (L : List Loc) : Prop := ∃ (b : Addr), ∃ (kb : ClassId), v = some (.ref b) ∧ Fr n0 L ∧ Keep h0 h [] ∧ (h0.size ≤ b) ∧ (n0 ≤ b) ∧ (Arv Z h b kb (.object "java/lang/Object") (1 : Int32) [(.ref x)] .null)
set_option maxRecDepth 65536 in
set_option maxHeartbeats 40000000 in
theorem own_toArray (l : Launch) (Z : State) (a0 : Array Value) (hw : ∀ d ∈ tables_1, d.before a0 Z = true) (ws : List Jvm.Cond) (a : Addr) (ar : Addr) (ka : ClassId) (x : Addr) (mr : Addr) (h0 : Heap) (n0 : Nat) (O0 : Old Z n0 h0) (hp0 : Fld Z h0 a "java/util/ArrayList" "elementData" "[Ljava/lang/Object;" (.ref ar)) (hp1 : Fld Z h0 a "java/util/ArrayList" "size" "I" (.int (1 : Int32))) (hp2 : Arv Z h0 ar ka (.object "java/lang/Object") (10 : Int32) [(.ref x), .null, .null, .null, .null, .null, .null, .null, .null, .null] .null) (hp3 : Exa Z h0 ar "[Ljava/lang/Object;") (hp4 : Exa Z h0 x "com/example/myna/myna/orders/OrderLine") (hMir : own_Mir Z "[Ljava/lang/Object;" mr) :
    MetFree l (⟨"java/util/ArrayList", "toArray", "()[Ljava/lang/Object;"⟩ : MethodName) (head1 (Jvm.Cond.code (⟨"java/util/ArrayList", "toArray", "()[Ljava/lang/Object;"⟩ : MethodName) jdk_38_method_16_code 1 (some (.array (.object "java/lang/Object"))) :: ws) ({ frames := 3, cells := 1, slots := 1, locals := 88 } : Room)) (fun aa_ U_ => aa_ = #[(.ref a)] ∧ Z.Warmed39 U_.vm ∧ U_.heap = h0) (fun _ _ _ _ _ => True) (fun _ U_ o_ V_ => ∃ v_ L_, o_ = .returned v_ ∧ Q_own_toArray Z a ar ka x mr h0 n0 v_ V_.heap L_ ∧ FrameEnd U_ o_ V_ L_ ({ frames := 3, cells := 1, slots := 1, locals := 88 } : Room).cells ({ frames := 3, cells := 1, slots := 1, locals := 88 } : Room).slots) := by
  refine MetFree.of_bodySF (plainFor_of_name own_pn_own_toArray) hisR ?_
  intro p e s m args below meth c s₁ Bd hml0 hP hK
  obtain ⟨rfl, hZ, hh⟩ := hP
  have hx := Bd.exec
  have hby := Bd.bytes
  have hml : c.maxLocals = 1 := hml0
  have hown : s.vm.findClass "java/util/ArrayList" = some m.cls := findClass_of_methodNamed Bd.named
  have hnm := (name_of_methodNamed Bd.named Bd.method).1
  have X0 : Stand p l e ({ frames := 3, cells := 1, slots := 1, locals := 88 } : Room) s m #[(.ref a)] below meth c s₁ [] 0 0 := Stand.of_body Bd
  have e0 : s₁.heap = h0 := by rw [← hh, Bd.state]; rfl
  have N0 := Fr.nil n0
  have K0 : Keep h0 h0 [] := Keep.refl _ _
  have r0 : GoTo p.tables e below s₁ (own_F_own_toArray m a) s₁ (mkF m 0 #[.val (.ref a)] []) := fun tt_ kk_ => castTop (own_ef_own_toArray m a) kk_
  obtain ⟨T1, X1, e1, st1⟩ := getF X0 hx hZ hown (host := "") (Or.inl (hw _ (List.mem_of_getElem? (i := 77) rfl))) Via.refl e0 hp0 (g := (mkF m 1 #[.val (.ref a)] [(.ref a)])) rfl rfl (hb hby own_d_jdk_38_method_16_code_1)
  obtain ⟨T2, X2, e2, st2⟩ := getF X1 hx hZ hown (host := "") (Or.inl (hw _ (List.mem_of_getElem? (i := 86) rfl))) Via.refl e1 hp1 (g := (mkF m 5 #[.val (.ref a)] [(.ref a), (.ref ar)])) rfl rfl (hb hby own_d_jdk_38_method_16_code_5)
  obtain ⟨_, _, ⟨T3, L3, k3, n3⟩, -, X3, ⟨Lc3, hQ3, l3, y3, z3⟩, st3⟩ := Jvm.LawKit.callS X2 hx (y := (⟨"java/util/Arrays", "copyOf", "([Ljava/lang/Object;I)[Ljava/lang/Object;"⟩ : MethodName)) hown (mvT hZ (hw _ (List.mem_of_getElem? (i := 148) rfl))) (mvT hZ (hw _ (List.mem_of_getElem? (i := 149) rfl))) (mvT hZ (hw _ (List.mem_of_getElem? (i := 150) rfl))) (mvT hZ (hw _ (List.mem_of_getElem? (i := 151) rfl))) (by decide) (backOf (W := 0) (own_cp2 l Z a0 hw [] (ar) (ka) (x) (mr) h0 n0 (O0.keep K0 all0) (hp2) (hp3) (hp4) (hMir)) hZ (hw _ (List.mem_of_getElem? (i := 151) rfl)) (hw _ (List.mem_of_getElem? (i := 150) rfl)) (by decide) (by decide)) (g := (mkF m 8 #[.val (.ref a)] [(.int (1 : Int32)), (.ref ar)])) rfl (by rw [hml]; rfl) (argsL := [(.ref ar), (.int (1 : Int32))]) (rest := []) (lenOf own_pd6 rfl) rfl (by show 2 * 0 + _ ≤ _; exact Nat.le_of_eq rfl) (hb hby own_d_jdk_38_method_16_code_8) (fun _ _ => ⟨rfl, e2, (by decide : 0 + 1 ≤ _), (by decide : 0 + 1 ≤ _)⟩)
  dsimp only [Pt.U, Pt.locs, Pt.cells, Pt.slots] at X3 l3 y3 z3 st3 hQ3
  subst l3 y3 z3
  obtain ⟨b_3, kb_3, rfl, Nq3, Kq3, po3_0, po3_1, po3_2⟩ := hQ3
  have N3 := Fr.app N0 Nq3
  have ne4 : a ≠ b_3 := Nat.ne_of_lt (Nat.lt_of_lt_of_le hp0.lt po3_0)
  have ne5 : ar ≠ b_3 := Nat.ne_of_lt (Nat.lt_of_lt_of_le hp2.lt po3_0)
  have ne6 : x ≠ b_3 := Nat.ne_of_lt (Nat.lt_of_lt_of_le hp4.lt po3_0)
  have g7 : n0 ≤ b_3 := Nat.le_trans (Nat.le_trans (own_le O0) K0.1) po3_0
  have b8 : h0.size ≤ b_3 := Nat.le_trans K0.1 po3_0
  have K9 : Keep h0 T3.heap [] := K0.trans Kq3 all0
  obtain ⟨fs, hr, hrun, hended, hW, hsame⟩ := X3.leave (v := some (.ref b_3)) (fun h => by rw [Bd.returns] at h; cases h)
  refine ⟨_, _, r0 _ ?_, hrun, hended, _, _, rfl, ?_, ⟨_, rfl⟩, hW, hsame.mono (by decide) (by decide)⟩
  · show Steps p.tables e below (s₁.setTop (mkF m 0 #[.val (.ref a)] [])) _
    refine XS.aloadN X0.here hx rfl (hb hby own_d_jdk_38_method_16_code_0) rfl rfl ?_
    show Steps p.tables e below (s₁.setTop (mkF m 1 #[.val (.ref a)] [(.ref a)])) _
    refine st1 _ ?_
    show Steps p.tables e below (T1.setTop (mkF m 4 #[.val (.ref a)] [(.ref ar)])) _
    refine XS.aloadN X1.here hx rfl (hb hby own_d_jdk_38_method_16_code_4) rfl rfl ?_
    show Steps p.tables e below (T1.setTop (mkF m 5 #[.val (.ref a)] [(.ref a), (.ref ar)])) _
    refine st2 _ ?_
    show Steps p.tables e below (T2.setTop (mkF m 8 #[.val (.ref a)] [(.int (1 : Int32)), (.ref ar)])) _
    refine st3 _ ?_
    show Steps p.tables e below (T3.setTop (mkF m 11 #[.val (.ref a)] [(.ref b_3)])) _
    exact retOut X3 hx (t := (.array (.object "java/lang/Object"))) Bd.returns rfl (Or.inr (Or.inr (Or.inr (Or.inr ⟨rfl, rfl, rfl⟩)))) (hb hby own_d_jdk_38_method_16_code_11) hr
  · show Q_own_toArray Z a ar ka x mr h0 n0 _ T3.heap _
    exact ⟨b_3, kb_3, rfl, N3, K9, b8, po3_1, po3_2⟩
theorem own_pn_own_aic : plainName "java/util/ImmutableCollections$AbstractImmutableCollection" = true := by first | (simp [plainName, overriddenIn]; done) | decide +kernel
theorem own_ef_own_aic (m : MethodId) (a : Addr) : entryFrame m #[(.ref a)] 1 = mkF m 0 #[.val (.ref a)] [] := by first | (simp [entryFrame, mkF, argsToLocals, own_cI, own_cJ, own_cR, own_cN]; done) | rfl
abbrev own_F_own_aic (m : MethodId) (a : Addr) : JFrame := entryFrame m #[(.ref a)] 1
def Q_own_aic (Z : State) (a : Addr) (h0 : Heap) (n0 : Nat) (v : Option Value) (h : Heap) (L : List Loc) : Prop := v = none ∧ Fr n0 L ∧ h = h0
set_option maxRecDepth 65536 in
set_option maxHeartbeats 40000000 in
theorem own_aic (l : Launch) (Z : State) (a0 : Array Value) (hw : ∀ d ∈ tables_1, d.before a0 Z = true) (ws : List Jvm.Cond) (a : Addr) (h0 : Heap) (n0 : Nat) (O0 : Old Z n0 h0) :
    MetFree l (⟨"java/util/ImmutableCollections$AbstractImmutableCollection", "<init>", "()V"⟩ : MethodName) (head1 (Jvm.Cond.code (⟨"java/util/ImmutableCollections$AbstractImmutableCollection", "<init>", "()V"⟩ : MethodName) jdk_47_method_1_code 1 none :: ws) ({ frames := 2, cells := 0, slots := 0, locals := 24 } : Room)) (fun aa_ U_ => aa_ = #[(.ref a)] ∧ Z.Warmed39 U_.vm ∧ U_.heap = h0) (fun _ _ _ _ _ => True) (fun _ U_ o_ V_ => ∃ v_ L_, o_ = .returned v_ ∧ Q_own_aic Z a h0 n0 v_ V_.heap L_ ∧ FrameEnd U_ o_ V_ L_ ({ frames := 2, cells := 0, slots := 0, locals := 24 } : Room).cells ({ frames := 2, cells := 0, slots := 0, locals := 24 } : Room).slots) := by
  refine MetFree.of_bodySF (plainFor_of_name own_pn_own_aic) hisR ?_
  intro p e s m args below meth c s₁ Bd hml0 hP hK
  obtain ⟨rfl, hZ, hh⟩ := hP
  have hx := Bd.exec
  have hby := Bd.bytes
  have hml : c.maxLocals = 1 := hml0
  have hown : s.vm.findClass "java/util/ImmutableCollections$AbstractImmutableCollection" = some m.cls := findClass_of_methodNamed Bd.named
  have hnm := (name_of_methodNamed Bd.named Bd.method).1
  have X0 : Stand p l e ({ frames := 2, cells := 0, slots := 0, locals := 24 } : Room) s m #[(.ref a)] below meth c s₁ [] 0 0 := Stand.of_body Bd
  have e0 : s₁.heap = h0 := by rw [← hh, Bd.state]; rfl
  have N0 := Fr.nil n0
  have K0 : Keep h0 h0 [] := Keep.refl _ _
  have r0 : GoTo p.tables e below s₁ (own_F_own_aic m a) s₁ (mkF m 0 #[.val (.ref a)] []) := fun tt_ kk_ => castTop (own_ef_own_aic m a) kk_
  obtain ⟨_, _, ⟨T1, L1, k1, n1⟩, -, X1, ⟨Lc1, hQ1, l1, y1, z1⟩, st1⟩ := X0.specialBack hx (y := (⟨"java/util/AbstractCollection", "<init>", "()V"⟩ : MethodName)) rfl hown (mvT hZ (hw _ (List.mem_of_getElem? (i := 192) rfl))) (mvT hZ (hw _ (List.mem_of_getElem? (i := 68) rfl))) (mvT hZ (hw _ (List.mem_of_getElem? (i := 72) rfl))) (by decide) (backOf (W := 0) (own_abc l Z a0 hw [] (a) h0 n0 (O0.keep K0 all0)) hZ (hw _ (List.mem_of_getElem? (i := 72) rfl)) (hw _ (List.mem_of_getElem? (i := 71) rfl)) (by decide) (by decide)) (g := (mkF m 1 #[.val (.ref a)] [(.ref a)])) rfl (by rw [hml]; rfl) (Steps.refl _) (a := a) (argsL := []) (rest := []) (lenOf own_pd0 rfl) rfl (by show 2 * 0 + _ ≤ _; exact Nat.le_of_eq rfl) (hb hby own_d_jdk_47_method_1_code_1) (fun _ _ => ⟨rfl, e0, (by decide : 0 + 0 ≤ _), (by decide : 0 + 0 ≤ _)⟩)
  dsimp only [Pt.U, Pt.locs, Pt.cells, Pt.slots] at X1 l1 y1 z1 st1 hQ1
  subst l1 y1 z1
  obtain ⟨rfl, Nq1, hh1⟩ := hQ1
  have N1 := Fr.app N0 Nq1
  obtain ⟨fs, hr, hrun, hended, hW, hsame⟩ := X1.leave (v := none) (fun _ => rfl)
  refine ⟨_, _, r0 _ ?_, hrun, hended, _, _, rfl, ?_, ⟨_, rfl⟩, hW, hsame.mono (by decide) (by decide)⟩
  · show Steps p.tables e below (s₁.setTop (mkF m 0 #[.val (.ref a)] [])) _
    refine XS.aloadN X0.here hx rfl (hb hby own_d_jdk_47_method_1_code_0) rfl rfl ?_
    show Steps p.tables e below (s₁.setTop (mkF m 1 #[.val (.ref a)] [(.ref a)])) _
    refine st1.trans ?_
    show Steps p.tables e below (T1.setTop (mkF m 4 #[.val (.ref a)] [])) _
    exact X1.returnOut hx Bd.returns (hb hby own_d_jdk_47_method_1_code_4) hr
  · show Q_own_aic Z a h0 n0 _ T1.heap _
    rw [hh1]
    exact ⟨rfl, N1, rfl⟩
theorem own_pn_own_ail : plainName "java/util/ImmutableCollections$AbstractImmutableList" = true := by first | (simp [plainName, overriddenIn]; done) | decide +kernel
theorem own_ef_own_ail (m : MethodId) (a : Addr) : entryFrame m #[(.ref a)] 1 = mkF m 0 #[.val (.ref a)] [] := by first | (simp [entryFrame, mkF, argsToLocals, own_cI, own_cJ, own_cR, own_cN]; done) | rfl
abbrev own_F_own_ail (m : MethodId) (a : Addr) : JFrame := entryFrame m #[(.ref a)] 1
def Q_own_ail (Z : State) (a : Addr) (h0 : Heap) (n0 : Nat) (v : Option Value) (h : Heap) (L : List Loc) : Prop := v = none ∧ Fr n0 L ∧ h = h0
set_option maxRecDepth 65536 in
set_option maxHeartbeats 40000000 in
theorem own_ail (l : Launch) (Z : State) (a0 : Array Value) (hw : ∀ d ∈ tables_1, d.before a0 Z = true) (ws : List Jvm.Cond) (a : Addr) (h0 : Heap) (n0 : Nat) (O0 : Old Z n0 h0) :
    MetFree l (⟨"java/util/ImmutableCollections$AbstractImmutableList", "<init>", "()V"⟩ : MethodName) (head1 (Jvm.Cond.code (⟨"java/util/ImmutableCollections$AbstractImmutableList", "<init>", "()V"⟩ : MethodName) jdk_46_method_1_code 1 none :: ws) ({ frames := 3, cells := 0, slots := 0, locals := 36 } : Room)) (fun aa_ U_ => aa_ = #[(.ref a)] ∧ Z.Warmed39 U_.vm ∧ U_.heap = h0) (fun _ _ _ _ _ => True) (fun _ U_ o_ V_ => ∃ v_ L_, o_ = .returned v_ ∧ Q_own_ail Z a h0 n0 v_ V_.heap L_ ∧ FrameEnd U_ o_ V_ L_ ({ frames := 3, cells := 0, slots := 0, locals := 36 } : Room).cells ({ frames := 3, cells := 0, slots := 0, locals := 36 } : Room).slots) := by
  refine MetFree.of_bodySF (plainFor_of_name own_pn_own_ail) hisR ?_
  intro p e s m args below meth c s₁ Bd hml0 hP hK
  obtain ⟨rfl, hZ, hh⟩ := hP
  have hx := Bd.exec
  have hby := Bd.bytes
  have hml : c.maxLocals = 1 := hml0
  have hown : s.vm.findClass "java/util/ImmutableCollections$AbstractImmutableList" = some m.cls := findClass_of_methodNamed Bd.named
  have hnm := (name_of_methodNamed Bd.named Bd.method).1
  have X0 : Stand p l e ({ frames := 3, cells := 0, slots := 0, locals := 36 } : Room) s m #[(.ref a)] below meth c s₁ [] 0 0 := Stand.of_body Bd
  have e0 : s₁.heap = h0 := by rw [← hh, Bd.state]; rfl
  have N0 := Fr.nil n0
  have K0 : Keep h0 h0 [] := Keep.refl _ _
  have r0 : GoTo p.tables e below s₁ (own_F_own_ail m a) s₁ (mkF m 0 #[.val (.ref a)] []) := fun tt_ kk_ => castTop (own_ef_own_ail m a) kk_
  obtain ⟨_, _, ⟨T1, L1, k1, n1⟩, -, X1, ⟨Lc1, hQ1, l1, y1, z1⟩, st1⟩ := X0.specialBack hx (y := (⟨"java/util/ImmutableCollections$AbstractImmutableCollection", "<init>", "()V"⟩ : MethodName)) rfl hown (mvT hZ (hw _ (List.mem_of_getElem? (i := 186) rfl))) (mvT hZ (hw _ (List.mem_of_getElem? (i := 187) rfl))) (mvT hZ (hw _ (List.mem_of_getElem? (i := 191) rfl))) (by decide) (backOf (W := 0) (own_aic l Z a0 hw [] (a) h0 n0 (O0.keep K0 all0)) hZ (hw _ (List.mem_of_getElem? (i := 191) rfl)) (hw _ (List.mem_of_getElem? (i := 190) rfl)) (by decide) (by decide)) (g := (mkF m 1 #[.val (.ref a)] [(.ref a)])) rfl (by rw [hml]; rfl) (Steps.refl _) (a := a) (argsL := []) (rest := []) (lenOf own_pd0 rfl) rfl (by show 2 * 0 + _ ≤ _; exact Nat.le_of_eq rfl) (hb hby own_d_jdk_46_method_1_code_1) (fun _ _ => ⟨rfl, e0, (by decide : 0 + 0 ≤ _), (by decide : 0 + 0 ≤ _)⟩)
  dsimp only [Pt.U, Pt.locs, Pt.cells, Pt.slots] at X1 l1 y1 z1 st1 hQ1
  subst l1 y1 z1
  obtain ⟨rfl, Nq1, hh1⟩ := hQ1
  have N1 := Fr.app N0 Nq1
  obtain ⟨fs, hr, hrun, hended, hW, hsame⟩ := X1.leave (v := none) (fun _ => rfl)
  refine ⟨_, _, r0 _ ?_, hrun, hended, _, _, rfl, ?_, ⟨_, rfl⟩, hW, hsame.mono (by decide) (by decide)⟩
  · show Steps p.tables e below (s₁.setTop (mkF m 0 #[.val (.ref a)] [])) _
    refine XS.aloadN X0.here hx rfl (hb hby own_d_jdk_46_method_1_code_0) rfl rfl ?_
    show Steps p.tables e below (s₁.setTop (mkF m 1 #[.val (.ref a)] [(.ref a)])) _
    refine st1.trans ?_
    show Steps p.tables e below (T1.setTop (mkF m 4 #[.val (.ref a)] [])) _
    exact X1.returnOut hx Bd.returns (hb hby own_d_jdk_46_method_1_code_4) hr
  · show Q_own_ail Z a h0 n0 _ T1.heap _
    rw [hh1]
    exact ⟨rfl, N1, rfl⟩
theorem own_pn_own_l12 : plainName "java/util/ImmutableCollections$List12" = true := by first | (simp [plainName, overriddenIn]; done) | decide +kernel
theorem own_ef_own_l12 (m : MethodId) (a : Addr) (x : Addr) : entryFrame m #[(.ref a), (.ref x)] 2 = mkF m 0 #[.val (.ref a), .val (.ref x)] [] := by first | (simp [entryFrame, mkF, argsToLocals, own_cI, own_cJ, own_cR, own_cN]; done) | rfl
abbrev own_F_own_l12 (m : MethodId) (a : Addr) (x : Addr) : JFrame := entryFrame m #[(.ref a), (.ref x)] 2
def Q_own_l12 (Z : State) (a : Addr) (x : Addr) (em : Addr) (h0 : Heap) (n0 : Nat) (v : Option Value) (h : Heap) (L : List Loc) : Prop := v = none ∧ Fr n0 L ∧ Keep h0 h [a] ∧ (Exa Z h a "java/util/ImmutableCollections$List12") ∧ (Fld Z h a "java/util/ImmutableCollections$List12" "e0" "Ljava/lang/Object;" (.ref x)) ∧ (Fld Z h a "java/util/ImmutableCollections$List12" "e1" "Ljava/lang/Object;" (.ref em))
set_option maxRecDepth 65536 in
set_option maxHeartbeats 40000000 in
theorem own_l12 (l : Launch) (Z : State) (a0 : Array Value) (hw : ∀ d ∈ tables_1, d.before a0 Z = true) (ws : List Jvm.Cond) (a : Addr) (x : Addr) (em : Addr) (h0 : Heap) (n0 : Nat) (O0 : Old Z n0 h0) (hp0 : Exa Z h0 a "java/util/ImmutableCollections$List12") (hp1 : n0 ≤ a) (hp2 : Fld Z h0 a "java/util/ImmutableCollections$List12" "e0" "Ljava/lang/Object;" .null) (hp3 : Fld Z h0 a "java/util/ImmutableCollections$List12" "e1" "Ljava/lang/Object;" .null) (hp4 : Sta Z Z.heap "java/util/ImmutableCollections" "EMPTY" "Ljava/lang/Object;" (.ref em)) :
    MetFree l (⟨"java/util/ImmutableCollections$List12", "<init>", "(Ljava/lang/Object;)V"⟩ : MethodName) (head1 (Jvm.Cond.code (⟨"java/util/ImmutableCollections$List12", "<init>", "(Ljava/lang/Object;)V"⟩ : MethodName) jdk_44_method_1_code 2 none :: ws) ({ frames := 4, cells := 0, slots := 0, locals := 48 } : Room)) (fun aa_ U_ => aa_ = #[(.ref a), (.ref x)] ∧ Z.Warmed39 U_.vm ∧ U_.heap = h0) (fun _ _ _ _ _ => True) (fun _ U_ o_ V_ => ∃ v_ L_, o_ = .returned v_ ∧ Q_own_l12 Z a x em h0 n0 v_ V_.heap L_ ∧ FrameEnd U_ o_ V_ L_ ({ frames := 4, cells := 0, slots := 0, locals := 48 } : Room).cells ({ frames := 4, cells := 0, slots := 0, locals := 48 } : Room).slots) := by
  refine MetFree.of_bodySF (plainFor_of_name own_pn_own_l12) hisR ?_
  intro p e s m args below meth c s₁ Bd hml0 hP hK
  obtain ⟨rfl, hZ, hh⟩ := hP
  have hx := Bd.exec
  have hby := Bd.bytes
  have hml : c.maxLocals = 2 := hml0
  have hown : s.vm.findClass "java/util/ImmutableCollections$List12" = some m.cls := findClass_of_methodNamed Bd.named
  have hnm := (name_of_methodNamed Bd.named Bd.method).1
  have X0 : Stand p l e ({ frames := 4, cells := 0, slots := 0, locals := 48 } : Room) s m #[(.ref a), (.ref x)] below meth c s₁ [] 0 0 := Stand.of_body Bd
  have e0 : s₁.heap = h0 := by rw [← hh, Bd.state]; rfl
  have N0 := Fr.nil n0
  have K0 : Keep h0 h0 [a] := Keep.refl _ _
  have r0 : GoTo p.tables e below s₁ (own_F_own_l12 m a x) s₁ (mkF m 0 #[.val (.ref a), .val (.ref x)] []) := fun tt_ kk_ => castTop (own_ef_own_l12 m a x) kk_
  obtain ⟨_, _, ⟨T1, L1, k1, n1⟩, -, X1, ⟨Lc1, hQ1, l1, y1, z1⟩, st1⟩ := X0.specialBack hx (y := (⟨"java/util/ImmutableCollections$AbstractImmutableList", "<init>", "()V"⟩ : MethodName)) rfl hown (mvT hZ (hw _ (List.mem_of_getElem? (i := 180) rfl))) (mvT hZ (hw _ (List.mem_of_getElem? (i := 181) rfl))) (mvT hZ (hw _ (List.mem_of_getElem? (i := 185) rfl))) (by decide) (backOf (W := 0) (own_ail l Z a0 hw [] (a) h0 n0 (O0.keep K0 (allS hp1 all0))) hZ (hw _ (List.mem_of_getElem? (i := 185) rfl)) (hw _ (List.mem_of_getElem? (i := 184) rfl)) (by decide) (by decide)) (g := (mkF m 1 #[.val (.ref a), .val (.ref x)] [(.ref a)])) rfl (by rw [hml]; rfl) (Steps.refl _) (a := a) (argsL := []) (rest := []) (lenOf own_pd0 rfl) rfl (by show 2 * 0 + _ ≤ _; exact Nat.le_of_eq rfl) (hb hby own_d_jdk_44_method_1_code_1) (fun _ _ => ⟨rfl, e0, (by decide : 0 + 0 ≤ _), (by decide : 0 + 0 ≤ _)⟩)
  dsimp only [Pt.U, Pt.locs, Pt.cells, Pt.slots] at X1 l1 y1 z1 st1 hQ1
  subst l1 y1 z1
  obtain ⟨rfl, Nq1, hh1⟩ := hQ1
  have N1 := Fr.app N0 Nq1
  obtain ⟨_, _, ⟨T2, L2, k2, n2⟩, -, X2, ⟨Lc2, hQ2, l2, y2, z2⟩, st2⟩ := Jvm.LawKit.callS X1 hx (y := (⟨"java/util/Objects", "requireNonNull", "(Ljava/lang/Object;)Ljava/lang/Object;"⟩ : MethodName)) hown (mvT hZ (hw _ (List.mem_of_getElem? (i := 194) rfl))) (mvT hZ (hw _ (List.mem_of_getElem? (i := 195) rfl))) (mvT hZ (hw _ (List.mem_of_getElem? (i := 196) rfl))) (mvT hZ (hw _ (List.mem_of_getElem? (i := 197) rfl))) (by decide) (backOf (W := 1) (own_rnn l Z a0 hw [] (x) h0 n0 (O0.keep K0 (allS hp1 all0))) hZ (hw _ (List.mem_of_getElem? (i := 197) rfl)) (hw _ (List.mem_of_getElem? (i := 196) rfl)) (by decide) (by decide)) (g := (mkF m 6 #[.val (.ref a), .val (.ref x)] [(.ref x), (.ref a)])) rfl (by rw [hml]; rfl) (argsL := [(.ref x)]) (rest := [(.ref a)]) (lenOf own_pd7 rfl) rfl (by show 2 * 0 + _ ≤ _; exact Nat.le_of_eq rfl) (hb hby own_d_jdk_44_method_1_code_6) (fun _ _ => ⟨rfl, hh1, (by decide : 0 + 0 ≤ _), (by decide : 0 + 0 ≤ _)⟩)
  dsimp only [Pt.U, Pt.locs, Pt.cells, Pt.slots] at X2 l2 y2 z2 st2 hQ2
  subst l2 y2 z2
  obtain ⟨rfl, Nq2, hh2⟩ := hQ2
  have N2 := Fr.app N1 Nq2
  obtain ⟨T3, h3, X3, e3, W3, st3⟩ := putF X2 hx hZ hown (host := "") (Or.inl (hw _ (List.mem_of_getElem? (i := 198) rfl))) Via.refl hh2 hp2 hp0 (Or.inr ⟨(hw _ (List.mem_of_getElem? (i := 199) rfl)), rfl, hnm⟩) (hw _ (List.mem_of_getElem? (i := 174) rfl)) (ty := (.object "java/lang/Object")) (by decide) rfl rfl (g := (mkF m 9 #[.val (.ref a), .val (.ref x)] [(.ref x), (.ref a)])) rfl rfl (hb hby own_d_jdk_44_method_1_code_9)
  have K4 : Keep h0 h3 [a] := K0.wr W3 (Or.inl (List.mem_of_getElem? (i := 0) rfl))
  have Fw3 : Fld Z h3 a "java/util/ImmutableCollections$List12" "e0" "Ljava/lang/Object;" (.ref x) := hp2.same W3
  have N3 := Fr.snoc X3 N2 hp1
  obtain ⟨T5, X5, e5, st5⟩ := getS2 X3 hx hZ hown (Or.inr (hw _ (List.mem_of_getElem? (i := 200) rfl))) Via.refl e3 (hp4.ext (O0.keep K4 (allS hp1 all0)).2) (g := (mkF m 13 #[.val (.ref a), .val (.ref x)] [(.ref a)])) rfl (hb hby own_d_jdk_44_method_1_code_13)
  have f6 : Fld Z h3 a "java/util/ImmutableCollections$List12" "e1" "Ljava/lang/Object;" .null := (hp3.other W3 (Or.inr (Jvm.RoadKit.slot_ne (Or.inr (hw _ (List.mem_of_getElem? (i := 202) rfl))) (Or.inr (hw _ (List.mem_of_getElem? (i := 199) rfl))) (by decide) (t := (.object "java/lang/Object")) (t' := (.object "java/lang/Object")) (by decide) (by decide))))
  have f7 : Exa Z h3 a "java/util/ImmutableCollections$List12" := (hp0.wr W3)
  obtain ⟨T8, h8, X8, e8, W8, st8⟩ := putF X5 hx hZ hown (host := "") (Or.inl (hw _ (List.mem_of_getElem? (i := 201) rfl))) Via.refl e5 f6 f7 (Or.inr ⟨(hw _ (List.mem_of_getElem? (i := 202) rfl)), rfl, hnm⟩) (hw _ (List.mem_of_getElem? (i := 174) rfl)) (ty := (.object "java/lang/Object")) (by decide) rfl rfl (g := (mkF m 16 #[.val (.ref a), .val (.ref x)] [(.ref em), (.ref a)])) rfl rfl (hb hby own_d_jdk_44_method_1_code_16)
  have K9 : Keep h0 h8 [a] := K4.wr W8 (Or.inl (List.mem_of_getElem? (i := 0) rfl))
  have Fw8 : Fld Z h8 a "java/util/ImmutableCollections$List12" "e1" "Ljava/lang/Object;" (.ref em) := f6.same W8
  have N8 := Fr.snoc X8 N3 hp1
  obtain ⟨fs, hr, hrun, hended, hW, hsame⟩ := X8.leave (v := none) (fun _ => rfl)
  refine ⟨_, _, r0 _ ?_, hrun, hended, _, _, rfl, ?_, ⟨_, rfl⟩, hW, hsame.mono (by decide) (by decide)⟩
  · show Steps p.tables e below (s₁.setTop (mkF m 0 #[.val (.ref a), .val (.ref x)] [])) _
    refine XS.aloadN X0.here hx rfl (hb hby own_d_jdk_44_method_1_code_0) rfl rfl ?_
    show Steps p.tables e below (s₁.setTop (mkF m 1 #[.val (.ref a), .val (.ref x)] [(.ref a)])) _
    refine st1.trans ?_
    show Steps p.tables e below (T1.setTop (mkF m 4 #[.val (.ref a), .val (.ref x)] [])) _
    refine XS.aloadN X1.here hx rfl (hb hby own_d_jdk_44_method_1_code_4) rfl rfl ?_
    show Steps p.tables e below (T1.setTop (mkF m 5 #[.val (.ref a), .val (.ref x)] [(.ref a)])) _
    refine XS.aloadN X1.here hx rfl (hb hby own_d_jdk_44_method_1_code_5) rfl rfl ?_
    show Steps p.tables e below (T1.setTop (mkF m 6 #[.val (.ref a), .val (.ref x)] [(.ref x), (.ref a)])) _
    refine st2 _ ?_
    show Steps p.tables e below (T2.setTop (mkF m 9 #[.val (.ref a), .val (.ref x)] [(.ref x), (.ref a)])) _
    refine st3 _ ?_
    show Steps p.tables e below (T3.setTop (mkF m 12 #[.val (.ref a), .val (.ref x)] [])) _
    refine XS.aloadN X3.here hx rfl (hb hby own_d_jdk_44_method_1_code_12) rfl rfl ?_
    show Steps p.tables e below (T3.setTop (mkF m 13 #[.val (.ref a), .val (.ref x)] [(.ref a)])) _
    refine st5 _ ?_
    show Steps p.tables e below (T5.setTop (mkF m 16 #[.val (.ref a), .val (.ref x)] [(.ref em), (.ref a)])) _
    refine st8 _ ?_
    show Steps p.tables e below (T8.setTop (mkF m 19 #[.val (.ref a), .val (.ref x)] [])) _
    exact X8.returnOut hx Bd.returns (hb hby own_d_jdk_44_method_1_code_19) hr
  · show Q_own_l12 Z a x em h0 n0 _ T8.heap _
    rw [e8]
    have f10 : Exa Z h8 a "java/util/ImmutableCollections$List12" := (f7.wr W8)
    have f11 : Fld Z h8 a "java/util/ImmutableCollections$List12" "e0" "Ljava/lang/Object;" (.ref x) := (Fw3.other W8 (Or.inr (Jvm.RoadKit.slot_ne (Or.inr (hw _ (List.mem_of_getElem? (i := 199) rfl))) (Or.inr (hw _ (List.mem_of_getElem? (i := 202) rfl))) (by decide) (t := (.object "java/lang/Object")) (t' := (.object "java/lang/Object")) (by decide) (by decide))))
    exact ⟨rfl, N8, K9, f10, f11, Fw8⟩
theorem own_pn_own_of1 : plainName "java/util/List" = true := by first | (simp [plainName, overriddenIn]; done) | decide +kernel
theorem own_ef_own_of1 (m : MethodId) (ar : Addr) : entryFrame m #[(.ref ar)] 2 = mkF m 0 #[.val (.ref ar), .unset] [] := by first | (simp [entryFrame, mkF, argsToLocals, own_cI, own_cJ, own_cR, own_cN]; done) | rfl
abbrev own_F_own_of1 (m : MethodId) (ar : Addr) : JFrame := entryFrame m #[(.ref ar)] 2
def Q_own_of1 (Z : State) (ar : Addr) (ka : ClassId) (x : Addr) (em : Addr) (h0 : Heap) (n0 : Nat) (v : Option Value) (h : Heap) (L : List Loc) : Prop := ∃ (b : Addr), v = some (.ref b) ∧ Fr n0 L ∧ Keep h0 h [] ∧ (h0.size ≤ b) ∧ (n0 ≤ b) ∧ (Exa Z h b "java/util/ImmutableCollections$List12") ∧ (Fld Z h b "java/util/ImmutableCollections$List12" "e0" "Ljava/lang/Object;" (.ref x)) ∧ (Fld Z h b "java/util/ImmutableCollections$List12" "e1" "Ljava/lang/Object;" (.ref em))
set_option maxRecDepth 65536 in
set_option maxHeartbeats 40000000 in
theorem own_of1 (l : Launch) (Z : State) (a0 : Array Value) (hw : ∀ d ∈ tables_1, d.before a0 Z = true) (ws : List Jvm.Cond) (ar : Addr) (ka : ClassId) (x : Addr) (em : Addr) (h0 : Heap) (n0 : Nat) (O0 : Old Z n0 h0) (hp0 : Arv Z h0 ar ka (.object "java/lang/Object") (1 : Int32) [(.ref x)] .null) (hp1 : Sta Z Z.heap "java/util/ImmutableCollections" "EMPTY" "Ljava/lang/Object;" (.ref em)) :
    MetFree l (⟨"java/util/List", "of", "([Ljava/lang/Object;)Ljava/util/List;"⟩ : MethodName) (head1 (Jvm.Cond.code (⟨"java/util/List", "of", "([Ljava/lang/Object;)Ljava/util/List;"⟩ : MethodName) jdk_40_method_47_code 2 (some (.object "java/util/List")) :: ws) ({ frames := 5, cells := 1, slots := 2, locals := 62 } : Room)) (fun aa_ U_ => aa_ = #[(.ref ar)] ∧ Z.Warmed39 U_.vm ∧ U_.heap = h0) (fun _ _ _ _ _ => True) (fun _ U_ o_ V_ => ∃ v_ L_, o_ = .returned v_ ∧ Q_own_of1 Z ar ka x em h0 n0 v_ V_.heap L_ ∧ FrameEnd U_ o_ V_ L_ ({ frames := 5, cells := 1, slots := 2, locals := 62 } : Room).cells ({ frames := 5, cells := 1, slots := 2, locals := 62 } : Room).slots) := by
  refine MetFree.of_bodySF (plainFor_of_name own_pn_own_of1) hisR ?_
  intro p e s m args below meth c s₁ Bd hml0 hP hK
  obtain ⟨rfl, hZ, hh⟩ := hP
  have hx := Bd.exec
  have hby := Bd.bytes
  have hml : c.maxLocals = 2 := hml0
  have hown : s.vm.findClass "java/util/List" = some m.cls := findClass_of_methodNamed Bd.named
  have hnm := (name_of_methodNamed Bd.named Bd.method).1
  have X0 : Stand p l e ({ frames := 5, cells := 1, slots := 2, locals := 62 } : Room) s m #[(.ref ar)] below meth c s₁ [] 0 0 := Stand.of_body Bd
  have e0 : s₁.heap = h0 := by rw [← hh, Bd.state]; rfl
  have N0 := Fr.nil n0
  have K0 : Keep h0 h0 [] := Keep.refl _ _
  have r0 : GoTo p.tables e below s₁ (own_F_own_of1 m ar) s₁ (mkF m 0 #[.val (.ref ar), .unset] []) := fun tt_ kk_ => castTop (own_ef_own_of1 m ar) kk_
  obtain ⟨cl1, Ar1, q1, S1, NN1, H1, G1⟩ := id hp0
  obtain ⟨T2, h2, X2, e2, E2, A2, D2, -, st2⟩ := newO X0 hx hZ hown (hw _ (List.mem_of_getElem? (i := 173) rfl)) (hw _ (List.mem_of_getElem? (i := 174) rfl)) (hw _ (List.mem_of_getElem? (i := 175) rfl)) e0 (g := (mkF m 34 #[.val (.ref ar), .unset] [])) rfl (hb hby own_d_jdk_40_method_47_code_34) (by decide) (by decide)
  obtain ⟨b2, gg2⟩ : ∃ z, z = h0.size := ⟨_, rfl⟩
  rw [← gg2] at A2 D2 st2
  have ne3 : ar ≠ b2 := Nat.ne_of_lt (Nat.lt_of_lt_of_le hp0.lt (Nat.le_of_eq gg2.symm))
  have g4 : n0 ≤ b2 := Nat.le_trans (Nat.le_trans (own_le O0) K0.1) (Nat.le_of_eq gg2.symm)
  have b5 : h0.size ≤ b2 := Nat.le_trans K0.1 (Nat.le_of_eq gg2.symm)
  have K6 : Keep h0 h2 [] := K0.ext E2
  have f7 : Arv Z h2 ar ka (.object "java/lang/Object") (1 : Int32) [(.ref x)] .null := (hp0.ext E2)
  obtain ⟨cl8, Ar8, q8, S8, NN8, H8, G8⟩ := id f7
  have hin8 : ¬ ((0 : Int32) < 0 ∨ cl8.slots.size ≤ ((0 : Int32)).toNatClampNeg) := inb_of S8 ⟨by decide, by decide⟩
  obtain ⟨_, _, ⟨T9, L9, k9, n9⟩, -, X9, ⟨Lc9, hQ9, l9, y9, z9⟩, st9⟩ := X2.specialBack hx (y := (⟨"java/util/ImmutableCollections$List12", "<init>", "(Ljava/lang/Object;)V"⟩ : MethodName)) rfl hown (mvT hZ (hw _ (List.mem_of_getElem? (i := 176) rfl))) (mvT hZ (hw _ (List.mem_of_getElem? (i := 177) rfl))) (mvT hZ (hw _ (List.mem_of_getElem? (i := 179) rfl))) (by decide) (backOf (W := 1) (own_l12 l Z a0 hw [] (b2) (x) (em) h2 n0 (O0.keep K6 all0) (A2) (g4) ((D2 (Or.inr (hw _ (List.mem_of_getElem? (i := 199) rfl))) (ty := (.object "java/lang/Object")) (by decide))) ((D2 (Or.inr (hw _ (List.mem_of_getElem? (i := 202) rfl))) (ty := (.object "java/lang/Object")) (by decide))) (hp1)) hZ (hw _ (List.mem_of_getElem? (i := 179) rfl)) (hw _ (List.mem_of_getElem? (i := 175) rfl)) (by decide) (by decide)) (g := (mkF m 41 #[.val (.ref ar), .unset] [(.ref x), (.ref b2), (.ref b2)])) rfl (by rw [hml]; rfl) (Steps.refl _) (a := b2) (argsL := [(.ref x)]) (rest := [(.ref b2)]) (lenOf own_pd8 rfl) rfl (by show 2 * 0 + _ ≤ _; exact Nat.le_of_eq rfl) (hb hby own_d_jdk_40_method_47_code_41) (fun _ _ => ⟨rfl, e2, (by decide : 1 + 0 ≤ _), (by decide : 2 + 0 ≤ _)⟩)
  dsimp only [Pt.U, Pt.locs, Pt.cells, Pt.slots] at X9 l9 y9 z9 st9 hQ9
  subst l9 y9 z9
  obtain ⟨rfl, Nq9, Kq9, po9_0, po9_1, po9_2⟩ := hQ9
  have N9 := Fr.app N0 Nq9
  have K10 : Keep h0 T9.heap [] := K6.trans Kq9 (allS (Or.inr b5) all0)
  obtain ⟨fs, hr, hrun, hended, hW, hsame⟩ := X9.leave (v := some (.ref b2)) (fun h => by rw [Bd.returns] at h; cases h)
  refine ⟨_, _, r0 _ ?_, hrun, hended, _, _, rfl, ?_, ⟨_, rfl⟩, hW, hsame.mono (by decide) (by decide)⟩
  · show Steps p.tables e below (s₁.setTop (mkF m 0 #[.val (.ref ar), .unset] [])) _
    refine XS.aloadN X0.here hx rfl (hb hby own_d_jdk_40_method_47_code_0) rfl rfl ?_
    show Steps p.tables e below (s₁.setTop (mkF m 1 #[.val (.ref ar), .unset] [(.ref ar)])) _
    refine X0.arraylength hx (by rw [e0]; exact Ar1.1) (State.isArrayOf_alike hZ.alike Ar1.2.1) (g := (mkF m 1 #[.val (.ref ar), .unset] [(.ref ar)])) rfl rfl (hb hby own_d_jdk_40_method_47_code_1) _ ?_
    rw [len_of S1 NN1]
    show Steps p.tables e below (s₁.setTop (mkF m 2 #[.val (.ref ar), .unset] [(.int (1 : Int32))])) _
    refine XS.tswIn X0.here hx rfl (pc0 := 2) (pc' := 34) rfl (hb hby own_d_jdk_40_method_47_code_2) rfl (by decide) rfl (by decide) (by decide) ?_
    show Steps p.tables e below (s₁.setTop (mkF m 34 #[.val (.ref ar), .unset] [])) _
    refine st2 _ ?_
    show Steps p.tables e below (T2.setTop (mkF m 37 #[.val (.ref ar), .unset] [(.ref b2)])) _
    refine XS.dup X2.here hx rfl (hb hby own_d_jdk_40_method_47_code_37) rfl rfl ?_
    show Steps p.tables e below (T2.setTop (mkF m 38 #[.val (.ref ar), .unset] [(.ref b2), (.ref b2)])) _
    refine XS.aloadN X2.here hx rfl (hb hby own_d_jdk_40_method_47_code_38) rfl rfl ?_
    show Steps p.tables e below (T2.setTop (mkF m 39 #[.val (.ref ar), .unset] [(.ref ar), (.ref b2), (.ref b2)])) _
    refine XS.iconst X2.here hx rfl (hb hby own_d_jdk_40_method_47_code_39) ?_
    show Steps p.tables e below (T2.setTop (mkF m 40 #[.val (.ref ar), .unset] [(.int (0 : Int32)), (.ref ar), (.ref b2), (.ref b2)])) _
    refine X2.aaload hx (j := (0 : Int32)) (v := (.ref x)) (by rw [e2]; exact Ar8.1) (State.isArrayOf_alike hZ.alike Ar8.2.1) rfl Ar8.2.2 hin8 (Has.at H8 hin8 rfl) (g := (mkF m 40 #[.val (.ref ar), .unset] [(.int (0 : Int32)), (.ref ar), (.ref b2), (.ref b2)])) rfl rfl (hb hby own_d_jdk_40_method_47_code_40) _ ?_
    show Steps p.tables e below (T2.setTop (mkF m 41 #[.val (.ref ar), .unset] [(.ref x), (.ref b2), (.ref b2)])) _
    refine st9.trans ?_
    show Steps p.tables e below (T9.setTop (mkF m 44 #[.val (.ref ar), .unset] [(.ref b2)])) _
    exact retOut X9 hx (t := (.object "java/util/List")) Bd.returns rfl (Or.inr (Or.inr (Or.inr (Or.inr ⟨rfl, rfl, rfl⟩)))) (hb hby own_d_jdk_40_method_47_code_44) hr
  · show Q_own_of1 Z ar ka x em h0 n0 _ T9.heap _
    exact ⟨b2, rfl, N9, K10, b5, g4, po9_0, po9_1, po9_2⟩
theorem own_pn_own_of0 : plainName "java/util/List" = true := by first | (simp [plainName, overriddenIn]; done) | decide +kernel
theorem own_ef_own_of0 (m : MethodId)  : entryFrame m #[] 0 = mkF m 0 #[] [] := by first | (simp [entryFrame, mkF, argsToLocals, own_cI, own_cJ, own_cR, own_cN]; done) | rfl
abbrev own_F_own_of0 (m : MethodId)  : JFrame := entryFrame m #[] 0
def Q_own_of0 (Z : State) (el : Addr) (h0 : Heap) (n0 : Nat) (v : Option Value) (h : Heap) (L : List Loc) : Prop := v = some (.ref el) ∧ Fr n0 L ∧ h = h0
set_option maxRecDepth 65536 in
set_option maxHeartbeats 40000000 in
theorem own_of0 (l : Launch) (Z : State) (a0 : Array Value) (hw : ∀ d ∈ tables_1, d.before a0 Z = true) (ws : List Jvm.Cond) (el : Addr) (h0 : Heap) (n0 : Nat) (O0 : Old Z n0 h0) (hp0 : Sta Z Z.heap "java/util/ImmutableCollections" "EMPTY_LIST" "Ljava/util/ImmutableCollections$ListN;" (.ref el)) :
    MetFree l (⟨"java/util/List", "of", "()Ljava/util/List;"⟩ : MethodName) (head1 (Jvm.Cond.code (⟨"java/util/List", "of", "()Ljava/util/List;"⟩ : MethodName) jdk_40_method_36_code 0 (some (.object "java/util/List")) :: ws) ({ frames := 0, cells := 0, slots := 0, locals := 0 } : Room)) (fun aa_ U_ => aa_ = #[] ∧ Z.Warmed39 U_.vm ∧ U_.heap = h0) (fun _ _ _ _ _ => True) (fun _ U_ o_ V_ => ∃ v_ L_, o_ = .returned v_ ∧ Q_own_of0 Z el h0 n0 v_ V_.heap L_ ∧ FrameEnd U_ o_ V_ L_ ({ frames := 0, cells := 0, slots := 0, locals := 0 } : Room).cells ({ frames := 0, cells := 0, slots := 0, locals := 0 } : Room).slots) := by
  refine MetFree.of_bodySF (plainFor_of_name own_pn_own_of0) hisR ?_
  intro p e s m args below meth c s₁ Bd hml0 hP hK
  obtain ⟨rfl, hZ, hh⟩ := hP
  have hx := Bd.exec
  have hby := Bd.bytes
  have hml : c.maxLocals = 0 := hml0
  have hown : s.vm.findClass "java/util/List" = some m.cls := findClass_of_methodNamed Bd.named
  have hnm := (name_of_methodNamed Bd.named Bd.method).1
  have X0 : Stand p l e ({ frames := 0, cells := 0, slots := 0, locals := 0 } : Room) s m #[] below meth c s₁ [] 0 0 := Stand.of_body Bd
  have e0 : s₁.heap = h0 := by rw [← hh, Bd.state]; rfl
  have N0 := Fr.nil n0
  have K0 : Keep h0 h0 [] := Keep.refl _ _
  have r0 : GoTo p.tables e below s₁ (own_F_own_of0 m ) s₁ (mkF m 0 #[] []) := fun tt_ kk_ => castTop (own_ef_own_of0 m ) kk_
  obtain ⟨T1, X1, e1, st1⟩ := getS2 X0 hx hZ hown (host := "") (Or.inl (hw _ (List.mem_of_getElem? (i := 206) rfl))) Via.refl e0 (hp0.ext (O0.keep K0 all0).2) (g := (mkF m 0 #[] [])) rfl (hb hby own_d_jdk_40_method_36_code_0)
  obtain ⟨fs, hr, hrun, hended, hW, hsame⟩ := X1.leave (v := some (.ref el)) (fun h => by rw [Bd.returns] at h; cases h)
  refine ⟨_, _, r0 _ ?_, hrun, hended, _, _, rfl, ?_, ⟨_, rfl⟩, hW, hsame.mono (by decide) (by decide)⟩
  · show Steps p.tables e below (s₁.setTop (mkF m 0 #[] [])) _
    refine st1 _ ?_
    show Steps p.tables e below (T1.setTop (mkF m 3 #[] [(.ref el)])) _
    exact retOut X1 hx (t := (.object "java/util/List")) Bd.returns rfl (Or.inr (Or.inr (Or.inr (Or.inr ⟨rfl, rfl, rfl⟩)))) (hb hby own_d_jdk_40_method_36_code_3) hr
  · show Q_own_of0 Z el h0 n0 _ T1.heap _
    rw [e1]
    exact ⟨rfl, N0, rfl⟩
theorem own_pn_own_lc_al1 : plainName "java/util/ImmutableCollections" = true := by first | (simp [plainName, overriddenIn]; done) | decide +kernel
theorem own_ef_own_lc_al1 (m : MethodId) (a : Addr) : entryFrame m #[(.ref a)] 2 = mkF m 0 #[.val (.ref a), .unset] [] := by first | (simp [entryFrame, mkF, argsToLocals, own_cI, own_cJ, own_cR, own_cN]; done) | rfl
abbrev own_F_own_lc_al1 (m : MethodId) (a : Addr) : JFrame := entryFrame m #[(.ref a)] 2
def Q_own_lc_al1 (Z : State) (a : Addr) (ar : Addr) (ka : ClassId) (x : Addr) (mr : Addr) (em : Addr) (h0 : Heap) (n0 : Nat) (v : Option Value) (h : Heap) (L : List Loc) : Prop := ∃ (b : Addr), v = some (.ref b) ∧ Fr n0 L ∧ Keep h0 h [] ∧ (h0.size ≤ b) ∧ (n0 ≤ b) ∧ (Exa Z h b "java/util/ImmutableCollections$List12") ∧ (Fld Z h b "java/util/ImmutableCollections$List12" "e0" "Ljava/lang/Object;" (.ref x)) ∧ (Fld Z h b "java/util/ImmutableCollections$List12" "e1" "Ljava/lang/Object;" (.ref em))
set_option maxRecDepth 65536 in
set_option maxHeartbeats 40000000 in
theorem own_lc_al1 (l : Launch) (Z : State) (a0 : Array Value) (hw : ∀ d ∈ tables_1, d.before a0 Z = true) (ws : List Jvm.Cond) (a : Addr) (ar : Addr) (ka : ClassId) (x : Addr) (mr : Addr) (em : Addr) (h0 : Heap) (n0 : Nat) (O0 : Old Z n0 h0) (hp0 : Exa Z h0 a "java/util/ArrayList") (hp1 : Fld Z h0 a "java/util/ArrayList" "elementData" "[Ljava/lang/Object;" (.ref ar)) (hp2 : Fld Z h0 a "java/util/ArrayList" "size" "I" (.int (1 : Int32))) (hp3 : Arv Z h0 ar ka (.object "java/lang/Object") (10 : Int32) [(.ref x), .null, .null, .null, .null, .null, .null, .null, .null, .null] .null) (hp4 : Exa Z h0 ar "[Ljava/lang/Object;") (hp5 : Exa Z h0 x "com/example/myna/myna/orders/OrderLine") (hMir : own_Mir Z "[Ljava/lang/Object;" mr) (hp7 : Sta Z Z.heap "java/util/ImmutableCollections" "EMPTY" "Ljava/lang/Object;" (.ref em)) :
    MetFree l (⟨"java/util/ImmutableCollections", "listCopy", "(Ljava/util/Collection;)Ljava/util/List;"⟩ : MethodName) (head1 (Jvm.Cond.code (⟨"java/util/ImmutableCollections", "listCopy", "(Ljava/util/Collection;)Ljava/util/List;"⟩ : MethodName) jdk_56_method_3_code 2 (some (.object "java/util/List")) :: ws) ({ frames := 6, cells := 2, slots := 3, locals := 100 } : Room)) (fun aa_ U_ => aa_ = #[(.ref a)] ∧ Z.Warmed39 U_.vm ∧ U_.heap = h0) (fun _ _ _ _ _ => True) (fun _ U_ o_ V_ => ∃ v_ L_, o_ = .returned v_ ∧ Q_own_lc_al1 Z a ar ka x mr em h0 n0 v_ V_.heap L_ ∧ FrameEnd U_ o_ V_ L_ ({ frames := 6, cells := 2, slots := 3, locals := 100 } : Room).cells ({ frames := 6, cells := 2, slots := 3, locals := 100 } : Room).slots) := by
  refine MetFree.of_bodySF (plainFor_of_name own_pn_own_lc_al1) hisR ?_
  intro p e s m args below meth c s₁ Bd hml0 hP hK
  obtain ⟨rfl, hZ, hh⟩ := hP
  have hx := Bd.exec
  have hby := Bd.bytes
  have hml : c.maxLocals = 2 := hml0
  have hown : s.vm.findClass "java/util/ImmutableCollections" = some m.cls := findClass_of_methodNamed Bd.named
  have hnm := (name_of_methodNamed Bd.named Bd.method).1
  have X0 : Stand p l e ({ frames := 6, cells := 2, slots := 3, locals := 100 } : Room) s m #[(.ref a)] below meth c s₁ [] 0 0 := Stand.of_body Bd
  have e0 : s₁.heap = h0 := by rw [← hh, Bd.state]; rfl
  have N0 := Fr.nil n0
  have K0 : Keep h0 h0 [] := Keep.refl _ _
  have r0 : GoTo p.tables e below s₁ (own_F_own_lc_al1 m a) s₁ (mkF m 0 #[.val (.ref a), .unset] []) := fun tt_ kk_ => castTop (own_ef_own_lc_al1 m a) kk_
  obtain ⟨T1, X1, e1, st1⟩ := instNo X0 hx hZ hown (hw _ (List.mem_of_getElem? (i := 125) rfl)) e0 hp0 (own_NSno (hw _ (List.mem_of_getElem? (i := 126) rfl)) (hw _ (List.mem_of_getElem? (i := 174) rfl)) (NS.step (hw _ (List.mem_of_getElem? (i := 126) rfl)) (NS.step (hw _ (List.mem_of_getElem? (i := 127) rfl)) (NS.step (hw _ (List.mem_of_getElem? (i := 128) rfl)) (own_NSroot (hw _ (List.mem_of_getElem? (i := 129) rfl)) (hw _ (List.mem_of_getElem? (i := 174) rfl)) (by decide)) (by decide)) (by decide)) (by decide)) (by decide)) (g := (mkF m 1 #[.val (.ref a), .unset] [(.ref a)])) rfl rfl (hb hby own_d_jdk_56_method_3_code_1)
  obtain ⟨T2, X2, e2, st2⟩ := instNo X1 hx hZ hown (hw _ (List.mem_of_getElem? (i := 130) rfl)) e1 hp0 (NS.no (hw _ (List.mem_of_getElem? (i := 126) rfl)) (hw _ (List.mem_of_getElem? (i := 232) rfl)) (NS.step (hw _ (List.mem_of_getElem? (i := 126) rfl)) (NS.step (hw _ (List.mem_of_getElem? (i := 127) rfl)) (NS.step (hw _ (List.mem_of_getElem? (i := 128) rfl)) (NS.root (hw _ (List.mem_of_getElem? (i := 129) rfl)) (hw _ (List.mem_of_getElem? (i := 232) rfl)) (by decide)) (by decide)) (by decide)) (by decide)) (by decide)) (g := (mkF m 8 #[.val (.ref a), .unset] [(.ref a)])) rfl rfl (hb hby own_d_jdk_56_method_3_code_8)
  obtain ⟨cq3, kq3, qa3, qb3, qc3⟩ := isOf hZ e2 hp0
  obtain ⟨_, _, ⟨T3, L3, k3, n3⟩, -, X3, ⟨Lc3, hQ3, l3, y3, z3⟩, st3⟩ := X2.interfaceBack hx (xi := (⟨"java/util/Collection", "isEmpty", "()Z"⟩ : MethodName)) (y := (⟨"java/util/ArrayList", "isEmpty", "()Z"⟩ : MethodName)) hown (mvT hZ (hw _ (List.mem_of_getElem? (i := 131) rfl))) (mvT hZ (hw _ (List.mem_of_getElem? (i := 132) rfl))) (mvT hZ (hw _ (List.mem_of_getElem? (i := 133) rfl))) (mvT hZ (hw _ (List.mem_of_getElem? (i := 134) rfl))) (mvT hZ (hw _ (List.mem_of_getElem? (i := 135) rfl))) (mvT hZ (hw _ (List.mem_of_getElem? (i := 136) rfl))) (mvT hZ (hw _ (List.mem_of_getElem? (i := 137) rfl))) (mvT hZ (hw _ (List.mem_of_getElem? (i := 138) rfl))) (by decide) (backOf (W := 0) (own_isEmpty1 l Z a0 hw [] (a) h0 n0 (O0.keep K0 all0) (hp2)) hZ (hw _ (List.mem_of_getElem? (i := 139) rfl)) (hw _ (List.mem_of_getElem? (i := 57) rfl)) (by decide) (by decide)) qa3 qb3 qc3 (g := (mkF m 32 #[.val (.ref a), .unset] [(.ref a)])) rfl (by rw [hml]; rfl) (Steps.refl _) (argsL := []) (rest := []) (lenOf own_pd9 rfl) rfl (by show 2 * 0 + _ ≤ _; exact Nat.le_of_eq rfl) (hb hby own_d_jdk_56_method_3_code_32) (fun _ _ => ⟨rfl, e2, (by decide : 0 + 0 ≤ _), (by decide : 0 + 0 ≤ _)⟩)
  dsimp only [Pt.U, Pt.locs, Pt.cells, Pt.slots] at X3 l3 y3 z3 st3 hQ3
  subst l3 y3 z3
  obtain ⟨rfl, Nq3, hh3⟩ := hQ3
  have N3 := Fr.app N0 Nq3
  obtain ⟨cq4, kq4, qa4, qb4, qc4⟩ := isOf hZ hh3 hp0
  obtain ⟨_, _, ⟨T4, L4, k4, n4⟩, -, X4, ⟨Lc4, hQ4, l4, y4, z4⟩, st4⟩ := X3.interfaceBack hx (xi := (⟨"java/util/Collection", "toArray", "()[Ljava/lang/Object;"⟩ : MethodName)) (y := (⟨"java/util/ArrayList", "toArray", "()[Ljava/lang/Object;"⟩ : MethodName)) hown (mvT hZ (hw _ (List.mem_of_getElem? (i := 140) rfl))) (mvT hZ (hw _ (List.mem_of_getElem? (i := 141) rfl))) (mvT hZ (hw _ (List.mem_of_getElem? (i := 142) rfl))) (mvT hZ (hw _ (List.mem_of_getElem? (i := 143) rfl))) (mvT hZ (hw _ (List.mem_of_getElem? (i := 144) rfl))) (mvT hZ (hw _ (List.mem_of_getElem? (i := 145) rfl))) (mvT hZ (hw _ (List.mem_of_getElem? (i := 146) rfl))) (mvT hZ (hw _ (List.mem_of_getElem? (i := 138) rfl))) (by decide) (backOf (W := 0) (own_toArray l Z a0 hw [] (a) (ar) (ka) (x) (mr) h0 n0 (O0.keep K0 all0) (hp1) (hp2) (hp3) (hp4) (hp5) (hMir)) hZ (hw _ (List.mem_of_getElem? (i := 147) rfl)) (hw _ (List.mem_of_getElem? (i := 57) rfl)) (by decide) (by decide)) qa4 qb4 qc4 (g := (mkF m 45 #[.val (.ref a), .unset] [(.ref a)])) rfl (by rw [hml]; rfl) (Steps.refl _) (argsL := []) (rest := []) (lenOf own_pd3 rfl) rfl (by show 2 * 0 + _ ≤ _; exact Nat.le_of_eq rfl) (hb hby own_d_jdk_56_method_3_code_45) (fun _ _ => ⟨rfl, hh3, (by decide : 0 + 1 ≤ _), (by decide : 0 + 1 ≤ _)⟩)
  dsimp only [Pt.U, Pt.locs, Pt.cells, Pt.slots] at X4 l4 y4 z4 st4 hQ4
  subst l4 y4 z4
  obtain ⟨b_4, kb_4, rfl, Nq4, Kq4, po4_0, po4_1, po4_2⟩ := hQ4
  have N4 := Fr.app N3 Nq4
  have ne5 : a ≠ b_4 := Nat.ne_of_lt (Nat.lt_of_lt_of_le hp0.lt po4_0)
  have ne6 : ar ≠ b_4 := Nat.ne_of_lt (Nat.lt_of_lt_of_le hp3.lt po4_0)
  have ne7 : x ≠ b_4 := Nat.ne_of_lt (Nat.lt_of_lt_of_le hp5.lt po4_0)
  have g8 : n0 ≤ b_4 := Nat.le_trans (Nat.le_trans (own_le O0) K0.1) po4_0
  have b9 : h0.size ≤ b_4 := Nat.le_trans K0.1 po4_0
  have K10 : Keep h0 T4.heap [] := K0.trans Kq4 all0
  obtain ⟨_, _, ⟨T11, L11, k11, n11⟩, -, X11, ⟨Lc11, hQ11, l11, y11, z11⟩, st11⟩ := Jvm.LawKit.callS X4 hx (y := (⟨"java/util/List", "of", "([Ljava/lang/Object;)Ljava/util/List;"⟩ : MethodName)) hown (mvT hZ (hw _ (List.mem_of_getElem? (i := 170) rfl))) (mvT hZ (hw _ (List.mem_of_getElem? (i := 171) rfl))) (mvT hZ (hw _ (List.mem_of_getElem? (i := 119) rfl))) (mvT hZ (hw _ (List.mem_of_getElem? (i := 172) rfl))) (by decide) (backOf (W := 0) (own_of1 l Z a0 hw [] (b_4) (kb_4) (x) (em) T4.heap n0 (O0.keep K10 all0) (po4_2) (hp7)) hZ (hw _ (List.mem_of_getElem? (i := 172) rfl)) (hw _ (List.mem_of_getElem? (i := 119) rfl)) (by decide) (by decide)) (g := (mkF m 50 #[.val (.ref a), .unset] [(.ref b_4)])) rfl (by rw [hml]; rfl) (argsL := [(.ref b_4)]) (rest := []) (lenOf own_pd10 rfl) rfl (by show 2 * 0 + _ ≤ _; exact Nat.le_of_eq rfl) (hb hby own_d_jdk_56_method_3_code_50) (fun _ _ => ⟨rfl, rfl, (by decide : 1 + 1 ≤ _), (by decide : 1 + 2 ≤ _)⟩)
  dsimp only [Pt.U, Pt.locs, Pt.cells, Pt.slots] at X11 l11 y11 z11 st11 hQ11
  subst l11 y11 z11
  obtain ⟨b_11, rfl, Nq11, Kq11, po11_0, po11_1, po11_2, po11_3, po11_4⟩ := hQ11
  have N11 := Fr.app N4 Nq11
  have ne12 : a ≠ b_11 := Nat.ne_of_lt (Nat.lt_of_lt_of_le (Nat.lt_of_lt_of_le hp0.lt Kq4.1) po11_0)
  have ne13 : ar ≠ b_11 := Nat.ne_of_lt (Nat.lt_of_lt_of_le (Nat.lt_of_lt_of_le hp3.lt Kq4.1) po11_0)
  have ne14 : x ≠ b_11 := Nat.ne_of_lt (Nat.lt_of_lt_of_le (Nat.lt_of_lt_of_le hp5.lt Kq4.1) po11_0)
  have ne15 : b_4 ≠ b_11 := Nat.ne_of_lt (Nat.lt_of_lt_of_le po4_2.lt po11_0)
  have g16 : n0 ≤ b_11 := Nat.le_trans (Nat.le_trans (own_le O0) K10.1) po11_0
  have b17 : h0.size ≤ b_11 := Nat.le_trans K10.1 po11_0
  have K18 : Keep h0 T11.heap [] := K10.trans Kq11 all0
  obtain ⟨fs, hr, hrun, hended, hW, hsame⟩ := X11.leave (v := some (.ref b_11)) (fun h => by rw [Bd.returns] at h; cases h)
  refine ⟨_, _, r0 _ ?_, hrun, hended, _, _, rfl, ?_, ⟨_, rfl⟩, hW, hsame.mono (by decide) (by decide)⟩
  · show Steps p.tables e below (s₁.setTop (mkF m 0 #[.val (.ref a), .unset] [])) _
    refine XS.aloadN X0.here hx rfl (hb hby own_d_jdk_56_method_3_code_0) rfl rfl ?_
    show Steps p.tables e below (s₁.setTop (mkF m 1 #[.val (.ref a), .unset] [(.ref a)])) _
    refine st1 _ ?_
    show Steps p.tables e below (T1.setTop (mkF m 4 #[.val (.ref a), .unset] [(.int (0 : Int32))])) _
    refine XS.ifNo X1.here hx rfl (hb hby own_d_jdk_56_method_3_code_4) rfl ((if0 _ _).trans (teq rfl).2) ?_
    show Steps p.tables e below (T1.setTop (mkF m 7 #[.val (.ref a), .unset] [])) _
    refine XS.aloadN X1.here hx rfl (hb hby own_d_jdk_56_method_3_code_7) rfl rfl ?_
    show Steps p.tables e below (T1.setTop (mkF m 8 #[.val (.ref a), .unset] [(.ref a)])) _
    refine st2 _ ?_
    show Steps p.tables e below (T2.setTop (mkF m 11 #[.val (.ref a), .unset] [(.int (0 : Int32))])) _
    refine XS.ifYes X2.here hx rfl (pc0 := 11) (pc' := 31) rfl (hb hby own_d_jdk_56_method_3_code_11) rfl ((if0 _ _).trans (teq rfl).1) (by decide) (by decide) ?_
    show Steps p.tables e below (T2.setTop (mkF m 31 #[.val (.ref a), .unset] [])) _
    refine XS.aloadN X2.here hx rfl (hb hby own_d_jdk_56_method_3_code_31) rfl rfl ?_
    show Steps p.tables e below (T2.setTop (mkF m 32 #[.val (.ref a), .unset] [(.ref a)])) _
    refine st3.trans ?_
    show Steps p.tables e below (T3.setTop (mkF m 37 #[.val (.ref a), .unset] [(.int (0 : Int32))])) _
    refine XS.ifYes X3.here hx rfl (pc0 := 37) (pc' := 44) rfl (hb hby own_d_jdk_56_method_3_code_37) rfl ((if0 _ _).trans (teq rfl).1) (by decide) (by decide) ?_
    show Steps p.tables e below (T3.setTop (mkF m 44 #[.val (.ref a), .unset] [])) _
    refine XS.aloadN X3.here hx rfl (hb hby own_d_jdk_56_method_3_code_44) rfl rfl ?_
    show Steps p.tables e below (T3.setTop (mkF m 45 #[.val (.ref a), .unset] [(.ref a)])) _
    refine st4.trans ?_
    show Steps p.tables e below (T4.setTop (mkF m 50 #[.val (.ref a), .unset] [(.ref b_4)])) _
    refine st11 _ ?_
    show Steps p.tables e below (T11.setTop (mkF m 53 #[.val (.ref a), .unset] [(.ref b_11)])) _
    exact retOut X11 hx (t := (.object "java/util/List")) Bd.returns rfl (Or.inr (Or.inr (Or.inr (Or.inr ⟨rfl, rfl, rfl⟩)))) (hb hby own_d_jdk_56_method_3_code_53) hr
  · show Q_own_lc_al1 Z a ar ka x mr em h0 n0 _ T11.heap _
    exact ⟨b_11, rfl, N11, K18, b17, po11_1, po11_2, po11_3, po11_4⟩
theorem own_pn_own_cpl_al1 : plainName "java/util/List" = true := by first | (simp [plainName, overriddenIn]; done) | decide +kernel
theorem own_ef_own_cpl_al1 (m : MethodId) (a : Addr) : entryFrame m #[(.ref a)] 1 = mkF m 0 #[.val (.ref a)] [] := by first | (simp [entryFrame, mkF, argsToLocals, own_cI, own_cJ, own_cR, own_cN]; done) | rfl
abbrev own_F_own_cpl_al1 (m : MethodId) (a : Addr) : JFrame := entryFrame m #[(.ref a)] 1
def Q_own_cpl_al1 (Z : State) (a : Addr) (ar : Addr) (ka : ClassId) (x : Addr) (mr : Addr) (em : Addr) (h0 : Heap) (n0 : Nat) (v : Option Value) (h : Heap) (L : List Loc) : Prop := ∃ (b : Addr), v = some (.ref b) ∧ Fr n0 L ∧ Keep h0 h [] ∧ (h0.size ≤ b) ∧ (n0 ≤ b) ∧ (Exa Z h b "java/util/ImmutableCollections$List12") ∧ (Fld Z h b "java/util/ImmutableCollections$List12" "e0" "Ljava/lang/Object;" (.ref x)) ∧ (Fld Z h b "java/util/ImmutableCollections$List12" "e1" "Ljava/lang/Object;" (.ref em))
set_option maxRecDepth 65536 in
set_option maxHeartbeats 40000000 in
theorem own_cpl_al1 (l : Launch) (Z : State) (a0 : Array Value) (hw : ∀ d ∈ tables_1, d.before a0 Z = true) (ws : List Jvm.Cond) (a : Addr) (ar : Addr) (ka : ClassId) (x : Addr) (mr : Addr) (em : Addr) (h0 : Heap) (n0 : Nat) (O0 : Old Z n0 h0) (hp0 : Exa Z h0 a "java/util/ArrayList") (hp1 : Fld Z h0 a "java/util/ArrayList" "elementData" "[Ljava/lang/Object;" (.ref ar)) (hp2 : Fld Z h0 a "java/util/ArrayList" "size" "I" (.int (1 : Int32))) (hp3 : Arv Z h0 ar ka (.object "java/lang/Object") (10 : Int32) [(.ref x), .null, .null, .null, .null, .null, .null, .null, .null, .null] .null) (hp4 : Exa Z h0 ar "[Ljava/lang/Object;") (hp5 : Exa Z h0 x "com/example/myna/myna/orders/OrderLine") (hMir : own_Mir Z "[Ljava/lang/Object;" mr) (hp7 : Sta Z Z.heap "java/util/ImmutableCollections" "EMPTY" "Ljava/lang/Object;" (.ref em)) :
    MetFree l (⟨"java/util/List", "copyOf", "(Ljava/util/Collection;)Ljava/util/List;"⟩ : MethodName) (head1 (Jvm.Cond.code (⟨"java/util/List", "copyOf", "(Ljava/util/Collection;)Ljava/util/List;"⟩ : MethodName) jdk_40_method_48_code 1 (some (.object "java/util/List")) :: ws) ({ frames := 7, cells := 2, slots := 3, locals := 113 } : Room)) (fun aa_ U_ => aa_ = #[(.ref a)] ∧ Z.Warmed39 U_.vm ∧ U_.heap = h0) (fun _ _ _ _ _ => True) (fun _ U_ o_ V_ => ∃ v_ L_, o_ = .returned v_ ∧ Q_own_cpl_al1 Z a ar ka x mr em h0 n0 v_ V_.heap L_ ∧ FrameEnd U_ o_ V_ L_ ({ frames := 7, cells := 2, slots := 3, locals := 113 } : Room).cells ({ frames := 7, cells := 2, slots := 3, locals := 113 } : Room).slots) := by
  refine MetFree.of_bodySF (plainFor_of_name own_pn_own_cpl_al1) hisR ?_
  intro p e s m args below meth c s₁ Bd hml0 hP hK
  obtain ⟨rfl, hZ, hh⟩ := hP
  have hx := Bd.exec
  have hby := Bd.bytes
  have hml : c.maxLocals = 1 := hml0
  have hown : s.vm.findClass "java/util/List" = some m.cls := findClass_of_methodNamed Bd.named
  have hnm := (name_of_methodNamed Bd.named Bd.method).1
  have X0 : Stand p l e ({ frames := 7, cells := 2, slots := 3, locals := 113 } : Room) s m #[(.ref a)] below meth c s₁ [] 0 0 := Stand.of_body Bd
  have e0 : s₁.heap = h0 := by rw [← hh, Bd.state]; rfl
  have N0 := Fr.nil n0
  have K0 : Keep h0 h0 [] := Keep.refl _ _
  have r0 : GoTo p.tables e below s₁ (own_F_own_cpl_al1 m a) s₁ (mkF m 0 #[.val (.ref a)] []) := fun tt_ kk_ => castTop (own_ef_own_cpl_al1 m a) kk_
  obtain ⟨_, _, ⟨T1, L1, k1, n1⟩, -, X1, ⟨Lc1, hQ1, l1, y1, z1⟩, st1⟩ := Jvm.LawKit.callS X0 hx (y := (⟨"java/util/ImmutableCollections", "listCopy", "(Ljava/util/Collection;)Ljava/util/List;"⟩ : MethodName)) hown (mvT hZ (hw _ (List.mem_of_getElem? (i := 121) rfl))) (mvT hZ (hw _ (List.mem_of_getElem? (i := 122) rfl))) (mvT hZ (hw _ (List.mem_of_getElem? (i := 123) rfl))) (mvT hZ (hw _ (List.mem_of_getElem? (i := 124) rfl))) (by decide) (backOf (W := 0) (own_lc_al1 l Z a0 hw [] (a) (ar) (ka) (x) (mr) (em) h0 n0 (O0.keep K0 all0) (hp0) (hp1) (hp2) (hp3) (hp4) (hp5) (hMir) (hp7)) hZ (hw _ (List.mem_of_getElem? (i := 124) rfl)) (hw _ (List.mem_of_getElem? (i := 123) rfl)) (by decide) (by decide)) (g := (mkF m 1 #[.val (.ref a)] [(.ref a)])) rfl (by rw [hml]; rfl) (argsL := [(.ref a)]) (rest := []) (lenOf own_pd11 rfl) rfl (by show 2 * 0 + _ ≤ _; exact Nat.le_of_eq rfl) (hb hby own_d_jdk_40_method_48_code_1) (fun _ _ => ⟨rfl, e0, (by decide : 0 + 2 ≤ _), (by decide : 0 + 3 ≤ _)⟩)
  dsimp only [Pt.U, Pt.locs, Pt.cells, Pt.slots] at X1 l1 y1 z1 st1 hQ1
  subst l1 y1 z1
  obtain ⟨b_1, rfl, Nq1, Kq1, po1_0, po1_1, po1_2, po1_3, po1_4⟩ := hQ1
  have N1 := Fr.app N0 Nq1
  have ne2 : a ≠ b_1 := Nat.ne_of_lt (Nat.lt_of_lt_of_le hp0.lt po1_0)
  have ne3 : ar ≠ b_1 := Nat.ne_of_lt (Nat.lt_of_lt_of_le hp3.lt po1_0)
  have ne4 : x ≠ b_1 := Nat.ne_of_lt (Nat.lt_of_lt_of_le hp5.lt po1_0)
  have g5 : n0 ≤ b_1 := Nat.le_trans (Nat.le_trans (own_le O0) K0.1) po1_0
  have b6 : h0.size ≤ b_1 := Nat.le_trans K0.1 po1_0
  have K7 : Keep h0 T1.heap [] := K0.trans Kq1 all0
  obtain ⟨fs, hr, hrun, hended, hW, hsame⟩ := X1.leave (v := some (.ref b_1)) (fun h => by rw [Bd.returns] at h; cases h)
  refine ⟨_, _, r0 _ ?_, hrun, hended, _, _, rfl, ?_, ⟨_, rfl⟩, hW, hsame.mono (by decide) (by decide)⟩
  · show Steps p.tables e below (s₁.setTop (mkF m 0 #[.val (.ref a)] [])) _
    refine XS.aloadN X0.here hx rfl (hb hby own_d_jdk_40_method_48_code_0) rfl rfl ?_
    show Steps p.tables e below (s₁.setTop (mkF m 1 #[.val (.ref a)] [(.ref a)])) _
    refine st1 _ ?_
    show Steps p.tables e below (T1.setTop (mkF m 4 #[.val (.ref a)] [(.ref b_1)])) _
    exact retOut X1 hx (t := (.object "java/util/List")) Bd.returns rfl (Or.inr (Or.inr (Or.inr (Or.inr ⟨rfl, rfl, rfl⟩)))) (hb hby own_d_jdk_40_method_48_code_4) hr
  · show Q_own_cpl_al1 Z a ar ka x mr em h0 n0 _ T1.heap _
    exact ⟨b_1, rfl, N1, K7, b6, po1_1, po1_2, po1_3, po1_4⟩
theorem own_pn_own_lc_al0 : plainName "java/util/ImmutableCollections" = true := by first | (simp [plainName, overriddenIn]; done) | decide +kernel
theorem own_ef_own_lc_al0 (m : MethodId) (a : Addr) : entryFrame m #[(.ref a)] 2 = mkF m 0 #[.val (.ref a), .unset] [] := by first | (simp [entryFrame, mkF, argsToLocals, own_cI, own_cJ, own_cR, own_cN]; done) | rfl
abbrev own_F_own_lc_al0 (m : MethodId) (a : Addr) : JFrame := entryFrame m #[(.ref a)] 2
def Q_own_lc_al0 (Z : State) (a : Addr) (el : Addr) (h0 : Heap) (n0 : Nat) (v : Option Value) (h : Heap) (L : List Loc) : Prop := v = some (.ref el) ∧ Fr n0 L ∧ h = h0
set_option maxRecDepth 65536 in
set_option maxHeartbeats 40000000 in
theorem own_lc_al0 (l : Launch) (Z : State) (a0 : Array Value) (hw : ∀ d ∈ tables_1, d.before a0 Z = true) (ws : List Jvm.Cond) (a : Addr) (el : Addr) (h0 : Heap) (n0 : Nat) (O0 : Old Z n0 h0) (hp0 : Exa Z h0 a "java/util/ArrayList") (hp1 : Fld Z h0 a "java/util/ArrayList" "size" "I" (.int (0 : Int32))) (hp2 : Sta Z Z.heap "java/util/ImmutableCollections" "EMPTY_LIST" "Ljava/util/ImmutableCollections$ListN;" (.ref el)) :
    MetFree l (⟨"java/util/ImmutableCollections", "listCopy", "(Ljava/util/Collection;)Ljava/util/List;"⟩ : MethodName) (head1 (Jvm.Cond.code (⟨"java/util/ImmutableCollections", "listCopy", "(Ljava/util/Collection;)Ljava/util/List;"⟩ : MethodName) jdk_56_method_3_code 2 (some (.object "java/util/List")) :: ws) ({ frames := 1, cells := 0, slots := 0, locals := 12 } : Room)) (fun aa_ U_ => aa_ = #[(.ref a)] ∧ Z.Warmed39 U_.vm ∧ U_.heap = h0) (fun _ _ _ _ _ => True) (fun _ U_ o_ V_ => ∃ v_ L_, o_ = .returned v_ ∧ Q_own_lc_al0 Z a el h0 n0 v_ V_.heap L_ ∧ FrameEnd U_ o_ V_ L_ ({ frames := 1, cells := 0, slots := 0, locals := 12 } : Room).cells ({ frames := 1, cells := 0, slots := 0, locals := 12 } : Room).slots) := by
  refine MetFree.of_bodySF (plainFor_of_name own_pn_own_lc_al0) hisR ?_
  intro p e s m args below meth c s₁ Bd hml0 hP hK
  obtain ⟨rfl, hZ, hh⟩ := hP
  have hx := Bd.exec
  have hby := Bd.bytes
  have hml : c.maxLocals = 2 := hml0
  have hown : s.vm.findClass "java/util/ImmutableCollections" = some m.cls := findClass_of_methodNamed Bd.named
  have hnm := (name_of_methodNamed Bd.named Bd.method).1
  have X0 : Stand p l e ({ frames := 1, cells := 0, slots := 0, locals := 12 } : Room) s m #[(.ref a)] below meth c s₁ [] 0 0 := Stand.of_body Bd
  have e0 : s₁.heap = h0 := by rw [← hh, Bd.state]; rfl
  have N0 := Fr.nil n0
  have K0 : Keep h0 h0 [] := Keep.refl _ _
  have r0 : GoTo p.tables e below s₁ (own_F_own_lc_al0 m a) s₁ (mkF m 0 #[.val (.ref a), .unset] []) := fun tt_ kk_ => castTop (own_ef_own_lc_al0 m a) kk_
  obtain ⟨T1, X1, e1, st1⟩ := instNo X0 hx hZ hown (hw _ (List.mem_of_getElem? (i := 125) rfl)) e0 hp0 (own_NSno (hw _ (List.mem_of_getElem? (i := 126) rfl)) (hw _ (List.mem_of_getElem? (i := 174) rfl)) (NS.step (hw _ (List.mem_of_getElem? (i := 126) rfl)) (NS.step (hw _ (List.mem_of_getElem? (i := 127) rfl)) (NS.step (hw _ (List.mem_of_getElem? (i := 128) rfl)) (own_NSroot (hw _ (List.mem_of_getElem? (i := 129) rfl)) (hw _ (List.mem_of_getElem? (i := 174) rfl)) (by decide)) (by decide)) (by decide)) (by decide)) (by decide)) (g := (mkF m 1 #[.val (.ref a), .unset] [(.ref a)])) rfl rfl (hb hby own_d_jdk_56_method_3_code_1)
  obtain ⟨T2, X2, e2, st2⟩ := instNo X1 hx hZ hown (hw _ (List.mem_of_getElem? (i := 130) rfl)) e1 hp0 (NS.no (hw _ (List.mem_of_getElem? (i := 126) rfl)) (hw _ (List.mem_of_getElem? (i := 232) rfl)) (NS.step (hw _ (List.mem_of_getElem? (i := 126) rfl)) (NS.step (hw _ (List.mem_of_getElem? (i := 127) rfl)) (NS.step (hw _ (List.mem_of_getElem? (i := 128) rfl)) (NS.root (hw _ (List.mem_of_getElem? (i := 129) rfl)) (hw _ (List.mem_of_getElem? (i := 232) rfl)) (by decide)) (by decide)) (by decide)) (by decide)) (by decide)) (g := (mkF m 8 #[.val (.ref a), .unset] [(.ref a)])) rfl rfl (hb hby own_d_jdk_56_method_3_code_8)
  obtain ⟨cq3, kq3, qa3, qb3, qc3⟩ := isOf hZ e2 hp0
  obtain ⟨_, _, ⟨T3, L3, k3, n3⟩, -, X3, ⟨Lc3, hQ3, l3, y3, z3⟩, st3⟩ := X2.interfaceBack hx (xi := (⟨"java/util/Collection", "isEmpty", "()Z"⟩ : MethodName)) (y := (⟨"java/util/ArrayList", "isEmpty", "()Z"⟩ : MethodName)) hown (mvT hZ (hw _ (List.mem_of_getElem? (i := 131) rfl))) (mvT hZ (hw _ (List.mem_of_getElem? (i := 132) rfl))) (mvT hZ (hw _ (List.mem_of_getElem? (i := 133) rfl))) (mvT hZ (hw _ (List.mem_of_getElem? (i := 134) rfl))) (mvT hZ (hw _ (List.mem_of_getElem? (i := 135) rfl))) (mvT hZ (hw _ (List.mem_of_getElem? (i := 136) rfl))) (mvT hZ (hw _ (List.mem_of_getElem? (i := 137) rfl))) (mvT hZ (hw _ (List.mem_of_getElem? (i := 138) rfl))) (by decide) (backOf (W := 0) (own_isEmpty0 l Z a0 hw [] (a) h0 n0 (O0.keep K0 all0) (hp1)) hZ (hw _ (List.mem_of_getElem? (i := 139) rfl)) (hw _ (List.mem_of_getElem? (i := 57) rfl)) (by decide) (by decide)) qa3 qb3 qc3 (g := (mkF m 32 #[.val (.ref a), .unset] [(.ref a)])) rfl (by rw [hml]; rfl) (Steps.refl _) (argsL := []) (rest := []) (lenOf own_pd9 rfl) rfl (by show 2 * 0 + _ ≤ _; exact Nat.le_of_eq rfl) (hb hby own_d_jdk_56_method_3_code_32) (fun _ _ => ⟨rfl, e2, (by decide : 0 + 0 ≤ _), (by decide : 0 + 0 ≤ _)⟩)
  dsimp only [Pt.U, Pt.locs, Pt.cells, Pt.slots] at X3 l3 y3 z3 st3 hQ3
  subst l3 y3 z3
  obtain ⟨rfl, Nq3, hh3⟩ := hQ3
  have N3 := Fr.app N0 Nq3
  obtain ⟨_, _, ⟨T4, L4, k4, n4⟩, -, X4, ⟨Lc4, hQ4, l4, y4, z4⟩, st4⟩ := Jvm.LawKit.callS X3 hx (y := (⟨"java/util/List", "of", "()Ljava/util/List;"⟩ : MethodName)) hown (mvT hZ (hw _ (List.mem_of_getElem? (i := 203) rfl))) (mvT hZ (hw _ (List.mem_of_getElem? (i := 204) rfl))) (mvT hZ (hw _ (List.mem_of_getElem? (i := 119) rfl))) (mvT hZ (hw _ (List.mem_of_getElem? (i := 205) rfl))) (by decide) (backOf (W := 0) (own_of0 l Z a0 hw [] (el) h0 n0 (O0.keep K0 all0) (hp2)) hZ (hw _ (List.mem_of_getElem? (i := 205) rfl)) (hw _ (List.mem_of_getElem? (i := 119) rfl)) (by decide) (by decide)) (g := (mkF m 40 #[.val (.ref a), .unset] [])) rfl (by rw [hml]; rfl) (argsL := []) (rest := []) (lenOf own_pd12 rfl) rfl (by show 2 * 0 + _ ≤ _; exact Nat.le_of_eq rfl) (hb hby own_d_jdk_56_method_3_code_40) (fun _ _ => ⟨rfl, hh3, (by decide : 0 + 0 ≤ _), (by decide : 0 + 0 ≤ _)⟩)
  dsimp only [Pt.U, Pt.locs, Pt.cells, Pt.slots] at X4 l4 y4 z4 st4 hQ4
  subst l4 y4 z4
  obtain ⟨rfl, Nq4, hh4⟩ := hQ4
  have N4 := Fr.app N3 Nq4
  obtain ⟨fs, hr, hrun, hended, hW, hsame⟩ := X4.leave (v := some (.ref el)) (fun h => by rw [Bd.returns] at h; cases h)
  refine ⟨_, _, r0 _ ?_, hrun, hended, _, _, rfl, ?_, ⟨_, rfl⟩, hW, hsame.mono (by decide) (by decide)⟩
  · show Steps p.tables e below (s₁.setTop (mkF m 0 #[.val (.ref a), .unset] [])) _
    refine XS.aloadN X0.here hx rfl (hb hby own_d_jdk_56_method_3_code_0) rfl rfl ?_
    show Steps p.tables e below (s₁.setTop (mkF m 1 #[.val (.ref a), .unset] [(.ref a)])) _
    refine st1 _ ?_
    show Steps p.tables e below (T1.setTop (mkF m 4 #[.val (.ref a), .unset] [(.int (0 : Int32))])) _
    refine XS.ifNo X1.here hx rfl (hb hby own_d_jdk_56_method_3_code_4) rfl ((if0 _ _).trans (teq rfl).2) ?_
    show Steps p.tables e below (T1.setTop (mkF m 7 #[.val (.ref a), .unset] [])) _
    refine XS.aloadN X1.here hx rfl (hb hby own_d_jdk_56_method_3_code_7) rfl rfl ?_
    show Steps p.tables e below (T1.setTop (mkF m 8 #[.val (.ref a), .unset] [(.ref a)])) _
    refine st2 _ ?_
    show Steps p.tables e below (T2.setTop (mkF m 11 #[.val (.ref a), .unset] [(.int (0 : Int32))])) _
    refine XS.ifYes X2.here hx rfl (pc0 := 11) (pc' := 31) rfl (hb hby own_d_jdk_56_method_3_code_11) rfl ((if0 _ _).trans (teq rfl).1) (by decide) (by decide) ?_
    show Steps p.tables e below (T2.setTop (mkF m 31 #[.val (.ref a), .unset] [])) _
    refine XS.aloadN X2.here hx rfl (hb hby own_d_jdk_56_method_3_code_31) rfl rfl ?_
    show Steps p.tables e below (T2.setTop (mkF m 32 #[.val (.ref a), .unset] [(.ref a)])) _
    refine st3.trans ?_
    show Steps p.tables e below (T3.setTop (mkF m 37 #[.val (.ref a), .unset] [(.int (1 : Int32))])) _
    refine XS.ifNo X3.here hx rfl (hb hby own_d_jdk_56_method_3_code_37) rfl ((if0 _ _).trans (feq (by decide)).1) ?_
    show Steps p.tables e below (T3.setTop (mkF m 40 #[.val (.ref a), .unset] [])) _
    refine st4 _ ?_
    show Steps p.tables e below (T4.setTop (mkF m 43 #[.val (.ref a), .unset] [(.ref el)])) _
    exact retOut X4 hx (t := (.object "java/util/List")) Bd.returns rfl (Or.inr (Or.inr (Or.inr (Or.inr ⟨rfl, rfl, rfl⟩)))) (hb hby own_d_jdk_56_method_3_code_43) hr
  · show Q_own_lc_al0 Z a el h0 n0 _ T4.heap _
    rw [hh4]
    exact ⟨rfl, N4, rfl⟩
theorem own_pn_own_cpl_al0 : plainName "java/util/List" = true := by first | (simp [plainName, overriddenIn]; done) | decide +kernel
theorem own_ef_own_cpl_al0 (m : MethodId) (a : Addr) : entryFrame m #[(.ref a)] 1 = mkF m 0 #[.val (.ref a)] [] := by first | (simp [entryFrame, mkF, argsToLocals, own_cI, own_cJ, own_cR, own_cN]; done) | rfl
abbrev own_F_own_cpl_al0 (m : MethodId) (a : Addr) : JFrame := entryFrame m #[(.ref a)] 1
def Q_own_cpl_al0 (Z : State) (a : Addr) (el : Addr) (h0 : Heap) (n0 : Nat) (v : Option Value) (h : Heap) (L : List Loc) : Prop := v = some (.ref el) ∧ Fr n0 L ∧ h = h0
set_option maxRecDepth 65536 in
set_option maxHeartbeats 40000000 in
theorem own_cpl_al0 (l : Launch) (Z : State) (a0 : Array Value) (hw : ∀ d ∈ tables_1, d.before a0 Z = true) (ws : List Jvm.Cond) (a : Addr) (el : Addr) (h0 : Heap) (n0 : Nat) (O0 : Old Z n0 h0) (hp0 : Exa Z h0 a "java/util/ArrayList") (hp1 : Fld Z h0 a "java/util/ArrayList" "size" "I" (.int (0 : Int32))) (hp2 : Sta Z Z.heap "java/util/ImmutableCollections" "EMPTY_LIST" "Ljava/util/ImmutableCollections$ListN;" (.ref el)) :
    MetFree l (⟨"java/util/List", "copyOf", "(Ljava/util/Collection;)Ljava/util/List;"⟩ : MethodName) (head1 (Jvm.Cond.code (⟨"java/util/List", "copyOf", "(Ljava/util/Collection;)Ljava/util/List;"⟩ : MethodName) jdk_40_method_48_code 1 (some (.object "java/util/List")) :: ws) ({ frames := 2, cells := 0, slots := 0, locals := 25 } : Room)) (fun aa_ U_ => aa_ = #[(.ref a)] ∧ Z.Warmed39 U_.vm ∧ U_.heap = h0) (fun _ _ _ _ _ => True) (fun _ U_ o_ V_ => ∃ v_ L_, o_ = .returned v_ ∧ Q_own_cpl_al0 Z a el h0 n0 v_ V_.heap L_ ∧ FrameEnd U_ o_ V_ L_ ({ frames := 2, cells := 0, slots := 0, locals := 25 } : Room).cells ({ frames := 2, cells := 0, slots := 0, locals := 25 } : Room).slots) := by
  refine MetFree.of_bodySF (plainFor_of_name own_pn_own_cpl_al0) hisR ?_
  intro p e s m args below meth c s₁ Bd hml0 hP hK
  obtain ⟨rfl, hZ, hh⟩ := hP
  have hx := Bd.exec
  have hby := Bd.bytes
  have hml : c.maxLocals = 1 := hml0
  have hown : s.vm.findClass "java/util/List" = some m.cls := findClass_of_methodNamed Bd.named
  have hnm := (name_of_methodNamed Bd.named Bd.method).1
  have X0 : Stand p l e ({ frames := 2, cells := 0, slots := 0, locals := 25 } : Room) s m #[(.ref a)] below meth c s₁ [] 0 0 := Stand.of_body Bd
  have e0 : s₁.heap = h0 := by rw [← hh, Bd.state]; rfl
  have N0 := Fr.nil n0
  have K0 : Keep h0 h0 [] := Keep.refl _ _
  have r0 : GoTo p.tables e below s₁ (own_F_own_cpl_al0 m a) s₁ (mkF m 0 #[.val (.ref a)] []) := fun tt_ kk_ => castTop (own_ef_own_cpl_al0 m a) kk_
  obtain ⟨_, _, ⟨T1, L1, k1, n1⟩, -, X1, ⟨Lc1, hQ1, l1, y1, z1⟩, st1⟩ := Jvm.LawKit.callS X0 hx (y := (⟨"java/util/ImmutableCollections", "listCopy", "(Ljava/util/Collection;)Ljava/util/List;"⟩ : MethodName)) hown (mvT hZ (hw _ (List.mem_of_getElem? (i := 121) rfl))) (mvT hZ (hw _ (List.mem_of_getElem? (i := 122) rfl))) (mvT hZ (hw _ (List.mem_of_getElem? (i := 123) rfl))) (mvT hZ (hw _ (List.mem_of_getElem? (i := 124) rfl))) (by decide) (backOf (W := 0) (own_lc_al0 l Z a0 hw [] (a) (el) h0 n0 (O0.keep K0 all0) (hp0) (hp1) (hp2)) hZ (hw _ (List.mem_of_getElem? (i := 124) rfl)) (hw _ (List.mem_of_getElem? (i := 123) rfl)) (by decide) (by decide)) (g := (mkF m 1 #[.val (.ref a)] [(.ref a)])) rfl (by rw [hml]; rfl) (argsL := [(.ref a)]) (rest := []) (lenOf own_pd11 rfl) rfl (by show 2 * 0 + _ ≤ _; exact Nat.le_of_eq rfl) (hb hby own_d_jdk_40_method_48_code_1) (fun _ _ => ⟨rfl, e0, (by decide : 0 + 0 ≤ _), (by decide : 0 + 0 ≤ _)⟩)
  dsimp only [Pt.U, Pt.locs, Pt.cells, Pt.slots] at X1 l1 y1 z1 st1 hQ1
  subst l1 y1 z1
  obtain ⟨rfl, Nq1, hh1⟩ := hQ1
  have N1 := Fr.app N0 Nq1
  obtain ⟨fs, hr, hrun, hended, hW, hsame⟩ := X1.leave (v := some (.ref el)) (fun h => by rw [Bd.returns] at h; cases h)
  refine ⟨_, _, r0 _ ?_, hrun, hended, _, _, rfl, ?_, ⟨_, rfl⟩, hW, hsame.mono (by decide) (by decide)⟩
  · show Steps p.tables e below (s₁.setTop (mkF m 0 #[.val (.ref a)] [])) _
    refine XS.aloadN X0.here hx rfl (hb hby own_d_jdk_40_method_48_code_0) rfl rfl ?_
    show Steps p.tables e below (s₁.setTop (mkF m 1 #[.val (.ref a)] [(.ref a)])) _
    refine st1 _ ?_
    show Steps p.tables e below (T1.setTop (mkF m 4 #[.val (.ref a)] [(.ref el)])) _
    exact retOut X1 hx (t := (.object "java/util/List")) Bd.returns rfl (Or.inr (Or.inr (Or.inr (Or.inr ⟨rfl, rfl, rfl⟩)))) (hb hby own_d_jdk_40_method_48_code_4) hr
  · show Q_own_cpl_al0 Z a el h0 n0 _ T1.heap _
    rw [hh1]
    exact ⟨rfl, N1, rfl⟩
theorem own_pn_own_lc_l12 : plainName "java/util/ImmutableCollections" = true := by first | (simp [plainName, overriddenIn]; done) | decide +kernel
theorem own_ef_own_lc_l12 (m : MethodId) (a : Addr) : entryFrame m #[(.ref a)] 2 = mkF m 0 #[.val (.ref a), .unset] [] := by first | (simp [entryFrame, mkF, argsToLocals, own_cI, own_cJ, own_cR, own_cN]; done) | rfl
abbrev own_F_own_lc_l12 (m : MethodId) (a : Addr) : JFrame := entryFrame m #[(.ref a)] 2
def Q_own_lc_l12 (Z : State) (a : Addr) (h0 : Heap) (n0 : Nat) (v : Option Value) (h : Heap) (L : List Loc) : Prop := v = some (.ref a) ∧ Fr n0 L ∧ h = h0
set_option maxRecDepth 65536 in
set_option maxHeartbeats 40000000 in
theorem own_lc_l12 (l : Launch) (Z : State) (a0 : Array Value) (hw : ∀ d ∈ tables_1, d.before a0 Z = true) (ws : List Jvm.Cond) (a : Addr) (h0 : Heap) (n0 : Nat) (O0 : Old Z n0 h0) (hp0 : Exa Z h0 a "java/util/ImmutableCollections$List12") :
    MetFree l (⟨"java/util/ImmutableCollections", "listCopy", "(Ljava/util/Collection;)Ljava/util/List;"⟩ : MethodName) (head1 (Jvm.Cond.code (⟨"java/util/ImmutableCollections", "listCopy", "(Ljava/util/Collection;)Ljava/util/List;"⟩ : MethodName) jdk_56_method_3_code 2 (some (.object "java/util/List")) :: ws) ({ frames := 0, cells := 0, slots := 0, locals := 0 } : Room)) (fun aa_ U_ => aa_ = #[(.ref a)] ∧ Z.Warmed39 U_.vm ∧ U_.heap = h0) (fun _ _ _ _ _ => True) (fun _ U_ o_ V_ => ∃ v_ L_, o_ = .returned v_ ∧ Q_own_lc_l12 Z a h0 n0 v_ V_.heap L_ ∧ FrameEnd U_ o_ V_ L_ ({ frames := 0, cells := 0, slots := 0, locals := 0 } : Room).cells ({ frames := 0, cells := 0, slots := 0, locals := 0 } : Room).slots) := by
  refine MetFree.of_bodySF (plainFor_of_name own_pn_own_lc_l12) hisR ?_
  intro p e s m args below meth c s₁ Bd hml0 hP hK
  obtain ⟨rfl, hZ, hh⟩ := hP
  have hx := Bd.exec
  have hby := Bd.bytes
  have hml : c.maxLocals = 2 := hml0
  have hown : s.vm.findClass "java/util/ImmutableCollections" = some m.cls := findClass_of_methodNamed Bd.named
  have hnm := (name_of_methodNamed Bd.named Bd.method).1
  have X0 : Stand p l e ({ frames := 0, cells := 0, slots := 0, locals := 0 } : Room) s m #[(.ref a)] below meth c s₁ [] 0 0 := Stand.of_body Bd
  have e0 : s₁.heap = h0 := by rw [← hh, Bd.state]; rfl
  have N0 := Fr.nil n0
  have K0 : Keep h0 h0 [] := Keep.refl _ _
  have r0 : GoTo p.tables e below s₁ (own_F_own_lc_l12 m a) s₁ (mkF m 0 #[.val (.ref a), .unset] []) := fun tt_ kk_ => castTop (own_ef_own_lc_l12 m a) kk_
  obtain ⟨T1, X1, e1, st1⟩ := instY X0 hx hZ hown (hw _ (List.mem_of_getElem? (i := 125) rfl)) e0 (Ins.self hp0) (g := (mkF m 1 #[.val (.ref a), .unset] [(.ref a)])) rfl rfl (hb hby own_d_jdk_56_method_3_code_1)
  obtain ⟨T2, X2, e2, st2⟩ := castY X1 hx hZ hown (hw _ (List.mem_of_getElem? (i := 230) rfl)) e1 (Ins.of_exa hp0 (hw _ (List.mem_of_getElem? (i := 231) rfl))) (g := (mkF m 27 #[.val (.ref a), .unset] [(.ref a)])) rfl rfl (hb hby own_d_jdk_56_method_3_code_27)
  obtain ⟨fs, hr, hrun, hended, hW, hsame⟩ := X2.leave (v := some (.ref a)) (fun h => by rw [Bd.returns] at h; cases h)
  refine ⟨_, _, r0 _ ?_, hrun, hended, _, _, rfl, ?_, ⟨_, rfl⟩, hW, hsame.mono (by decide) (by decide)⟩
  · show Steps p.tables e below (s₁.setTop (mkF m 0 #[.val (.ref a), .unset] [])) _
    refine XS.aloadN X0.here hx rfl (hb hby own_d_jdk_56_method_3_code_0) rfl rfl ?_
    show Steps p.tables e below (s₁.setTop (mkF m 1 #[.val (.ref a), .unset] [(.ref a)])) _
    refine st1 _ ?_
    show Steps p.tables e below (T1.setTop (mkF m 4 #[.val (.ref a), .unset] [(.int (1 : Int32))])) _
    refine XS.ifYes X1.here hx rfl (pc0 := 4) (pc' := 26) rfl (hb hby own_d_jdk_56_method_3_code_4) rfl ((if0 _ _).trans (feq (by decide)).2) (by decide) (by decide) ?_
    show Steps p.tables e below (T1.setTop (mkF m 26 #[.val (.ref a), .unset] [])) _
    refine XS.aloadN X1.here hx rfl (hb hby own_d_jdk_56_method_3_code_26) rfl rfl ?_
    show Steps p.tables e below (T1.setTop (mkF m 27 #[.val (.ref a), .unset] [(.ref a)])) _
    refine st2 _ ?_
    show Steps p.tables e below (T2.setTop (mkF m 30 #[.val (.ref a), .unset] [(.ref a)])) _
    exact retOut X2 hx (t := (.object "java/util/List")) Bd.returns rfl (Or.inr (Or.inr (Or.inr (Or.inr ⟨rfl, rfl, rfl⟩)))) (hb hby own_d_jdk_56_method_3_code_30) hr
  · show Q_own_lc_l12 Z a h0 n0 _ T2.heap _
    rw [e2]
    exact ⟨rfl, N0, rfl⟩
theorem own_pn_own_cpl_l12 : plainName "java/util/List" = true := by first | (simp [plainName, overriddenIn]; done) | decide +kernel
theorem own_ef_own_cpl_l12 (m : MethodId) (a : Addr) : entryFrame m #[(.ref a)] 1 = mkF m 0 #[.val (.ref a)] [] := by first | (simp [entryFrame, mkF, argsToLocals, own_cI, own_cJ, own_cR, own_cN]; done) | rfl
abbrev own_F_own_cpl_l12 (m : MethodId) (a : Addr) : JFrame := entryFrame m #[(.ref a)] 1
def Q_own_cpl_l12 (Z : State) (a : Addr) (h0 : Heap) (n0 : Nat) (v : Option Value) (h : Heap) (L : List Loc) : Prop := v = some (.ref a) ∧ Fr n0 L ∧ h = h0
set_option maxRecDepth 65536 in
set_option maxHeartbeats 40000000 in
theorem own_cpl_l12 (l : Launch) (Z : State) (a0 : Array Value) (hw : ∀ d ∈ tables_1, d.before a0 Z = true) (ws : List Jvm.Cond) (a : Addr) (h0 : Heap) (n0 : Nat) (O0 : Old Z n0 h0) (hp0 : Exa Z h0 a "java/util/ImmutableCollections$List12") :
    MetFree l (⟨"java/util/List", "copyOf", "(Ljava/util/Collection;)Ljava/util/List;"⟩ : MethodName) (head1 (Jvm.Cond.code (⟨"java/util/List", "copyOf", "(Ljava/util/Collection;)Ljava/util/List;"⟩ : MethodName) jdk_40_method_48_code 1 (some (.object "java/util/List")) :: ws) ({ frames := 1, cells := 0, slots := 0, locals := 13 } : Room)) (fun aa_ U_ => aa_ = #[(.ref a)] ∧ Z.Warmed39 U_.vm ∧ U_.heap = h0) (fun _ _ _ _ _ => True) (fun _ U_ o_ V_ => ∃ v_ L_, o_ = .returned v_ ∧ Q_own_cpl_l12 Z a h0 n0 v_ V_.heap L_ ∧ FrameEnd U_ o_ V_ L_ ({ frames := 1, cells := 0, slots := 0, locals := 13 } : Room).cells ({ frames := 1, cells := 0, slots := 0, locals := 13 } : Room).slots) := by
  refine MetFree.of_bodySF (plainFor_of_name own_pn_own_cpl_l12) hisR ?_
  intro p e s m args below meth c s₁ Bd hml0 hP hK
  obtain ⟨rfl, hZ, hh⟩ := hP
  have hx := Bd.exec
  have hby := Bd.bytes
  have hml : c.maxLocals = 1 := hml0
  have hown : s.vm.findClass "java/util/List" = some m.cls := findClass_of_methodNamed Bd.named
  have hnm := (name_of_methodNamed Bd.named Bd.method).1
  have X0 : Stand p l e ({ frames := 1, cells := 0, slots := 0, locals := 13 } : Room) s m #[(.ref a)] below meth c s₁ [] 0 0 := Stand.of_body Bd
  have e0 : s₁.heap = h0 := by rw [← hh, Bd.state]; rfl
  have N0 := Fr.nil n0
  have K0 : Keep h0 h0 [] := Keep.refl _ _
  have r0 : GoTo p.tables e below s₁ (own_F_own_cpl_l12 m a) s₁ (mkF m 0 #[.val (.ref a)] []) := fun tt_ kk_ => castTop (own_ef_own_cpl_l12 m a) kk_
  obtain ⟨_, _, ⟨T1, L1, k1, n1⟩, -, X1, ⟨Lc1, hQ1, l1, y1, z1⟩, st1⟩ := Jvm.LawKit.callS X0 hx (y := (⟨"java/util/ImmutableCollections", "listCopy", "(Ljava/util/Collection;)Ljava/util/List;"⟩ : MethodName)) hown (mvT hZ (hw _ (List.mem_of_getElem? (i := 121) rfl))) (mvT hZ (hw _ (List.mem_of_getElem? (i := 122) rfl))) (mvT hZ (hw _ (List.mem_of_getElem? (i := 123) rfl))) (mvT hZ (hw _ (List.mem_of_getElem? (i := 124) rfl))) (by decide) (backOf (W := 0) (own_lc_l12 l Z a0 hw [] (a) h0 n0 (O0.keep K0 all0) (hp0)) hZ (hw _ (List.mem_of_getElem? (i := 124) rfl)) (hw _ (List.mem_of_getElem? (i := 123) rfl)) (by decide) (by decide)) (g := (mkF m 1 #[.val (.ref a)] [(.ref a)])) rfl (by rw [hml]; rfl) (argsL := [(.ref a)]) (rest := []) (lenOf own_pd11 rfl) rfl (by show 2 * 0 + _ ≤ _; exact Nat.le_of_eq rfl) (hb hby own_d_jdk_40_method_48_code_1) (fun _ _ => ⟨rfl, e0, (by decide : 0 + 0 ≤ _), (by decide : 0 + 0 ≤ _)⟩)
  dsimp only [Pt.U, Pt.locs, Pt.cells, Pt.slots] at X1 l1 y1 z1 st1 hQ1
  subst l1 y1 z1
  obtain ⟨rfl, Nq1, hh1⟩ := hQ1
  have N1 := Fr.app N0 Nq1
  obtain ⟨fs, hr, hrun, hended, hW, hsame⟩ := X1.leave (v := some (.ref a)) (fun h => by rw [Bd.returns] at h; cases h)
  refine ⟨_, _, r0 _ ?_, hrun, hended, _, _, rfl, ?_, ⟨_, rfl⟩, hW, hsame.mono (by decide) (by decide)⟩
  · show Steps p.tables e below (s₁.setTop (mkF m 0 #[.val (.ref a)] [])) _
    refine XS.aloadN X0.here hx rfl (hb hby own_d_jdk_40_method_48_code_0) rfl rfl ?_
    show Steps p.tables e below (s₁.setTop (mkF m 1 #[.val (.ref a)] [(.ref a)])) _
    refine st1 _ ?_
    show Steps p.tables e below (T1.setTop (mkF m 4 #[.val (.ref a)] [(.ref a)])) _
    exact retOut X1 hx (t := (.object "java/util/List")) Bd.returns rfl (Or.inr (Or.inr (Or.inr (Or.inr ⟨rfl, rfl, rfl⟩)))) (hb hby own_d_jdk_40_method_48_code_4) hr
  · show Q_own_cpl_l12 Z a h0 n0 _ T1.heap _
    rw [hh1]
    exact ⟨rfl, N1, rfl⟩
theorem own_pn_own_lc_ln : plainName "java/util/ImmutableCollections" = true := by first | (simp [plainName, overriddenIn]; done) | decide +kernel
theorem own_ef_own_lc_ln (m : MethodId) (el : Addr) : entryFrame m #[(.ref el)] 2 = mkF m 0 #[.val (.ref el), .unset] [] := by first | (simp [entryFrame, mkF, argsToLocals, own_cI, own_cJ, own_cR, own_cN]; done) | rfl
abbrev own_F_own_lc_ln (m : MethodId) (el : Addr) : JFrame := entryFrame m #[(.ref el)] 2
def Q_own_lc_ln (Z : State) (el : Addr) (h0 : Heap) (n0 : Nat) (v : Option Value) (h : Heap) (L : List Loc) : Prop := v = some (.ref el) ∧ Fr n0 L ∧ h = h0
set_option maxRecDepth 65536 in
set_option maxHeartbeats 40000000 in
theorem own_lc_ln (l : Launch) (Z : State) (a0 : Array Value) (hw : ∀ d ∈ tables_1, d.before a0 Z = true) (ws : List Jvm.Cond) (el : Addr) (h0 : Heap) (n0 : Nat) (O0 : Old Z n0 h0) (hp0 : Exa Z Z.heap el "java/util/ImmutableCollections$ListN") (hp1 : Fld Z Z.heap el "java/util/ImmutableCollections$ListN" "allowNulls" "Z" (.int (0 : Int32))) :
    MetFree l (⟨"java/util/ImmutableCollections", "listCopy", "(Ljava/util/Collection;)Ljava/util/List;"⟩ : MethodName) (head1 (Jvm.Cond.code (⟨"java/util/ImmutableCollections", "listCopy", "(Ljava/util/Collection;)Ljava/util/List;"⟩ : MethodName) jdk_56_method_3_code 2 (some (.object "java/util/List")) :: ws) ({ frames := 0, cells := 0, slots := 0, locals := 0 } : Room)) (fun aa_ U_ => aa_ = #[(.ref el)] ∧ Z.Warmed39 U_.vm ∧ U_.heap = h0) (fun _ _ _ _ _ => True) (fun _ U_ o_ V_ => ∃ v_ L_, o_ = .returned v_ ∧ Q_own_lc_ln Z el h0 n0 v_ V_.heap L_ ∧ FrameEnd U_ o_ V_ L_ ({ frames := 0, cells := 0, slots := 0, locals := 0 } : Room).cells ({ frames := 0, cells := 0, slots := 0, locals := 0 } : Room).slots) := by
  refine MetFree.of_bodySF (plainFor_of_name own_pn_own_lc_ln) hisR ?_
  intro p e s m args below meth c s₁ Bd hml0 hP hK
  obtain ⟨rfl, hZ, hh⟩ := hP
  have hx := Bd.exec
  have hby := Bd.bytes
  have hml : c.maxLocals = 2 := hml0
  have hown : s.vm.findClass "java/util/ImmutableCollections" = some m.cls := findClass_of_methodNamed Bd.named
  have hnm := (name_of_methodNamed Bd.named Bd.method).1
  have X0 : Stand p l e ({ frames := 0, cells := 0, slots := 0, locals := 0 } : Room) s m #[(.ref el)] below meth c s₁ [] 0 0 := Stand.of_body Bd
  have e0 : s₁.heap = h0 := by rw [← hh, Bd.state]; rfl
  have N0 := Fr.nil n0
  have K0 : Keep h0 h0 [] := Keep.refl _ _
  have r0 : GoTo p.tables e below s₁ (own_F_own_lc_ln m el) s₁ (mkF m 0 #[.val (.ref el), .unset] []) := fun tt_ kk_ => castTop (own_ef_own_lc_ln m el) kk_
  obtain ⟨T1, X1, e1, st1⟩ := instNo X0 hx hZ hown (hw _ (List.mem_of_getElem? (i := 125) rfl)) e0 (hp0.ext (O0.keep K0 all0).2) (own_NSno (hw _ (List.mem_of_getElem? (i := 232) rfl)) (hw _ (List.mem_of_getElem? (i := 174) rfl)) (NS.step (hw _ (List.mem_of_getElem? (i := 232) rfl)) (NS.step (hw _ (List.mem_of_getElem? (i := 233) rfl)) (NS.step (hw _ (List.mem_of_getElem? (i := 234) rfl)) (NS.step (hw _ (List.mem_of_getElem? (i := 128) rfl)) (own_NSroot (hw _ (List.mem_of_getElem? (i := 129) rfl)) (hw _ (List.mem_of_getElem? (i := 174) rfl)) (by decide)) (by decide)) (by decide)) (by decide)) (by decide)) (by decide)) (g := (mkF m 1 #[.val (.ref el), .unset] [(.ref el)])) rfl rfl (hb hby own_d_jdk_56_method_3_code_1)
  obtain ⟨T2, X2, e2, st2⟩ := instY X1 hx hZ hown (hw _ (List.mem_of_getElem? (i := 130) rfl)) e1 (Ins.self (hp0.ext (O0.keep K0 all0).2)) (g := (mkF m 8 #[.val (.ref el), .unset] [(.ref el)])) rfl rfl (hb hby own_d_jdk_56_method_3_code_8)
  obtain ⟨T3, X3, e3, st3⟩ := castY X2 hx hZ hown (hw _ (List.mem_of_getElem? (i := 130) rfl)) e2 (Ins.self (hp0.ext (O0.keep K0 all0).2)) (g := (mkF m 15 #[.val (.ref el), .unset] [(.ref el)])) rfl rfl (hb hby own_d_jdk_56_method_3_code_15)
  obtain ⟨T4, X4, e4, st4⟩ := getF X3 hx hZ hown (Or.inr (hw _ (List.mem_of_getElem? (i := 236) rfl))) Via.refl e3 (hp1.ext (O0.keep K0 all0).2) (g := (mkF m 20 #[.val (.ref el), .val (.ref el)] [(.ref el)])) rfl rfl (hb hby own_d_jdk_56_method_3_code_20)
  obtain ⟨T5, X5, e5, st5⟩ := castY X4 hx hZ hown (hw _ (List.mem_of_getElem? (i := 230) rfl)) e4 (Ins.of_exa (hp0.ext (O0.keep K0 all0).2) (hw _ (List.mem_of_getElem? (i := 238) rfl))) (g := (mkF m 27 #[.val (.ref el), .val (.ref el)] [(.ref el)])) rfl rfl (hb hby own_d_jdk_56_method_3_code_27)
  obtain ⟨fs, hr, hrun, hended, hW, hsame⟩ := X5.leave (v := some (.ref el)) (fun h => by rw [Bd.returns] at h; cases h)
  refine ⟨_, _, r0 _ ?_, hrun, hended, _, _, rfl, ?_, ⟨_, rfl⟩, hW, hsame.mono (by decide) (by decide)⟩
  · show Steps p.tables e below (s₁.setTop (mkF m 0 #[.val (.ref el), .unset] [])) _
    refine XS.aloadN X0.here hx rfl (hb hby own_d_jdk_56_method_3_code_0) rfl rfl ?_
    show Steps p.tables e below (s₁.setTop (mkF m 1 #[.val (.ref el), .unset] [(.ref el)])) _
    refine st1 _ ?_
    show Steps p.tables e below (T1.setTop (mkF m 4 #[.val (.ref el), .unset] [(.int (0 : Int32))])) _
    refine XS.ifNo X1.here hx rfl (hb hby own_d_jdk_56_method_3_code_4) rfl ((if0 _ _).trans (teq rfl).2) ?_
    show Steps p.tables e below (T1.setTop (mkF m 7 #[.val (.ref el), .unset] [])) _
    refine XS.aloadN X1.here hx rfl (hb hby own_d_jdk_56_method_3_code_7) rfl rfl ?_
    show Steps p.tables e below (T1.setTop (mkF m 8 #[.val (.ref el), .unset] [(.ref el)])) _
    refine st2 _ ?_
    show Steps p.tables e below (T2.setTop (mkF m 11 #[.val (.ref el), .unset] [(.int (1 : Int32))])) _
    refine XS.ifNo X2.here hx rfl (hb hby own_d_jdk_56_method_3_code_11) rfl ((if0 _ _).trans (feq (by decide)).1) ?_
    show Steps p.tables e below (T2.setTop (mkF m 14 #[.val (.ref el), .unset] [])) _
    refine XS.aloadN X2.here hx rfl (hb hby own_d_jdk_56_method_3_code_14) rfl rfl ?_
    show Steps p.tables e below (T2.setTop (mkF m 15 #[.val (.ref el), .unset] [(.ref el)])) _
    refine st3 _ ?_
    show Steps p.tables e below (T3.setTop (mkF m 18 #[.val (.ref el), .unset] [(.ref el)])) _
    refine XS.astoreN X3.here hx rfl (hb hby own_d_jdk_56_method_3_code_18) rfl rfl (l' := #[.val (.ref el), .val (.ref el)]) rfl ?_
    show Steps p.tables e below (T3.setTop (mkF m 19 #[.val (.ref el), .val (.ref el)] [])) _
    refine XS.aloadN X3.here hx rfl (hb hby own_d_jdk_56_method_3_code_19) rfl rfl ?_
    show Steps p.tables e below (T3.setTop (mkF m 20 #[.val (.ref el), .val (.ref el)] [(.ref el)])) _
    refine st4 _ ?_
    show Steps p.tables e below (T4.setTop (mkF m 23 #[.val (.ref el), .val (.ref el)] [(.int (0 : Int32))])) _
    refine XS.ifNo X4.here hx rfl (hb hby own_d_jdk_56_method_3_code_23) rfl ((if0 _ _).trans (teq rfl).2) ?_
    show Steps p.tables e below (T4.setTop (mkF m 26 #[.val (.ref el), .val (.ref el)] [])) _
    refine XS.aloadN X4.here hx rfl (hb hby own_d_jdk_56_method_3_code_26) rfl rfl ?_
    show Steps p.tables e below (T4.setTop (mkF m 27 #[.val (.ref el), .val (.ref el)] [(.ref el)])) _
    refine st5 _ ?_
    show Steps p.tables e below (T5.setTop (mkF m 30 #[.val (.ref el), .val (.ref el)] [(.ref el)])) _
    exact retOut X5 hx (t := (.object "java/util/List")) Bd.returns rfl (Or.inr (Or.inr (Or.inr (Or.inr ⟨rfl, rfl, rfl⟩)))) (hb hby own_d_jdk_56_method_3_code_30) hr
  · show Q_own_lc_ln Z el h0 n0 _ T5.heap _
    rw [e5]
    exact ⟨rfl, N0, rfl⟩
theorem own_pn_own_cpl_ln : plainName "java/util/List" = true := by first | (simp [plainName, overriddenIn]; done) | decide +kernel
theorem own_ef_own_cpl_ln (m : MethodId) (el : Addr) : entryFrame m #[(.ref el)] 1 = mkF m 0 #[.val (.ref el)] [] := by first | (simp [entryFrame, mkF, argsToLocals, own_cI, own_cJ, own_cR, own_cN]; done) | rfl
abbrev own_F_own_cpl_ln (m : MethodId) (el : Addr) : JFrame := entryFrame m #[(.ref el)] 1
def Q_own_cpl_ln (Z : State) (el : Addr) (h0 : Heap) (n0 : Nat) (v : Option Value) (h : Heap) (L : List Loc) : Prop := v = some (.ref el) ∧ Fr n0 L ∧ h = h0
set_option maxRecDepth 65536 in
set_option maxHeartbeats 40000000 in
theorem own_cpl_ln (l : Launch) (Z : State) (a0 : Array Value) (hw : ∀ d ∈ tables_1, d.before a0 Z = true) (ws : List Jvm.Cond) (el : Addr) (h0 : Heap) (n0 : Nat) (O0 : Old Z n0 h0) (hp0 : Exa Z Z.heap el "java/util/ImmutableCollections$ListN") (hp1 : Fld Z Z.heap el "java/util/ImmutableCollections$ListN" "allowNulls" "Z" (.int (0 : Int32))) :
    MetFree l (⟨"java/util/List", "copyOf", "(Ljava/util/Collection;)Ljava/util/List;"⟩ : MethodName) (head1 (Jvm.Cond.code (⟨"java/util/List", "copyOf", "(Ljava/util/Collection;)Ljava/util/List;"⟩ : MethodName) jdk_40_method_48_code 1 (some (.object "java/util/List")) :: ws) ({ frames := 1, cells := 0, slots := 0, locals := 13 } : Room)) (fun aa_ U_ => aa_ = #[(.ref el)] ∧ Z.Warmed39 U_.vm ∧ U_.heap = h0) (fun _ _ _ _ _ => True) (fun _ U_ o_ V_ => ∃ v_ L_, o_ = .returned v_ ∧ Q_own_cpl_ln Z el h0 n0 v_ V_.heap L_ ∧ FrameEnd U_ o_ V_ L_ ({ frames := 1, cells := 0, slots := 0, locals := 13 } : Room).cells ({ frames := 1, cells := 0, slots := 0, locals := 13 } : Room).slots) := by
  refine MetFree.of_bodySF (plainFor_of_name own_pn_own_cpl_ln) hisR ?_
  intro p e s m args below meth c s₁ Bd hml0 hP hK
  obtain ⟨rfl, hZ, hh⟩ := hP
  have hx := Bd.exec
  have hby := Bd.bytes
  have hml : c.maxLocals = 1 := hml0
  have hown : s.vm.findClass "java/util/List" = some m.cls := findClass_of_methodNamed Bd.named
  have hnm := (name_of_methodNamed Bd.named Bd.method).1
  have X0 : Stand p l e ({ frames := 1, cells := 0, slots := 0, locals := 13 } : Room) s m #[(.ref el)] below meth c s₁ [] 0 0 := Stand.of_body Bd
  have e0 : s₁.heap = h0 := by rw [← hh, Bd.state]; rfl
  have N0 := Fr.nil n0
  have K0 : Keep h0 h0 [] := Keep.refl _ _
  have r0 : GoTo p.tables e below s₁ (own_F_own_cpl_ln m el) s₁ (mkF m 0 #[.val (.ref el)] []) := fun tt_ kk_ => castTop (own_ef_own_cpl_ln m el) kk_
  obtain ⟨_, _, ⟨T1, L1, k1, n1⟩, -, X1, ⟨Lc1, hQ1, l1, y1, z1⟩, st1⟩ := Jvm.LawKit.callS X0 hx (y := (⟨"java/util/ImmutableCollections", "listCopy", "(Ljava/util/Collection;)Ljava/util/List;"⟩ : MethodName)) hown (mvT hZ (hw _ (List.mem_of_getElem? (i := 121) rfl))) (mvT hZ (hw _ (List.mem_of_getElem? (i := 122) rfl))) (mvT hZ (hw _ (List.mem_of_getElem? (i := 123) rfl))) (mvT hZ (hw _ (List.mem_of_getElem? (i := 124) rfl))) (by decide) (backOf (W := 0) (own_lc_ln l Z a0 hw [] (el) h0 n0 (O0.keep K0 all0) (hp0) (hp1)) hZ (hw _ (List.mem_of_getElem? (i := 124) rfl)) (hw _ (List.mem_of_getElem? (i := 123) rfl)) (by decide) (by decide)) (g := (mkF m 1 #[.val (.ref el)] [(.ref el)])) rfl (by rw [hml]; rfl) (argsL := [(.ref el)]) (rest := []) (lenOf own_pd11 rfl) rfl (by show 2 * 0 + _ ≤ _; exact Nat.le_of_eq rfl) (hb hby own_d_jdk_40_method_48_code_1) (fun _ _ => ⟨rfl, e0, (by decide : 0 + 0 ≤ _), (by decide : 0 + 0 ≤ _)⟩)
  dsimp only [Pt.U, Pt.locs, Pt.cells, Pt.slots] at X1 l1 y1 z1 st1 hQ1
  subst l1 y1 z1
  obtain ⟨rfl, Nq1, hh1⟩ := hQ1
  have N1 := Fr.app N0 Nq1
  obtain ⟨fs, hr, hrun, hended, hW, hsame⟩ := X1.leave (v := some (.ref el)) (fun h => by rw [Bd.returns] at h; cases h)
  refine ⟨_, _, r0 _ ?_, hrun, hended, _, _, rfl, ?_, ⟨_, rfl⟩, hW, hsame.mono (by decide) (by decide)⟩
  · show Steps p.tables e below (s₁.setTop (mkF m 0 #[.val (.ref el)] [])) _
    refine XS.aloadN X0.here hx rfl (hb hby own_d_jdk_40_method_48_code_0) rfl rfl ?_
    show Steps p.tables e below (s₁.setTop (mkF m 1 #[.val (.ref el)] [(.ref el)])) _
    refine st1 _ ?_
    show Steps p.tables e below (T1.setTop (mkF m 4 #[.val (.ref el)] [(.ref el)])) _
    exact retOut X1 hx (t := (.object "java/util/List")) Bd.returns rfl (Or.inr (Or.inr (Or.inr (Or.inr ⟨rfl, rfl, rfl⟩)))) (hb hby own_d_jdk_40_method_48_code_4) hr
  · show Q_own_cpl_ln Z el h0 n0 _ T1.heap _
    rw [hh1]
    exact ⟨rfl, N1, rfl⟩
theorem own_pn_own_two : plainName "com/example/myna/myna/orders/OrderWithExternalStatePinLaw" = true := by first | (simp [plainName, overriddenIn]; done) | decide +kernel
theorem own_ef_own_two (m : MethodId) (i : Int32) : entryFrame m #[(.int i)] 2 = mkF m 0 #[.val (.int i), .unset] [] := by first | (simp [entryFrame, mkF, argsToLocals, own_cI, own_cJ, own_cR, own_cN]; done) | rfl
abbrev own_F_own_two (m : MethodId) (i : Int32) : JFrame := entryFrame m #[(.int i)] 2
def Q_own_two (Z : State) (i : Int32) (G1 : Int32) (h0 : Heap) (n0 : Nat) (v : Option Value) (h : Heap) (L : List Loc) : Prop := ∃ (b : Addr), v = some (.ref b) ∧ Fr n0 L ∧ Keep h0 h [] ∧ (h0.size ≤ b) ∧ (n0 ≤ b) ∧ (Exa Z h b "java/lang/String")
set_option maxRecDepth 65536 in
set_option maxHeartbeats 40000000 in
theorem own_two (l : Launch) (Z : State) (a0 : Array Value) (hw : ∀ d ∈ tables_1, d.before a0 Z = true) (ws : List Jvm.Cond) (i : Int32) (G1 : Int32) (h0 : Heap) (n0 : Nat) (O0 : Old Z n0 h0) (hp0 : Sta Z Z.heap "java/lang/String" "COMPACT_STRINGS" "Z" (.int G1)) (hG1 : ¬ G1 = (0 : Int32)) :
    MetFree l (⟨"com/example/myna/myna/orders/OrderWithExternalStatePinLaw", "two", "(I)Ljava/lang/String;"⟩ : MethodName) (head1 (Jvm.Cond.code (⟨"com/example/myna/myna/orders/OrderWithExternalStatePinLaw", "two", "(I)Ljava/lang/String;"⟩ : MethodName) method_2_code 2 (some (.object "java/lang/String")) :: ws) ({ frames := 4, cells := 3, slots := 8, locals := 66 } : Room)) (fun aa_ U_ => aa_ = #[(.int i)] ∧ Z.Warmed39 U_.vm ∧ U_.heap = h0) (fun _ _ _ _ _ => True) (fun _ U_ o_ V_ => ∃ v_ L_, o_ = .returned v_ ∧ Q_own_two Z i G1 h0 n0 v_ V_.heap L_ ∧ FrameEnd U_ o_ V_ L_ ({ frames := 4, cells := 3, slots := 8, locals := 66 } : Room).cells ({ frames := 4, cells := 3, slots := 8, locals := 66 } : Room).slots) := by
  refine MetFree.of_bodySF (plainFor_of_name own_pn_own_two) hisR ?_
  intro p e s m args below meth c s₁ Bd hml0 hP hK
  obtain ⟨rfl, hZ, hh⟩ := hP
  have hx := Bd.exec
  have hby := Bd.bytes
  have hml : c.maxLocals = 2 := hml0
  have hown : s.vm.findClass "com/example/myna/myna/orders/OrderWithExternalStatePinLaw" = some m.cls := findClass_of_methodNamed Bd.named
  have hnm := (name_of_methodNamed Bd.named Bd.method).1
  have X0 : Stand p l e ({ frames := 4, cells := 3, slots := 8, locals := 66 } : Room) s m #[(.int i)] below meth c s₁ [] 0 0 := Stand.of_body Bd
  have e0 : s₁.heap = h0 := by rw [← hh, Bd.state]; rfl
  have N0 := Fr.nil n0
  have K0 : Keep h0 h0 [] := Keep.refl _ _
  have r0 : GoTo p.tables e below s₁ (own_F_own_two m i) s₁ (mkF m 0 #[.val (.int i), .unset] []) := fun tt_ kk_ => castTop (own_ef_own_two m i) kk_
  obtain ⟨T1, h1, k1, X1, e1, E1, A1, st1⟩ := newP X0 hx hZ (hw _ (List.mem_of_getElem? (i := 4) rfl)) e0 (g := (mkF m 1 #[.val (.int i), .unset] [(.int (2 : Int32))])) rfl (hb hby own_d_method_2_code_1) rfl (by decide) (cap := 2) (by decide) (by decide) (by decide) (by decide)
  obtain ⟨b1, gg1⟩ : ∃ z, z = h0.size := ⟨_, rfl⟩
  rw [← gg1] at A1 st1
  have g2 : n0 ≤ b1 := Nat.le_trans (Nat.le_trans (own_le O0) K0.1) (Nat.le_of_eq gg1.symm)
  have b3 : h0.size ≤ b1 := Nat.le_trans K0.1 (Nat.le_of_eq gg1.symm)
  have K4 : Keep h0 h1 [] := K0.ext E1
  have V1 : Arv Z h1 b1 k1 .char (2 : Int32) [(.int (0 : Int32)), (.int (0 : Int32))] (.int (0 : Int32)) := (Arv.new A1 (by decide)).pad (pad_rep [] (.int (0 : Int32)) 2)
  have r5 : GoTo p.tables e below s₁ (own_F_own_two m i) T1 (mkF m 12 #[.val (.int i), .val (.ref b1)] [(.int ((i &&& (255 : Int32)).toUInt32.toUInt16.toUInt32.toInt32)), (.int (0 : Int32)), (.ref b1)]) := fun tt_ kk_ => r0 tt_ (by
      show Steps p.tables e below (s₁.setTop (mkF m 0 #[.val (.int i), .unset] [])) _
      refine XS.iconst X0.here hx rfl (hb hby own_d_method_2_code_0) ?_
      show Steps p.tables e below (s₁.setTop (mkF m 1 #[.val (.int i), .unset] [(.int (2 : Int32))])) _
      refine st1 _ ?_
      show Steps p.tables e below (T1.setTop (mkF m 3 #[.val (.int i), .unset] [(.ref b1)])) _
      refine XS.astoreN X1.here hx rfl (hb hby own_d_method_2_code_3) rfl rfl (l' := #[.val (.int i), .val (.ref b1)]) rfl ?_
      show Steps p.tables e below (T1.setTop (mkF m 4 #[.val (.int i), .val (.ref b1)] [])) _
      refine XS.aloadN X1.here hx rfl (hb hby own_d_method_2_code_4) rfl rfl ?_
      show Steps p.tables e below (T1.setTop (mkF m 5 #[.val (.int i), .val (.ref b1)] [(.ref b1)])) _
      refine XS.iconst X1.here hx rfl (hb hby own_d_method_2_code_5) ?_
      show Steps p.tables e below (T1.setTop (mkF m 6 #[.val (.int i), .val (.ref b1)] [(.int (0 : Int32)), (.ref b1)])) _
      refine XS.iloadN X1.here hx rfl (hb hby own_d_method_2_code_6) rfl ?_
      show Steps p.tables e below (T1.setTop (mkF m 7 #[.val (.int i), .val (.ref b1)] [(.int i), (.int (0 : Int32)), (.ref b1)])) _
      refine XS.sipush X1.here hx rfl (hb hby own_d_method_2_code_7) ?_
      show Steps p.tables e below (T1.setTop (mkF m 10 #[.val (.int i), .val (.ref b1)] [(.int (255 : Int32)), (.int i), (.int (0 : Int32)), (.ref b1)])) _
      refine XS.iand X1.here hx rfl (hb hby own_d_method_2_code_10) rfl ?_
      show Steps p.tables e below (T1.setTop (mkF m 11 #[.val (.int i), .val (.ref b1)] [(.int (i &&& (255 : Int32))), (.int (0 : Int32)), (.ref b1)])) _
      refine XS.i2c X1.here hx rfl (hb hby own_d_method_2_code_11) rfl ?_
      show Steps p.tables e below (T1.setTop (mkF m 12 #[.val (.int i), .val (.ref b1)] [(.int ((i &&& (255 : Int32)).toUInt32.toUInt16.toUInt32.toInt32)), (.int (0 : Int32)), (.ref b1)])) _
      exact kk_)
  obtain ⟨c0, h_c0⟩ : ∃ z : Int32, z = ((i &&& (255 : Int32)).toUInt32.toUInt16.toUInt32.toInt32) := ⟨_, rfl⟩
  have r6 : GoTo p.tables e below s₁ (own_F_own_two m i) T1 (mkF m 12 #[.val (.int i), .val (.ref b1)] [(.int c0), (.int (0 : Int32)), (.ref b1)]) := by rw [h_c0]; exact r5
  have hr_c0 := own_chr i h_c0
  obtain ⟨cl7, Ar7, q7, S7, NN7, H7, G7⟩ := id V1
  have hin7 : ¬ ((0 : Int32) < 0 ∨ cl7.slots.size ≤ ((0 : Int32)).toNatClampNeg) := inb_of S7 ⟨by decide, by decide⟩
  obtain ⟨T8, h8, X8, e8, W8, st8⟩ := stC X1 hx hZ e1 Ar7 (j := (0 : Int32)) hin7 (g := (mkF m 12 #[.val (.int i), .val (.ref b1)] [(.int c0), (.int (0 : Int32)), (.ref b1)])) rfl rfl (hb hby own_d_method_2_code_12)
  have K9 : Keep h0 h8 [] := K4.wr W8 (Or.inr b3)
  have V8 : Arv Z h8 b1 k1 .char (2 : Int32) [(.int (nar .char c0)), (.int (0 : Int32))] (.int (0 : Int32)) := Arv.set Ar7 q7 S7 NN7 H7 G7 (fits_nar_char _) W8 0 rfl (Nat.le_of_ble_eq_true rfl)
  have Vs8 : Arv Z h8 b1 k1 .char (2 : Int32) [(.int c0), (.int (0 : Int32))] (.int (0 : Int32)) := by rw [show (nar .char c0) = c0 from hr_c0.2] at V8; exact V8
  have N8 := Fr.snoc X8 N0 g2
  have r10 : GoTo p.tables e below s₁ (own_F_own_two m i) T8 (mkF m 24 #[.val (.int i), .val (.ref b1)] [(.int ((((i.toUInt32 >>> ((8 : Int32) &&& 31).toUInt32).toInt32) &&& (255 : Int32)).toUInt32.toUInt16.toUInt32.toInt32)), (.int (1 : Int32)), (.ref b1)]) := fun tt_ kk_ => r6 tt_ (by
      show Steps p.tables e below (T1.setTop (mkF m 12 #[.val (.int i), .val (.ref b1)] [(.int c0), (.int (0 : Int32)), (.ref b1)])) _
      refine st8 _ ?_
      show Steps p.tables e below (T8.setTop (mkF m 13 #[.val (.int i), .val (.ref b1)] [])) _
      refine XS.aloadN X8.here hx rfl (hb hby own_d_method_2_code_13) rfl rfl ?_
      show Steps p.tables e below (T8.setTop (mkF m 14 #[.val (.int i), .val (.ref b1)] [(.ref b1)])) _
      refine XS.iconst X8.here hx rfl (hb hby own_d_method_2_code_14) ?_
      show Steps p.tables e below (T8.setTop (mkF m 15 #[.val (.int i), .val (.ref b1)] [(.int (1 : Int32)), (.ref b1)])) _
      refine XS.iloadN X8.here hx rfl (hb hby own_d_method_2_code_15) rfl ?_
      show Steps p.tables e below (T8.setTop (mkF m 16 #[.val (.int i), .val (.ref b1)] [(.int i), (.int (1 : Int32)), (.ref b1)])) _
      refine XS.bipush X8.here hx rfl (hb hby own_d_method_2_code_16) ?_
      show Steps p.tables e below (T8.setTop (mkF m 18 #[.val (.int i), .val (.ref b1)] [(.int (8 : Int32)), (.int i), (.int (1 : Int32)), (.ref b1)])) _
      refine XS.iushr X8.here hx rfl (hb hby own_d_method_2_code_18) rfl ?_
      show Steps p.tables e below (T8.setTop (mkF m 19 #[.val (.int i), .val (.ref b1)] [(.int ((i.toUInt32 >>> ((8 : Int32) &&& 31).toUInt32).toInt32)), (.int (1 : Int32)), (.ref b1)])) _
      refine XS.sipush X8.here hx rfl (hb hby own_d_method_2_code_19) ?_
      show Steps p.tables e below (T8.setTop (mkF m 22 #[.val (.int i), .val (.ref b1)] [(.int (255 : Int32)), (.int ((i.toUInt32 >>> ((8 : Int32) &&& 31).toUInt32).toInt32)), (.int (1 : Int32)), (.ref b1)])) _
      refine XS.iand X8.here hx rfl (hb hby own_d_method_2_code_22) rfl ?_
      show Steps p.tables e below (T8.setTop (mkF m 23 #[.val (.int i), .val (.ref b1)] [(.int (((i.toUInt32 >>> ((8 : Int32) &&& 31).toUInt32).toInt32) &&& (255 : Int32))), (.int (1 : Int32)), (.ref b1)])) _
      refine XS.i2c X8.here hx rfl (hb hby own_d_method_2_code_23) rfl ?_
      show Steps p.tables e below (T8.setTop (mkF m 24 #[.val (.int i), .val (.ref b1)] [(.int ((((i.toUInt32 >>> ((8 : Int32) &&& 31).toUInt32).toInt32) &&& (255 : Int32)).toUInt32.toUInt16.toUInt32.toInt32)), (.int (1 : Int32)), (.ref b1)])) _
      exact kk_)
  obtain ⟨c1, h_c1⟩ : ∃ z : Int32, z = ((((i.toUInt32 >>> ((8 : Int32) &&& 31).toUInt32).toInt32) &&& (255 : Int32)).toUInt32.toUInt16.toUInt32.toInt32) := ⟨_, rfl⟩
  have r11 : GoTo p.tables e below s₁ (own_F_own_two m i) T8 (mkF m 24 #[.val (.int i), .val (.ref b1)] [(.int c1), (.int (1 : Int32)), (.ref b1)]) := by rw [h_c1]; exact r10
  have hr_c1 := own_chr ((i.toUInt32 >>> ((8 : Int32) &&& 31).toUInt32).toInt32) h_c1
  obtain ⟨cl12, Ar12, q12, S12, NN12, H12, G12⟩ := id Vs8
  have hin12 : ¬ ((1 : Int32) < 0 ∨ cl12.slots.size ≤ ((1 : Int32)).toNatClampNeg) := inb_of S12 ⟨by decide, by decide⟩
  obtain ⟨T13, h13, X13, e13, W13, st13⟩ := stC X8 hx hZ e8 Ar12 (j := (1 : Int32)) hin12 (g := (mkF m 24 #[.val (.int i), .val (.ref b1)] [(.int c1), (.int (1 : Int32)), (.ref b1)])) rfl rfl (hb hby own_d_method_2_code_24)
  have K14 : Keep h0 h13 [] := K9.wr W13 (Or.inr b3)
  have V13 : Arv Z h13 b1 k1 .char (2 : Int32) [(.int c0), (.int (nar .char c1))] (.int (0 : Int32)) := Arv.set Ar12 q12 S12 NN12 H12 G12 (fits_nar_char _) W13 1 rfl (Nat.le_of_ble_eq_true rfl)
  have Vs13 : Arv Z h13 b1 k1 .char (2 : Int32) [(.int c0), (.int c1)] (.int (0 : Int32)) := by rw [show (nar .char c1) = c1 from hr_c1.2] at V13; exact V13
  have N13 := Fr.snoc X13 N8 g2
  obtain ⟨T15, h15, X15, e15, E15, A15, D15, -, st15⟩ := newO X13 hx hZ hown (hw _ (List.mem_of_getElem? (i := 5) rfl)) (hw _ (List.mem_of_getElem? (i := 6) rfl)) (hw _ (List.mem_of_getElem? (i := 7) rfl)) e13 (g := (mkF m 25 #[.val (.int i), .val (.ref b1)] [])) rfl (hb hby own_d_method_2_code_25) (by decide) (by decide)
  obtain ⟨b15, gg15⟩ : ∃ z, z = h13.size := ⟨_, rfl⟩
  rw [← gg15] at A15 D15 st15
  have ne16 : b1 ≠ b15 := Nat.ne_of_lt (Nat.lt_of_lt_of_le (Nat.lt_of_lt_of_le V1.lt (Nat.le_trans (Nat.le_of_eq (Wr.size W8).symm) (Nat.le_of_eq (Wr.size W13).symm))) (Nat.le_of_eq gg15.symm))
  have g17 : n0 ≤ b15 := Nat.le_trans (Nat.le_trans (own_le O0) K14.1) (Nat.le_of_eq gg15.symm)
  have b18 : h0.size ≤ b15 := Nat.le_trans K14.1 (Nat.le_of_eq gg15.symm)
  have K19 : Keep h0 h15 [] := K14.ext E15
  have hws : ∀ d ∈ StrChars.Road.words, d.before a0 Z = true := fun d hd => hw d (own_in_words d hd)
  have f20 : Arv Z h15 b1 k1 .char (2 : Int32) [(.int c0), (.int c1)] (.int (0 : Int32)) := (Vs13.ext E15)
  have hp21 : ∀ c ∈ ([c0, c1] : List Int32), ¬ c < 0 ∧ ¬ (255 : Int32) < c := own_allC hr_c0.1 (own_allC hr_c1.1 (own_all0))
  obtain ⟨_, _, ⟨T22, L22, k22, n22⟩, -, X22, ⟨Lc22, hQ22, l22, y22, z22⟩, st22⟩ := X15.specialBack hx (y := (⟨"java/lang/String", "<init>", "([C)V"⟩ : MethodName)) rfl hown (mvT hZ (hw _ (List.mem_of_getElem? (i := 8) rfl))) (mvT hZ (hw _ (List.mem_of_getElem? (i := 9) rfl))) (mvT hZ (hw _ (List.mem_of_getElem? (i := 10) rfl))) (by decide) (StrChars.Road.backV (W := 1) hZ hws (kI := 4) (hw _ (List.mem_of_getElem? (i := 6) rfl)) (cs := ([c0, c1] : List Int32)) (bs := ([c0, c1] : List Int32).map (fun c => c.toInt8.toInt32)) (n := 2) g17 (Nat.le_trans (own_le O0) K19.1) A15 (D15 (Or.inr (hw _ (List.mem_of_getElem? (i := 33) rfl))) (ty := (.array .byte)) (by decide)) (D15 (Or.inr (hw _ (List.mem_of_getElem? (i := 31) rfl))) (ty := .byte) (by decide)) f20 (hp0.ext (O0.keep K19 all0).2) hG1 rfl rfl (by decide) (by decide) hp21 rfl (by decide) (by decide)) (g := (mkF m 30 #[.val (.int i), .val (.ref b1)] [(.ref b1), (.ref b15), (.ref b15)])) rfl (by rw [hml]; rfl) (Steps.refl _) (a := b15) (argsL := [(.ref b1)]) (rest := [(.ref b15)]) (lenOf own_pd13 rfl) rfl (by show 2 * 0 + _ ≤ _; exact Nat.le_of_eq rfl) (hb hby own_d_method_2_code_30) (fun _ _ => ⟨rfl, e15, (by decide : 2 + 1 ≤ _), (by decide : 6 + 2 ≤ _)⟩)
  dsimp only [Pt.U, Pt.locs, Pt.cells, Pt.slots] at X22 l22 y22 z22 st22 hQ22
  subst l22 y22 z22
  obtain ⟨rfl, Nq22, Kq22, Ea22, Fc22, t22, kb22, gt22, sz22, nt22, Fv22, Av22⟩ := hQ22
  have N22 := Fr.app N13 Nq22
  have ne23 : b1 ≠ t22 := Nat.ne_of_lt (Nat.lt_of_lt_of_le (Nat.lt_of_lt_of_le V1.lt (Nat.le_trans (Nat.le_trans (Nat.le_of_eq (Wr.size W8).symm) (Nat.le_of_eq (Wr.size W13).symm)) E15.1)) sz22)
  have ne24 : b15 ≠ t22 := Nat.ne_of_lt (Nat.lt_of_lt_of_le A15.lt sz22)
  have g25 : n0 ≤ t22 := Nat.le_trans (Nat.le_trans (own_le O0) K19.1) sz22
  have b26 : h0.size ≤ t22 := Nat.le_trans K19.1 sz22
  have K27 : Keep h0 T22.heap [] := K19.trans Kq22 (allS (Or.inr b18) all0)
  have Sr22 : own_Str Z T22.heap b15 t22 kb22 ([c0, c1] : List Int32) := ⟨Ea22, Fv22, Fc22, Av22, hp21, (by show 2 ≤ 4000; decide)⟩
  obtain ⟨fs, hr, hrun, hended, hW, hsame⟩ := X22.leave (v := some (.ref b15)) (fun h => by rw [Bd.returns] at h; cases h)
  refine ⟨_, _, r11 _ ?_, hrun, hended, _, _, rfl, ?_, ⟨_, rfl⟩, hW, hsame.mono (by decide) (by decide)⟩
  · show Steps p.tables e below (T8.setTop (mkF m 24 #[.val (.int i), .val (.ref b1)] [(.int c1), (.int (1 : Int32)), (.ref b1)])) _
    refine st13 _ ?_
    show Steps p.tables e below (T13.setTop (mkF m 25 #[.val (.int i), .val (.ref b1)] [])) _
    refine st15 _ ?_
    show Steps p.tables e below (T15.setTop (mkF m 28 #[.val (.int i), .val (.ref b1)] [(.ref b15)])) _
    refine XS.dup X15.here hx rfl (hb hby own_d_method_2_code_28) rfl rfl ?_
    show Steps p.tables e below (T15.setTop (mkF m 29 #[.val (.int i), .val (.ref b1)] [(.ref b15), (.ref b15)])) _
    refine XS.aloadN X15.here hx rfl (hb hby own_d_method_2_code_29) rfl rfl ?_
    show Steps p.tables e below (T15.setTop (mkF m 30 #[.val (.int i), .val (.ref b1)] [(.ref b1), (.ref b15), (.ref b15)])) _
    refine st22.trans ?_
    show Steps p.tables e below (T22.setTop (mkF m 33 #[.val (.int i), .val (.ref b1)] [(.ref b15)])) _
    exact retOut X22 hx (t := (.object "java/lang/String")) Bd.returns rfl (Or.inr (Or.inr (Or.inr (Or.inr ⟨rfl, rfl, rfl⟩)))) (hb hby own_d_method_2_code_33) hr
  · show Q_own_two Z i G1 h0 n0 _ T22.heap _
    exact ⟨b15, rfl, N22, K27, b18, g17, Sr22.1⟩
theorem own_pn_own_oln : plainName "com/example/myna/myna/orders/OrderLine" = true := by first | (simp [plainName, overriddenIn]; done) | decide +kernel
theorem own_ef_own_oln (m : MethodId) (a : Addr) (i1 : Int32) (i2 : Int32) : entryFrame m #[(.ref a), .null, (.int i1), (.int i2)] 4 = mkF m 0 #[.val (.ref a), .val .null, .val (.int i1), .val (.int i2)] [] := by first | (simp [entryFrame, mkF, argsToLocals, own_cI, own_cJ, own_cR, own_cN]; done) | rfl
abbrev own_F_own_oln (m : MethodId) (a : Addr) (i1 : Int32) (i2 : Int32) : JFrame := entryFrame m #[(.ref a), .null, (.int i1), (.int i2)] 4
def Q_own_oln (Z : State) (a : Addr) (i1 : Int32) (i2 : Int32) (h0 : Heap) (n0 : Nat) (v : Option Value) (h : Heap) (L : List Loc) : Prop := v = none ∧ Fr n0 L ∧ Keep h0 h [a] ∧ (Exa Z h a "com/example/myna/myna/orders/OrderLine")
set_option maxRecDepth 65536 in
set_option maxHeartbeats 40000000 in
theorem own_oln (l : Launch) (Z : State) (a0 : Array Value) (hw : ∀ d ∈ tables_1, d.before a0 Z = true) (ws : List Jvm.Cond) (a : Addr) (i1 : Int32) (i2 : Int32) (h0 : Heap) (n0 : Nat) (O0 : Old Z n0 h0) (hp0 : Exa Z h0 a "com/example/myna/myna/orders/OrderLine") (hp1 : n0 ≤ a) (hp2 : Fld Z h0 a "com/example/myna/myna/orders/OrderLine" "sku" "Lcom/example/myna/myna/catalog/Sku;" .null) (hp3 : Fld Z h0 a "com/example/myna/myna/orders/OrderLine" "asked" "I" (.int (0 : Int32))) (hp4 : Fld Z h0 a "com/example/myna/myna/orders/OrderLine" "taken" "I" (.int (0 : Int32))) :
    MetFree l (⟨"com/example/myna/myna/orders/OrderLine", "<init>", "(Lcom/example/myna/myna/catalog/Sku;II)V"⟩ : MethodName) (head1 (Jvm.Cond.code (⟨"com/example/myna/myna/orders/OrderLine", "<init>", "(Lcom/example/myna/myna/catalog/Sku;II)V"⟩ : MethodName) prog_21_method_1_code 4 none :: ws) ({ frames := 2, cells := 0, slots := 0, locals := 24 } : Room)) (fun aa_ U_ => aa_ = #[(.ref a), .null, (.int i1), (.int i2)] ∧ Z.Warmed39 U_.vm ∧ U_.heap = h0) (fun _ _ _ _ _ => True) (fun _ U_ o_ V_ => ∃ v_ L_, o_ = .returned v_ ∧ Q_own_oln Z a i1 i2 h0 n0 v_ V_.heap L_ ∧ FrameEnd U_ o_ V_ L_ ({ frames := 2, cells := 0, slots := 0, locals := 24 } : Room).cells ({ frames := 2, cells := 0, slots := 0, locals := 24 } : Room).slots) := by
  refine MetFree.of_bodySF (plainFor_of_name own_pn_own_oln) hisR ?_
  intro p e s m args below meth c s₁ Bd hml0 hP hK
  obtain ⟨rfl, hZ, hh⟩ := hP
  have hx := Bd.exec
  have hby := Bd.bytes
  have hml : c.maxLocals = 4 := hml0
  have hown : s.vm.findClass "com/example/myna/myna/orders/OrderLine" = some m.cls := findClass_of_methodNamed Bd.named
  have hnm := (name_of_methodNamed Bd.named Bd.method).1
  have X0 : Stand p l e ({ frames := 2, cells := 0, slots := 0, locals := 24 } : Room) s m #[(.ref a), .null, (.int i1), (.int i2)] below meth c s₁ [] 0 0 := Stand.of_body Bd
  have e0 : s₁.heap = h0 := by rw [← hh, Bd.state]; rfl
  have N0 := Fr.nil n0
  have K0 : Keep h0 h0 [a] := Keep.refl _ _
  have r0 : GoTo p.tables e below s₁ (own_F_own_oln m a i1 i2) s₁ (mkF m 0 #[.val (.ref a), .val .null, .val (.int i1), .val (.int i2)] []) := fun tt_ kk_ => castTop (own_ef_own_oln m a i1 i2) kk_
  obtain ⟨_, _, ⟨T1, L1, k1, n1⟩, -, X1, ⟨Lc1, hQ1, l1, y1, z1⟩, st1⟩ := X0.specialBack hx (y := (⟨"java/lang/Record", "<init>", "()V"⟩ : MethodName)) rfl hown (mvT hZ (hw _ (List.mem_of_getElem? (i := 43) rfl))) (mvT hZ (hw _ (List.mem_of_getElem? (i := 44) rfl))) (mvT hZ (hw _ (List.mem_of_getElem? (i := 47) rfl))) (by decide) (backOf (W := 0) (own_rec l Z a0 hw [] (a) h0 n0 (O0.keep K0 (allS hp1 all0))) hZ (hw _ (List.mem_of_getElem? (i := 47) rfl)) (hw _ (List.mem_of_getElem? (i := 46) rfl)) (by decide) (by decide)) (g := (mkF m 1 #[.val (.ref a), .val .null, .val (.int i1), .val (.int i2)] [(.ref a)])) rfl (by rw [hml]; rfl) (Steps.refl _) (a := a) (argsL := []) (rest := []) (lenOf own_pd0 rfl) rfl (by show 2 * 0 + _ ≤ _; exact Nat.le_of_eq rfl) (hb hby own_d_prog_21_method_1_code_1) (fun _ _ => ⟨rfl, e0, (by decide : 0 + 0 ≤ _), (by decide : 0 + 0 ≤ _)⟩)
  dsimp only [Pt.U, Pt.locs, Pt.cells, Pt.slots] at X1 l1 y1 z1 st1 hQ1
  subst l1 y1 z1
  obtain ⟨rfl, Nq1, hh1⟩ := hQ1
  have N1 := Fr.app N0 Nq1
  obtain ⟨T2, h2, X2, e2, W2, st2⟩ := putF X1 hx hZ hown (host := "") (Or.inl (hw _ (List.mem_of_getElem? (i := 49) rfl))) Via.refl hh1 hp2 hp0 (Or.inr ⟨(hw _ (List.mem_of_getElem? (i := 50) rfl)), rfl, hnm⟩) (hw _ (List.mem_of_getElem? (i := 38) rfl)) (ty := (.object "com/example/myna/myna/catalog/Sku")) (by decide) rfl rfl (g := (mkF m 6 #[.val (.ref a), .val .null, .val (.int i1), .val (.int i2)] [.null, (.ref a)])) rfl rfl (hb hby own_d_prog_21_method_1_code_6)
  have K3 : Keep h0 h2 [a] := K0.wr W2 (Or.inl (List.mem_of_getElem? (i := 0) rfl))
  have Fw2 : Fld Z h2 a "com/example/myna/myna/orders/OrderLine" "sku" "Lcom/example/myna/myna/catalog/Sku;" .null := hp2.same W2
  have N2 := Fr.snoc X2 N1 hp1
  have f4 : Fld Z h2 a "com/example/myna/myna/orders/OrderLine" "asked" "I" (.int (0 : Int32)) := (hp3.other W2 (Or.inr (Jvm.RoadKit.slot_ne (Or.inr (hw _ (List.mem_of_getElem? (i := 52) rfl))) (Or.inr (hw _ (List.mem_of_getElem? (i := 50) rfl))) (by decide) (t := .int) (t' := (.object "com/example/myna/myna/catalog/Sku")) (by decide) (by decide))))
  have f5 : Exa Z h2 a "com/example/myna/myna/orders/OrderLine" := (hp0.wr W2)
  obtain ⟨T6, h6, X6, e6, W6, st6⟩ := putF X2 hx hZ hown (host := "") (Or.inl (hw _ (List.mem_of_getElem? (i := 51) rfl))) Via.refl e2 f4 f5 (Or.inr ⟨(hw _ (List.mem_of_getElem? (i := 52) rfl)), rfl, hnm⟩) (hw _ (List.mem_of_getElem? (i := 38) rfl)) (ty := .int) (by decide) rfl rfl (g := (mkF m 11 #[.val (.ref a), .val .null, .val (.int i1), .val (.int i2)] [(.int i1), (.ref a)])) rfl rfl (hb hby own_d_prog_21_method_1_code_11)
  have K7 : Keep h0 h6 [a] := K3.wr W6 (Or.inl (List.mem_of_getElem? (i := 0) rfl))
  have Fw6 : Fld Z h6 a "com/example/myna/myna/orders/OrderLine" "asked" "I" (.int i1) := f4.same W6
  have N6 := Fr.snoc X6 N2 hp1
  have f8 : Fld Z h6 a "com/example/myna/myna/orders/OrderLine" "taken" "I" (.int (0 : Int32)) := ((hp4.other W2 (Or.inr (Jvm.RoadKit.slot_ne (Or.inr (hw _ (List.mem_of_getElem? (i := 54) rfl))) (Or.inr (hw _ (List.mem_of_getElem? (i := 50) rfl))) (by decide) (t := .int) (t' := (.object "com/example/myna/myna/catalog/Sku")) (by decide) (by decide)))).other W6 (Or.inr (Jvm.RoadKit.slot_ne (Or.inr (hw _ (List.mem_of_getElem? (i := 54) rfl))) (Or.inr (hw _ (List.mem_of_getElem? (i := 52) rfl))) (by decide) (t := .int) (t' := .int) (by decide) (by decide))))
  have f9 : Exa Z h6 a "com/example/myna/myna/orders/OrderLine" := (f5.wr W6)
  obtain ⟨T10, h10, X10, e10, W10, st10⟩ := putF X6 hx hZ hown (host := "") (Or.inl (hw _ (List.mem_of_getElem? (i := 53) rfl))) Via.refl e6 f8 f9 (Or.inr ⟨(hw _ (List.mem_of_getElem? (i := 54) rfl)), rfl, hnm⟩) (hw _ (List.mem_of_getElem? (i := 38) rfl)) (ty := .int) (by decide) rfl rfl (g := (mkF m 16 #[.val (.ref a), .val .null, .val (.int i1), .val (.int i2)] [(.int i2), (.ref a)])) rfl rfl (hb hby own_d_prog_21_method_1_code_16)
  have K11 : Keep h0 h10 [a] := K7.wr W10 (Or.inl (List.mem_of_getElem? (i := 0) rfl))
  have Fw10 : Fld Z h10 a "com/example/myna/myna/orders/OrderLine" "taken" "I" (.int i2) := f8.same W10
  have N10 := Fr.snoc X10 N6 hp1
  obtain ⟨fs, hr, hrun, hended, hW, hsame⟩ := X10.leave (v := none) (fun _ => rfl)
  refine ⟨_, _, r0 _ ?_, hrun, hended, _, _, rfl, ?_, ⟨_, rfl⟩, hW, hsame.mono (by decide) (by decide)⟩
  · show Steps p.tables e below (s₁.setTop (mkF m 0 #[.val (.ref a), .val .null, .val (.int i1), .val (.int i2)] [])) _
    refine XS.aloadN X0.here hx rfl (hb hby own_d_prog_21_method_1_code_0) rfl rfl ?_
    show Steps p.tables e below (s₁.setTop (mkF m 1 #[.val (.ref a), .val .null, .val (.int i1), .val (.int i2)] [(.ref a)])) _
    refine st1.trans ?_
    show Steps p.tables e below (T1.setTop (mkF m 4 #[.val (.ref a), .val .null, .val (.int i1), .val (.int i2)] [])) _
    refine XS.aloadN X1.here hx rfl (hb hby own_d_prog_21_method_1_code_4) rfl rfl ?_
    show Steps p.tables e below (T1.setTop (mkF m 5 #[.val (.ref a), .val .null, .val (.int i1), .val (.int i2)] [(.ref a)])) _
    refine XS.aloadN X1.here hx rfl (hb hby own_d_prog_21_method_1_code_5) rfl rfl ?_
    show Steps p.tables e below (T1.setTop (mkF m 6 #[.val (.ref a), .val .null, .val (.int i1), .val (.int i2)] [.null, (.ref a)])) _
    refine st2 _ ?_
    show Steps p.tables e below (T2.setTop (mkF m 9 #[.val (.ref a), .val .null, .val (.int i1), .val (.int i2)] [])) _
    refine XS.aloadN X2.here hx rfl (hb hby own_d_prog_21_method_1_code_9) rfl rfl ?_
    show Steps p.tables e below (T2.setTop (mkF m 10 #[.val (.ref a), .val .null, .val (.int i1), .val (.int i2)] [(.ref a)])) _
    refine XS.iloadN X2.here hx rfl (hb hby own_d_prog_21_method_1_code_10) rfl ?_
    show Steps p.tables e below (T2.setTop (mkF m 11 #[.val (.ref a), .val .null, .val (.int i1), .val (.int i2)] [(.int i1), (.ref a)])) _
    refine st6 _ ?_
    show Steps p.tables e below (T6.setTop (mkF m 14 #[.val (.ref a), .val .null, .val (.int i1), .val (.int i2)] [])) _
    refine XS.aloadN X6.here hx rfl (hb hby own_d_prog_21_method_1_code_14) rfl rfl ?_
    show Steps p.tables e below (T6.setTop (mkF m 15 #[.val (.ref a), .val .null, .val (.int i1), .val (.int i2)] [(.ref a)])) _
    refine XS.iloadN X6.here hx rfl (hb hby own_d_prog_21_method_1_code_15) rfl ?_
    show Steps p.tables e below (T6.setTop (mkF m 16 #[.val (.ref a), .val .null, .val (.int i1), .val (.int i2)] [(.int i2), (.ref a)])) _
    refine st10 _ ?_
    show Steps p.tables e below (T10.setTop (mkF m 19 #[.val (.ref a), .val .null, .val (.int i1), .val (.int i2)] [])) _
    exact X10.returnOut hx Bd.returns (hb hby own_d_prog_21_method_1_code_19) hr
  · show Q_own_oln Z a i1 i2 h0 n0 _ T10.heap _
    rw [e10]
    have f12 : Exa Z h10 a "com/example/myna/myna/orders/OrderLine" := (f9.wr W10)
    exact ⟨rfl, N10, K11, f12⟩
theorem own_pn_own_ord1 : plainName "com/example/myna/myna/orders/Order" = true := by first | (simp [plainName, overriddenIn]; done) | decide +kernel
theorem own_ef_own_ord1 (m : MethodId) (a : Addr) (qi : Int64) (s1 : Addr) (s2 : Addr) (u : Addr) (sv : Value) (pb : Int32) (li : Addr) (pa : Addr) (hcv0 : sv.category = 1) : entryFrame m #[(.ref a), (.long qi), (.ref s1), (.ref s2), (.ref u), sv, (.int pb), (.ref li), (.ref pa)] 10 = mkF m 0 #[.val (.ref a), .val (.long qi), .second, .val (.ref s1), .val (.ref s2), .val (.ref u), .val sv, .val (.int pb), .val (.ref li), .val (.ref pa)] [] := by first | (simp [entryFrame, mkF, argsToLocals, own_cI, own_cJ, own_cR, own_cN, hcv0]; done) | rfl
abbrev own_F_own_ord1 (m : MethodId) (a : Addr) (qi : Int64) (s1 : Addr) (s2 : Addr) (u : Addr) (sv : Value) (pb : Int32) (li : Addr) (pa : Addr) : JFrame := entryFrame m #[(.ref a), (.long qi), (.ref s1), (.ref s2), (.ref u), sv, (.int pb), (.ref li), (.ref pa)] 10
def Q_own_ord1 (Z : State) (a : Addr) (qi : Int64) (s1 : Addr) (s2 : Addr) (u : Addr) (sv : Value) (pb : Int32) (li : Addr) (pa : Addr) (ar : Addr) (ka : ClassId) (x : Addr) (mr : Addr) (em : Addr) (el : Addr) (h0 : Heap) (n0 : Nat) (v : Option Value) (h : Heap) (L : List Loc) : Prop := ∃ (b : Addr), v = none ∧ Fr n0 L ∧ Keep h0 h [a] ∧ (h0.size ≤ b) ∧ (n0 ≤ b) ∧ (Exa Z h b "java/util/ImmutableCollections$List12") ∧ (Fld Z h b "java/util/ImmutableCollections$List12" "e0" "Ljava/lang/Object;" (.ref x)) ∧ (Fld Z h b "java/util/ImmutableCollections$List12" "e1" "Ljava/lang/Object;" (.ref em)) ∧ (Exa Z h a "com/example/myna/myna/orders/Order") ∧ (Fld Z h a "com/example/myna/myna/orders/Order" "id" "J" (.long qi)) ∧ (Fld Z h a "com/example/myna/myna/orders/Order" "channel" "Ljava/lang/String;" (.ref s1)) ∧ (Fld Z h a "com/example/myna/myna/orders/Order" "externalId" "Ljava/lang/String;" (.ref s2)) ∧ (Fld Z h a "com/example/myna/myna/orders/Order" "state" "Lcom/example/myna/myna/orders/Order$State;" (.ref u)) ∧ (Fld Z h a "com/example/myna/myna/orders/Order" "externalState" "Ljava/lang/String;" sv) ∧ (Fld Z h a "com/example/myna/myna/orders/Order" "awaitingAcknowledgement" "Z" (.int pb)) ∧ (Fld Z h a "com/example/myna/myna/orders/Order" "lines" "Ljava/util/List;" (.ref b)) ∧ (Fld Z h a "com/example/myna/myna/orders/Order" "payments" "Ljava/util/List;" (.ref el))
set_option maxRecDepth 65536 in
set_option maxHeartbeats 40000000 in
theorem own_ord1 (l : Launch) (Z : State) (a0 : Array Value) (hw : ∀ d ∈ tables_1, d.before a0 Z = true) (ws : List Jvm.Cond) (a : Addr) (qi : Int64) (s1 : Addr) (s2 : Addr) (u : Addr) (sv : Value) (pb : Int32) (li : Addr) (pa : Addr) (ar : Addr) (ka : ClassId) (x : Addr) (mr : Addr) (em : Addr) (el : Addr) (h0 : Heap) (n0 : Nat) (O0 : Old Z n0 h0) (hsv : sv.isRef = true) (hpb : nar .boolean pb = pb) (hp2 : Exa Z h0 a "com/example/myna/myna/orders/Order") (hp3 : n0 ≤ a) (hp4 : a ≠ ar) (hp5 : a ≠ x) (hp6 : Fld Z h0 a "com/example/myna/myna/orders/Order" "id" "J" (.long (0 : Int64))) (hp7 : Fld Z h0 a "com/example/myna/myna/orders/Order" "channel" "Ljava/lang/String;" .null) (hp8 : Fld Z h0 a "com/example/myna/myna/orders/Order" "externalId" "Ljava/lang/String;" .null) (hp9 : Fld Z h0 a "com/example/myna/myna/orders/Order" "state" "Lcom/example/myna/myna/orders/Order$State;" .null) (hp10 : Fld Z h0 a "com/example/myna/myna/orders/Order" "externalState" "Ljava/lang/String;" .null) (hp11 : Fld Z h0 a "com/example/myna/myna/orders/Order" "awaitingAcknowledgement" "Z" (.int (0 : Int32))) (hp12 : Fld Z h0 a "com/example/myna/myna/orders/Order" "lines" "Ljava/util/List;" .null) (hp13 : Fld Z h0 a "com/example/myna/myna/orders/Order" "payments" "Ljava/util/List;" .null) (hp14 : Exa Z h0 li "java/util/ArrayList") (hp15 : Fld Z h0 li "java/util/ArrayList" "elementData" "[Ljava/lang/Object;" (.ref ar)) (hp16 : Fld Z h0 li "java/util/ArrayList" "size" "I" (.int (1 : Int32))) (hp17 : Arv Z h0 ar ka (.object "java/lang/Object") (10 : Int32) [(.ref x), .null, .null, .null, .null, .null, .null, .null, .null, .null] .null) (hp18 : Exa Z h0 ar "[Ljava/lang/Object;") (hp19 : Exa Z h0 x "com/example/myna/myna/orders/OrderLine") (hp20 : Exa Z h0 pa "java/util/ArrayList") (hp21 : Fld Z h0 pa "java/util/ArrayList" "size" "I" (.int (0 : Int32))) (hMir : own_Mir Z "[Ljava/lang/Object;" mr) (hp23 : Sta Z Z.heap "java/util/ImmutableCollections" "EMPTY" "Ljava/lang/Object;" (.ref em)) (hp24 : Sta Z Z.heap "java/util/ImmutableCollections" "EMPTY_LIST" "Ljava/util/ImmutableCollections$ListN;" (.ref el)) :
    MetFree l (⟨"com/example/myna/myna/orders/Order", "<init>", "(JLjava/lang/String;Ljava/lang/String;Lcom/example/myna/myna/orders/Order$State;Ljava/lang/String;ZLjava/util/List;Ljava/util/List;)V"⟩ : MethodName) (head1 (Jvm.Cond.code (⟨"com/example/myna/myna/orders/Order", "<init>", "(JLjava/lang/String;Ljava/lang/String;Lcom/example/myna/myna/orders/Order$State;Ljava/lang/String;ZLjava/util/List;Ljava/util/List;)V"⟩ : MethodName) prog_19_method_1_code 10 none :: ws) ({ frames := 8, cells := 2, slots := 3, locals := 125 } : Room)) (fun aa_ U_ => aa_ = #[(.ref a), (.long qi), (.ref s1), (.ref s2), (.ref u), sv, (.int pb), (.ref li), (.ref pa)] ∧ Z.Warmed39 U_.vm ∧ U_.heap = h0) (fun _ _ _ _ _ => True) (fun _ U_ o_ V_ => ∃ v_ L_, o_ = .returned v_ ∧ Q_own_ord1 Z a qi s1 s2 u sv pb li pa ar ka x mr em el h0 n0 v_ V_.heap L_ ∧ FrameEnd U_ o_ V_ L_ ({ frames := 8, cells := 2, slots := 3, locals := 125 } : Room).cells ({ frames := 8, cells := 2, slots := 3, locals := 125 } : Room).slots) := by
  refine MetFree.of_bodySF (plainFor_of_name own_pn_own_ord1) hisR ?_
  intro p e s m args below meth c s₁ Bd hml0 hP hK
  obtain ⟨rfl, hZ, hh⟩ := hP
  have hx := Bd.exec
  have hby := Bd.bytes
  have hml : c.maxLocals = 10 := hml0
  have hown : s.vm.findClass "com/example/myna/myna/orders/Order" = some m.cls := findClass_of_methodNamed Bd.named
  have hnm := (name_of_methodNamed Bd.named Bd.method).1
  have X0 : Stand p l e ({ frames := 8, cells := 2, slots := 3, locals := 125 } : Room) s m #[(.ref a), (.long qi), (.ref s1), (.ref s2), (.ref u), sv, (.int pb), (.ref li), (.ref pa)] below meth c s₁ [] 0 0 := Stand.of_body Bd
  have e0 : s₁.heap = h0 := by rw [← hh, Bd.state]; rfl
  have N0 := Fr.nil n0
  have K0 : Keep h0 h0 [a] := Keep.refl _ _
  have r0 : GoTo p.tables e below s₁ (own_F_own_ord1 m a qi s1 s2 u sv pb li pa) s₁ (mkF m 0 #[.val (.ref a), .val (.long qi), .second, .val (.ref s1), .val (.ref s2), .val (.ref u), .val sv, .val (.int pb), .val (.ref li), .val (.ref pa)] []) := fun tt_ kk_ => castTop (own_ef_own_ord1 m a qi s1 s2 u sv pb li pa (own_cat hsv)) kk_
  obtain ⟨_, _, ⟨T1, L1, k1, n1⟩, -, X1, ⟨Lc1, hQ1, l1, y1, z1⟩, st1⟩ := X0.specialBack hx (y := (⟨"java/lang/Record", "<init>", "()V"⟩ : MethodName)) rfl hown (mvT hZ (hw _ (List.mem_of_getElem? (i := 116) rfl))) (mvT hZ (hw _ (List.mem_of_getElem? (i := 44) rfl))) (mvT hZ (hw _ (List.mem_of_getElem? (i := 47) rfl))) (by decide) (backOf (W := 0) (own_rec l Z a0 hw [] (a) h0 n0 (O0.keep K0 (allS hp3 all0))) hZ (hw _ (List.mem_of_getElem? (i := 47) rfl)) (hw _ (List.mem_of_getElem? (i := 46) rfl)) (by decide) (by decide)) (g := (mkF m 1 #[.val (.ref a), .val (.long qi), .second, .val (.ref s1), .val (.ref s2), .val (.ref u), .val sv, .val (.int pb), .val (.ref li), .val (.ref pa)] [(.ref a)])) rfl (by rw [hml]; rfl) (Steps.refl _) (a := a) (argsL := []) (rest := []) (lenOf own_pd0 rfl) rfl (by show 2 * 0 + _ ≤ _; exact Nat.le_of_eq rfl) (hb hby own_d_prog_19_method_1_code_1) (fun _ _ => ⟨rfl, e0, (by decide : 0 + 0 ≤ _), (by decide : 0 + 0 ≤ _)⟩)
  dsimp only [Pt.U, Pt.locs, Pt.cells, Pt.slots] at X1 l1 y1 z1 st1 hQ1
  subst l1 y1 z1
  obtain ⟨rfl, Nq1, hh1⟩ := hQ1
  have N1 := Fr.app N0 Nq1
  obtain ⟨_, _, ⟨T2, L2, k2, n2⟩, -, X2, ⟨Lc2, hQ2, l2, y2, z2⟩, st2⟩ := Jvm.LawKit.callS X1 hx (y := (⟨"java/util/List", "copyOf", "(Ljava/util/Collection;)Ljava/util/List;"⟩ : MethodName)) hown (mvT hZ (hw _ (List.mem_of_getElem? (i := 117) rfl))) (mvT hZ (hw _ (List.mem_of_getElem? (i := 118) rfl))) (mvT hZ (hw _ (List.mem_of_getElem? (i := 119) rfl))) (mvT hZ (hw _ (List.mem_of_getElem? (i := 120) rfl))) (by decide) (backOf (W := 0) (own_cpl_al1 l Z a0 hw [] (li) (ar) (ka) (x) (mr) (em) h0 n0 (O0.keep K0 (allS hp3 all0)) (hp14) (hp15) (hp16) (hp17) (hp18) (hp19) (hMir) (hp23)) hZ (hw _ (List.mem_of_getElem? (i := 120) rfl)) (hw _ (List.mem_of_getElem? (i := 119) rfl)) (by decide) (by decide)) (g := (mkF m 6 #[.val (.ref a), .val (.long qi), .second, .val (.ref s1), .val (.ref s2), .val (.ref u), .val sv, .val (.int pb), .val (.ref li), .val (.ref pa)] [(.ref li)])) rfl (by rw [hml]; rfl) (argsL := [(.ref li)]) (rest := []) (lenOf own_pd11 rfl) rfl (by show 2 * 0 + _ ≤ _; exact Nat.le_of_eq rfl) (hb hby own_d_prog_19_method_1_code_6) (fun _ _ => ⟨rfl, hh1, (by decide : 0 + 2 ≤ _), (by decide : 0 + 3 ≤ _)⟩)
  dsimp only [Pt.U, Pt.locs, Pt.cells, Pt.slots] at X2 l2 y2 z2 st2 hQ2
  subst l2 y2 z2
  obtain ⟨b_2, rfl, Nq2, Kq2, po2_0, po2_1, po2_2, po2_3, po2_4⟩ := hQ2
  have N2 := Fr.app N1 Nq2
  have ne3 : a ≠ b_2 := Nat.ne_of_lt (Nat.lt_of_lt_of_le hp2.lt po2_0)
  have ne4 : li ≠ b_2 := Nat.ne_of_lt (Nat.lt_of_lt_of_le hp14.lt po2_0)
  have ne5 : ar ≠ b_2 := Nat.ne_of_lt (Nat.lt_of_lt_of_le hp17.lt po2_0)
  have ne6 : x ≠ b_2 := Nat.ne_of_lt (Nat.lt_of_lt_of_le hp19.lt po2_0)
  have ne7 : pa ≠ b_2 := Nat.ne_of_lt (Nat.lt_of_lt_of_le hp20.lt po2_0)
  have g8 : n0 ≤ b_2 := Nat.le_trans (Nat.le_trans (own_le O0) K0.1) po2_0
  have b9 : h0.size ≤ b_2 := Nat.le_trans K0.1 po2_0
  have K10 : Keep h0 T2.heap [a] := K0.trans Kq2 all0
  have f11 : Exa Z T2.heap pa "java/util/ArrayList" := (hp20.keep Kq2)
  have f12 : Fld Z T2.heap pa "java/util/ArrayList" "size" "I" (.int (0 : Int32)) := (hp21.keep Kq2 nin0)
  obtain ⟨_, _, ⟨T13, L13, k13, n13⟩, -, X13, ⟨Lc13, hQ13, l13, y13, z13⟩, st13⟩ := Jvm.LawKit.callS X2 hx (y := (⟨"java/util/List", "copyOf", "(Ljava/util/Collection;)Ljava/util/List;"⟩ : MethodName)) hown (mvT hZ (hw _ (List.mem_of_getElem? (i := 117) rfl))) (mvT hZ (hw _ (List.mem_of_getElem? (i := 118) rfl))) (mvT hZ (hw _ (List.mem_of_getElem? (i := 119) rfl))) (mvT hZ (hw _ (List.mem_of_getElem? (i := 120) rfl))) (by decide) (backOf (W := 0) (own_cpl_al0 l Z a0 hw [] (pa) (el) T2.heap n0 (O0.keep K10 (allS hp3 all0)) (f11) (f12) (hp24)) hZ (hw _ (List.mem_of_getElem? (i := 120) rfl)) (hw _ (List.mem_of_getElem? (i := 119) rfl)) (by decide) (by decide)) (g := (mkF m 13 #[.val (.ref a), .val (.long qi), .second, .val (.ref s1), .val (.ref s2), .val (.ref u), .val sv, .val (.int pb), .val (.ref b_2), .val (.ref pa)] [(.ref pa)])) rfl (by rw [hml]; rfl) (argsL := [(.ref pa)]) (rest := []) (lenOf own_pd11 rfl) rfl (by show 2 * 0 + _ ≤ _; exact Nat.le_of_eq rfl) (hb hby own_d_prog_19_method_1_code_13) (fun _ _ => ⟨rfl, rfl, (by decide : 2 + 0 ≤ _), (by decide : 3 + 0 ≤ _)⟩)
  dsimp only [Pt.U, Pt.locs, Pt.cells, Pt.slots] at X13 l13 y13 z13 st13 hQ13
  subst l13 y13 z13
  obtain ⟨rfl, Nq13, hh13⟩ := hQ13
  have N13 := Fr.app N2 Nq13
  have f14 : Fld Z T2.heap a "com/example/myna/myna/orders/Order" "id" "J" (.long (0 : Int64)) := (hp6.keep Kq2 nin0)
  have f15 : Exa Z T2.heap a "com/example/myna/myna/orders/Order" := (hp2.keep Kq2)
  obtain ⟨T16, h16, X16, e16, W16, st16⟩ := putF X13 hx hZ hown (host := "") (Or.inl (hw _ (List.mem_of_getElem? (i := 207) rfl))) Via.refl hh13 f14 f15 (Or.inr ⟨(hw _ (List.mem_of_getElem? (i := 208) rfl)), rfl, hnm⟩) (hw _ (List.mem_of_getElem? (i := 111) rfl)) (ty := .long) (by decide) rfl rfl (g := (mkF m 20 #[.val (.ref a), .val (.long qi), .second, .val (.ref s1), .val (.ref s2), .val (.ref u), .val sv, .val (.int pb), .val (.ref b_2), .val (.ref el)] [(.long qi), (.ref a)])) rfl rfl (hb hby own_d_prog_19_method_1_code_20)
  have K17 : Keep h0 h16 [a] := K10.wr W16 (Or.inl (List.mem_of_getElem? (i := 0) rfl))
  have Fw16 : Fld Z h16 a "com/example/myna/myna/orders/Order" "id" "J" (.long qi) := f14.same W16
  have N16 := Fr.snoc X16 N13 hp3
  have f18 : Fld Z h16 a "com/example/myna/myna/orders/Order" "channel" "Ljava/lang/String;" .null := ((hp7.keep Kq2 nin0).other W16 (Or.inr (Jvm.RoadKit.slot_ne (Or.inr (hw _ (List.mem_of_getElem? (i := 210) rfl))) (Or.inr (hw _ (List.mem_of_getElem? (i := 208) rfl))) (by decide) (t := (.object "java/lang/String")) (t' := .long) (by decide) (by decide))))
  have f19 : Exa Z h16 a "com/example/myna/myna/orders/Order" := (f15.wr W16)
  obtain ⟨T20, h20, X20, e20, W20, st20⟩ := putF X16 hx hZ hown (host := "") (Or.inl (hw _ (List.mem_of_getElem? (i := 209) rfl))) Via.refl e16 f18 f19 (Or.inr ⟨(hw _ (List.mem_of_getElem? (i := 210) rfl)), rfl, hnm⟩) (hw _ (List.mem_of_getElem? (i := 111) rfl)) (ty := (.object "java/lang/String")) (by decide) rfl rfl (g := (mkF m 25 #[.val (.ref a), .val (.long qi), .second, .val (.ref s1), .val (.ref s2), .val (.ref u), .val sv, .val (.int pb), .val (.ref b_2), .val (.ref el)] [(.ref s1), (.ref a)])) rfl rfl (hb hby own_d_prog_19_method_1_code_25)
  have K21 : Keep h0 h20 [a] := K17.wr W20 (Or.inl (List.mem_of_getElem? (i := 0) rfl))
  have Fw20 : Fld Z h20 a "com/example/myna/myna/orders/Order" "channel" "Ljava/lang/String;" (.ref s1) := f18.same W20
  have N20 := Fr.snoc X20 N16 hp3
  have f22 : Fld Z h20 a "com/example/myna/myna/orders/Order" "externalId" "Ljava/lang/String;" .null := (((hp8.keep Kq2 nin0).other W16 (Or.inr (Jvm.RoadKit.slot_ne (Or.inr (hw _ (List.mem_of_getElem? (i := 212) rfl))) (Or.inr (hw _ (List.mem_of_getElem? (i := 208) rfl))) (by decide) (t := (.object "java/lang/String")) (t' := .long) (by decide) (by decide)))).other W20 (Or.inr (Jvm.RoadKit.slot_ne (Or.inr (hw _ (List.mem_of_getElem? (i := 212) rfl))) (Or.inr (hw _ (List.mem_of_getElem? (i := 210) rfl))) (by decide) (t := (.object "java/lang/String")) (t' := (.object "java/lang/String")) (by decide) (by decide))))
  have f23 : Exa Z h20 a "com/example/myna/myna/orders/Order" := (f19.wr W20)
  obtain ⟨T24, h24, X24, e24, W24, st24⟩ := putF X20 hx hZ hown (host := "") (Or.inl (hw _ (List.mem_of_getElem? (i := 211) rfl))) Via.refl e20 f22 f23 (Or.inr ⟨(hw _ (List.mem_of_getElem? (i := 212) rfl)), rfl, hnm⟩) (hw _ (List.mem_of_getElem? (i := 111) rfl)) (ty := (.object "java/lang/String")) (by decide) rfl rfl (g := (mkF m 31 #[.val (.ref a), .val (.long qi), .second, .val (.ref s1), .val (.ref s2), .val (.ref u), .val sv, .val (.int pb), .val (.ref b_2), .val (.ref el)] [(.ref s2), (.ref a)])) rfl rfl (hb hby own_d_prog_19_method_1_code_31)
  have K25 : Keep h0 h24 [a] := K21.wr W24 (Or.inl (List.mem_of_getElem? (i := 0) rfl))
  have Fw24 : Fld Z h24 a "com/example/myna/myna/orders/Order" "externalId" "Ljava/lang/String;" (.ref s2) := f22.same W24
  have N24 := Fr.snoc X24 N20 hp3
  have f26 : Fld Z h24 a "com/example/myna/myna/orders/Order" "state" "Lcom/example/myna/myna/orders/Order$State;" .null := ((((hp9.keep Kq2 nin0).other W16 (Or.inr (Jvm.RoadKit.slot_ne (Or.inr (hw _ (List.mem_of_getElem? (i := 214) rfl))) (Or.inr (hw _ (List.mem_of_getElem? (i := 208) rfl))) (by decide) (t := (.object "com/example/myna/myna/orders/Order$State")) (t' := .long) (by decide) (by decide)))).other W20 (Or.inr (Jvm.RoadKit.slot_ne (Or.inr (hw _ (List.mem_of_getElem? (i := 214) rfl))) (Or.inr (hw _ (List.mem_of_getElem? (i := 210) rfl))) (by decide) (t := (.object "com/example/myna/myna/orders/Order$State")) (t' := (.object "java/lang/String")) (by decide) (by decide)))).other W24 (Or.inr (Jvm.RoadKit.slot_ne (Or.inr (hw _ (List.mem_of_getElem? (i := 214) rfl))) (Or.inr (hw _ (List.mem_of_getElem? (i := 212) rfl))) (by decide) (t := (.object "com/example/myna/myna/orders/Order$State")) (t' := (.object "java/lang/String")) (by decide) (by decide))))
  have f27 : Exa Z h24 a "com/example/myna/myna/orders/Order" := (f23.wr W24)
  obtain ⟨T28, h28, X28, e28, W28, st28⟩ := putF X24 hx hZ hown (host := "") (Or.inl (hw _ (List.mem_of_getElem? (i := 213) rfl))) Via.refl e24 f26 f27 (Or.inr ⟨(hw _ (List.mem_of_getElem? (i := 214) rfl)), rfl, hnm⟩) (hw _ (List.mem_of_getElem? (i := 111) rfl)) (ty := (.object "com/example/myna/myna/orders/Order$State")) (by decide) rfl rfl (g := (mkF m 37 #[.val (.ref a), .val (.long qi), .second, .val (.ref s1), .val (.ref s2), .val (.ref u), .val sv, .val (.int pb), .val (.ref b_2), .val (.ref el)] [(.ref u), (.ref a)])) rfl rfl (hb hby own_d_prog_19_method_1_code_37)
  have K29 : Keep h0 h28 [a] := K25.wr W28 (Or.inl (List.mem_of_getElem? (i := 0) rfl))
  have Fw28 : Fld Z h28 a "com/example/myna/myna/orders/Order" "state" "Lcom/example/myna/myna/orders/Order$State;" (.ref u) := f26.same W28
  have N28 := Fr.snoc X28 N24 hp3
  have f30 : Fld Z h28 a "com/example/myna/myna/orders/Order" "externalState" "Ljava/lang/String;" .null := (((((hp10.keep Kq2 nin0).other W16 (Or.inr (Jvm.RoadKit.slot_ne (Or.inr (hw _ (List.mem_of_getElem? (i := 216) rfl))) (Or.inr (hw _ (List.mem_of_getElem? (i := 208) rfl))) (by decide) (t := (.object "java/lang/String")) (t' := .long) (by decide) (by decide)))).other W20 (Or.inr (Jvm.RoadKit.slot_ne (Or.inr (hw _ (List.mem_of_getElem? (i := 216) rfl))) (Or.inr (hw _ (List.mem_of_getElem? (i := 210) rfl))) (by decide) (t := (.object "java/lang/String")) (t' := (.object "java/lang/String")) (by decide) (by decide)))).other W24 (Or.inr (Jvm.RoadKit.slot_ne (Or.inr (hw _ (List.mem_of_getElem? (i := 216) rfl))) (Or.inr (hw _ (List.mem_of_getElem? (i := 212) rfl))) (by decide) (t := (.object "java/lang/String")) (t' := (.object "java/lang/String")) (by decide) (by decide)))).other W28 (Or.inr (Jvm.RoadKit.slot_ne (Or.inr (hw _ (List.mem_of_getElem? (i := 216) rfl))) (Or.inr (hw _ (List.mem_of_getElem? (i := 214) rfl))) (by decide) (t := (.object "java/lang/String")) (t' := (.object "com/example/myna/myna/orders/Order$State")) (by decide) (by decide))))
  have f31 : Exa Z h28 a "com/example/myna/myna/orders/Order" := (f27.wr W28)
  obtain ⟨T32, h32, X32, e32, W32, st32⟩ := putF X28 hx hZ hown (host := "") (Or.inl (hw _ (List.mem_of_getElem? (i := 215) rfl))) Via.refl e28 f30 f31 (Or.inr ⟨(hw _ (List.mem_of_getElem? (i := 216) rfl)), rfl, hnm⟩) (hw _ (List.mem_of_getElem? (i := 111) rfl)) (ty := (.object "java/lang/String")) (by decide) rfl (own_fits_ref (by decide) hsv) (g := (mkF m 43 #[.val (.ref a), .val (.long qi), .second, .val (.ref s1), .val (.ref s2), .val (.ref u), .val sv, .val (.int pb), .val (.ref b_2), .val (.ref el)] [sv, (.ref a)])) rfl rfl (hb hby own_d_prog_19_method_1_code_43)
  have K33 : Keep h0 h32 [a] := K29.wr W32 (Or.inl (List.mem_of_getElem? (i := 0) rfl))
  have Fw32 : Fld Z h32 a "com/example/myna/myna/orders/Order" "externalState" "Ljava/lang/String;" sv := f30.same W32
  have N32 := Fr.snoc X32 N28 hp3
  have f34 : Fld Z h32 a "com/example/myna/myna/orders/Order" "awaitingAcknowledgement" "Z" (.int (0 : Int32)) := ((((((hp11.keep Kq2 nin0).other W16 (Or.inr (Jvm.RoadKit.slot_ne (Or.inr (hw _ (List.mem_of_getElem? (i := 218) rfl))) (Or.inr (hw _ (List.mem_of_getElem? (i := 208) rfl))) (by decide) (t := .boolean) (t' := .long) (by decide) (by decide)))).other W20 (Or.inr (Jvm.RoadKit.slot_ne (Or.inr (hw _ (List.mem_of_getElem? (i := 218) rfl))) (Or.inr (hw _ (List.mem_of_getElem? (i := 210) rfl))) (by decide) (t := .boolean) (t' := (.object "java/lang/String")) (by decide) (by decide)))).other W24 (Or.inr (Jvm.RoadKit.slot_ne (Or.inr (hw _ (List.mem_of_getElem? (i := 218) rfl))) (Or.inr (hw _ (List.mem_of_getElem? (i := 212) rfl))) (by decide) (t := .boolean) (t' := (.object "java/lang/String")) (by decide) (by decide)))).other W28 (Or.inr (Jvm.RoadKit.slot_ne (Or.inr (hw _ (List.mem_of_getElem? (i := 218) rfl))) (Or.inr (hw _ (List.mem_of_getElem? (i := 214) rfl))) (by decide) (t := .boolean) (t' := (.object "com/example/myna/myna/orders/Order$State")) (by decide) (by decide)))).other W32 (Or.inr (Jvm.RoadKit.slot_ne (Or.inr (hw _ (List.mem_of_getElem? (i := 218) rfl))) (Or.inr (hw _ (List.mem_of_getElem? (i := 216) rfl))) (by decide) (t := .boolean) (t' := (.object "java/lang/String")) (by decide) (by decide))))
  have f35 : Exa Z h32 a "com/example/myna/myna/orders/Order" := (f31.wr W32)
  obtain ⟨T36, h36, X36, e36, W36, st36⟩ := putFN X32 hx hZ hown (hw _ (List.mem_of_getElem? (i := 217) rfl)) Via.refl e32 f34 f35 (Or.inr ⟨(hw _ (List.mem_of_getElem? (i := 218) rfl)), rfl, hnm⟩) (hw _ (List.mem_of_getElem? (i := 111) rfl)) (ty := .boolean) (v' := (.int (nar .boolean pb))) (by decide) rfl (fits_nar_bool _) (g := (mkF m 49 #[.val (.ref a), .val (.long qi), .second, .val (.ref s1), .val (.ref s2), .val (.ref u), .val sv, .val (.int pb), .val (.ref b_2), .val (.ref el)] [(.int pb), (.ref a)])) rfl rfl (hb hby own_d_prog_19_method_1_code_49)
  have K37 : Keep h0 h36 [a] := K33.wr W36 (Or.inl (List.mem_of_getElem? (i := 0) rfl))
  have Fw36 : Fld Z h36 a "com/example/myna/myna/orders/Order" "awaitingAcknowledgement" "Z" (.int (nar .boolean pb)) := f34.same W36
  have N36 := Fr.snoc X36 N32 hp3
  have f38 : Fld Z h36 a "com/example/myna/myna/orders/Order" "lines" "Ljava/util/List;" .null := (((((((hp12.keep Kq2 nin0).other W16 (Or.inr (Jvm.RoadKit.slot_ne (Or.inr (hw _ (List.mem_of_getElem? (i := 220) rfl))) (Or.inr (hw _ (List.mem_of_getElem? (i := 208) rfl))) (by decide) (t := (.object "java/util/List")) (t' := .long) (by decide) (by decide)))).other W20 (Or.inr (Jvm.RoadKit.slot_ne (Or.inr (hw _ (List.mem_of_getElem? (i := 220) rfl))) (Or.inr (hw _ (List.mem_of_getElem? (i := 210) rfl))) (by decide) (t := (.object "java/util/List")) (t' := (.object "java/lang/String")) (by decide) (by decide)))).other W24 (Or.inr (Jvm.RoadKit.slot_ne (Or.inr (hw _ (List.mem_of_getElem? (i := 220) rfl))) (Or.inr (hw _ (List.mem_of_getElem? (i := 212) rfl))) (by decide) (t := (.object "java/util/List")) (t' := (.object "java/lang/String")) (by decide) (by decide)))).other W28 (Or.inr (Jvm.RoadKit.slot_ne (Or.inr (hw _ (List.mem_of_getElem? (i := 220) rfl))) (Or.inr (hw _ (List.mem_of_getElem? (i := 214) rfl))) (by decide) (t := (.object "java/util/List")) (t' := (.object "com/example/myna/myna/orders/Order$State")) (by decide) (by decide)))).other W32 (Or.inr (Jvm.RoadKit.slot_ne (Or.inr (hw _ (List.mem_of_getElem? (i := 220) rfl))) (Or.inr (hw _ (List.mem_of_getElem? (i := 216) rfl))) (by decide) (t := (.object "java/util/List")) (t' := (.object "java/lang/String")) (by decide) (by decide)))).other W36 (Or.inr (Jvm.RoadKit.slot_ne (Or.inr (hw _ (List.mem_of_getElem? (i := 220) rfl))) (Or.inr (hw _ (List.mem_of_getElem? (i := 218) rfl))) (by decide) (t := (.object "java/util/List")) (t' := .boolean) (by decide) (by decide))))
  have f39 : Exa Z h36 a "com/example/myna/myna/orders/Order" := (f35.wr W36)
  obtain ⟨T40, h40, X40, e40, W40, st40⟩ := putF X36 hx hZ hown (host := "") (Or.inl (hw _ (List.mem_of_getElem? (i := 219) rfl))) Via.refl e36 f38 f39 (Or.inr ⟨(hw _ (List.mem_of_getElem? (i := 220) rfl)), rfl, hnm⟩) (hw _ (List.mem_of_getElem? (i := 111) rfl)) (ty := (.object "java/util/List")) (by decide) rfl rfl (g := (mkF m 55 #[.val (.ref a), .val (.long qi), .second, .val (.ref s1), .val (.ref s2), .val (.ref u), .val sv, .val (.int pb), .val (.ref b_2), .val (.ref el)] [(.ref b_2), (.ref a)])) rfl rfl (hb hby own_d_prog_19_method_1_code_55)
  have K41 : Keep h0 h40 [a] := K37.wr W40 (Or.inl (List.mem_of_getElem? (i := 0) rfl))
  have Fw40 : Fld Z h40 a "com/example/myna/myna/orders/Order" "lines" "Ljava/util/List;" (.ref b_2) := f38.same W40
  have N40 := Fr.snoc X40 N36 hp3
  have f42 : Fld Z h40 a "com/example/myna/myna/orders/Order" "payments" "Ljava/util/List;" .null := ((((((((hp13.keep Kq2 nin0).other W16 (Or.inr (Jvm.RoadKit.slot_ne (Or.inr (hw _ (List.mem_of_getElem? (i := 222) rfl))) (Or.inr (hw _ (List.mem_of_getElem? (i := 208) rfl))) (by decide) (t := (.object "java/util/List")) (t' := .long) (by decide) (by decide)))).other W20 (Or.inr (Jvm.RoadKit.slot_ne (Or.inr (hw _ (List.mem_of_getElem? (i := 222) rfl))) (Or.inr (hw _ (List.mem_of_getElem? (i := 210) rfl))) (by decide) (t := (.object "java/util/List")) (t' := (.object "java/lang/String")) (by decide) (by decide)))).other W24 (Or.inr (Jvm.RoadKit.slot_ne (Or.inr (hw _ (List.mem_of_getElem? (i := 222) rfl))) (Or.inr (hw _ (List.mem_of_getElem? (i := 212) rfl))) (by decide) (t := (.object "java/util/List")) (t' := (.object "java/lang/String")) (by decide) (by decide)))).other W28 (Or.inr (Jvm.RoadKit.slot_ne (Or.inr (hw _ (List.mem_of_getElem? (i := 222) rfl))) (Or.inr (hw _ (List.mem_of_getElem? (i := 214) rfl))) (by decide) (t := (.object "java/util/List")) (t' := (.object "com/example/myna/myna/orders/Order$State")) (by decide) (by decide)))).other W32 (Or.inr (Jvm.RoadKit.slot_ne (Or.inr (hw _ (List.mem_of_getElem? (i := 222) rfl))) (Or.inr (hw _ (List.mem_of_getElem? (i := 216) rfl))) (by decide) (t := (.object "java/util/List")) (t' := (.object "java/lang/String")) (by decide) (by decide)))).other W36 (Or.inr (Jvm.RoadKit.slot_ne (Or.inr (hw _ (List.mem_of_getElem? (i := 222) rfl))) (Or.inr (hw _ (List.mem_of_getElem? (i := 218) rfl))) (by decide) (t := (.object "java/util/List")) (t' := .boolean) (by decide) (by decide)))).other W40 (Or.inr (Jvm.RoadKit.slot_ne (Or.inr (hw _ (List.mem_of_getElem? (i := 222) rfl))) (Or.inr (hw _ (List.mem_of_getElem? (i := 220) rfl))) (by decide) (t := (.object "java/util/List")) (t' := (.object "java/util/List")) (by decide) (by decide))))
  have f43 : Exa Z h40 a "com/example/myna/myna/orders/Order" := (f39.wr W40)
  obtain ⟨T44, h44, X44, e44, W44, st44⟩ := putF X40 hx hZ hown (host := "") (Or.inl (hw _ (List.mem_of_getElem? (i := 221) rfl))) Via.refl e40 f42 f43 (Or.inr ⟨(hw _ (List.mem_of_getElem? (i := 222) rfl)), rfl, hnm⟩) (hw _ (List.mem_of_getElem? (i := 111) rfl)) (ty := (.object "java/util/List")) (by decide) rfl rfl (g := (mkF m 61 #[.val (.ref a), .val (.long qi), .second, .val (.ref s1), .val (.ref s2), .val (.ref u), .val sv, .val (.int pb), .val (.ref b_2), .val (.ref el)] [(.ref el), (.ref a)])) rfl rfl (hb hby own_d_prog_19_method_1_code_61)
  have K45 : Keep h0 h44 [a] := K41.wr W44 (Or.inl (List.mem_of_getElem? (i := 0) rfl))
  have Fw44 : Fld Z h44 a "com/example/myna/myna/orders/Order" "payments" "Ljava/util/List;" (.ref el) := f42.same W44
  have N44 := Fr.snoc X44 N40 hp3
  have f46 : Fld Z h44 a "com/example/myna/myna/orders/Order" "awaitingAcknowledgement" "Z" (.int (nar .boolean pb)) := ((Fw36.other W40 (Or.inr (Jvm.RoadKit.slot_ne (Or.inr (hw _ (List.mem_of_getElem? (i := 218) rfl))) (Or.inr (hw _ (List.mem_of_getElem? (i := 220) rfl))) (by decide) (t := .boolean) (t' := (.object "java/util/List")) (by decide) (by decide)))).other W44 (Or.inr (Jvm.RoadKit.slot_ne (Or.inr (hw _ (List.mem_of_getElem? (i := 218) rfl))) (Or.inr (hw _ (List.mem_of_getElem? (i := 222) rfl))) (by decide) (t := .boolean) (t' := (.object "java/util/List")) (by decide) (by decide))))
  have f47 : Fld Z h44 a "com/example/myna/myna/orders/Order" "awaitingAcknowledgement" "Z" (.int pb) := by rw [show (nar .boolean pb) = pb from hpb] at f46; exact f46
  have f48 : Exa Z h44 b_2 "java/util/ImmutableCollections$List12" := ((((((((po2_2.wr W16).wr W20).wr W24).wr W28).wr W32).wr W36).wr W40).wr W44)
  have f49 : Fld Z h44 b_2 "java/util/ImmutableCollections$List12" "e0" "Ljava/lang/Object;" (.ref x) := ((((((((po2_3.other W16 (Or.inl (Ne.symm ne3))).other W20 (Or.inl (Ne.symm ne3))).other W24 (Or.inl (Ne.symm ne3))).other W28 (Or.inl (Ne.symm ne3))).other W32 (Or.inl (Ne.symm ne3))).other W36 (Or.inl (Ne.symm ne3))).other W40 (Or.inl (Ne.symm ne3))).other W44 (Or.inl (Ne.symm ne3)))
  have f50 : Fld Z h44 b_2 "java/util/ImmutableCollections$List12" "e1" "Ljava/lang/Object;" (.ref em) := ((((((((po2_4.other W16 (Or.inl (Ne.symm ne3))).other W20 (Or.inl (Ne.symm ne3))).other W24 (Or.inl (Ne.symm ne3))).other W28 (Or.inl (Ne.symm ne3))).other W32 (Or.inl (Ne.symm ne3))).other W36 (Or.inl (Ne.symm ne3))).other W40 (Or.inl (Ne.symm ne3))).other W44 (Or.inl (Ne.symm ne3)))
  have f51 : Exa Z h44 a "com/example/myna/myna/orders/Order" := (f43.wr W44)
  have f52 : Fld Z h44 a "com/example/myna/myna/orders/Order" "id" "J" (.long qi) := (((((((Fw16.other W20 (Or.inr (Jvm.RoadKit.slot_ne (Or.inr (hw _ (List.mem_of_getElem? (i := 208) rfl))) (Or.inr (hw _ (List.mem_of_getElem? (i := 210) rfl))) (by decide) (t := .long) (t' := (.object "java/lang/String")) (by decide) (by decide)))).other W24 (Or.inr (Jvm.RoadKit.slot_ne (Or.inr (hw _ (List.mem_of_getElem? (i := 208) rfl))) (Or.inr (hw _ (List.mem_of_getElem? (i := 212) rfl))) (by decide) (t := .long) (t' := (.object "java/lang/String")) (by decide) (by decide)))).other W28 (Or.inr (Jvm.RoadKit.slot_ne (Or.inr (hw _ (List.mem_of_getElem? (i := 208) rfl))) (Or.inr (hw _ (List.mem_of_getElem? (i := 214) rfl))) (by decide) (t := .long) (t' := (.object "com/example/myna/myna/orders/Order$State")) (by decide) (by decide)))).other W32 (Or.inr (Jvm.RoadKit.slot_ne (Or.inr (hw _ (List.mem_of_getElem? (i := 208) rfl))) (Or.inr (hw _ (List.mem_of_getElem? (i := 216) rfl))) (by decide) (t := .long) (t' := (.object "java/lang/String")) (by decide) (by decide)))).other W36 (Or.inr (Jvm.RoadKit.slot_ne (Or.inr (hw _ (List.mem_of_getElem? (i := 208) rfl))) (Or.inr (hw _ (List.mem_of_getElem? (i := 218) rfl))) (by decide) (t := .long) (t' := .boolean) (by decide) (by decide)))).other W40 (Or.inr (Jvm.RoadKit.slot_ne (Or.inr (hw _ (List.mem_of_getElem? (i := 208) rfl))) (Or.inr (hw _ (List.mem_of_getElem? (i := 220) rfl))) (by decide) (t := .long) (t' := (.object "java/util/List")) (by decide) (by decide)))).other W44 (Or.inr (Jvm.RoadKit.slot_ne (Or.inr (hw _ (List.mem_of_getElem? (i := 208) rfl))) (Or.inr (hw _ (List.mem_of_getElem? (i := 222) rfl))) (by decide) (t := .long) (t' := (.object "java/util/List")) (by decide) (by decide))))
  have f53 : Fld Z h44 a "com/example/myna/myna/orders/Order" "channel" "Ljava/lang/String;" (.ref s1) := ((((((Fw20.other W24 (Or.inr (Jvm.RoadKit.slot_ne (Or.inr (hw _ (List.mem_of_getElem? (i := 210) rfl))) (Or.inr (hw _ (List.mem_of_getElem? (i := 212) rfl))) (by decide) (t := (.object "java/lang/String")) (t' := (.object "java/lang/String")) (by decide) (by decide)))).other W28 (Or.inr (Jvm.RoadKit.slot_ne (Or.inr (hw _ (List.mem_of_getElem? (i := 210) rfl))) (Or.inr (hw _ (List.mem_of_getElem? (i := 214) rfl))) (by decide) (t := (.object "java/lang/String")) (t' := (.object "com/example/myna/myna/orders/Order$State")) (by decide) (by decide)))).other W32 (Or.inr (Jvm.RoadKit.slot_ne (Or.inr (hw _ (List.mem_of_getElem? (i := 210) rfl))) (Or.inr (hw _ (List.mem_of_getElem? (i := 216) rfl))) (by decide) (t := (.object "java/lang/String")) (t' := (.object "java/lang/String")) (by decide) (by decide)))).other W36 (Or.inr (Jvm.RoadKit.slot_ne (Or.inr (hw _ (List.mem_of_getElem? (i := 210) rfl))) (Or.inr (hw _ (List.mem_of_getElem? (i := 218) rfl))) (by decide) (t := (.object "java/lang/String")) (t' := .boolean) (by decide) (by decide)))).other W40 (Or.inr (Jvm.RoadKit.slot_ne (Or.inr (hw _ (List.mem_of_getElem? (i := 210) rfl))) (Or.inr (hw _ (List.mem_of_getElem? (i := 220) rfl))) (by decide) (t := (.object "java/lang/String")) (t' := (.object "java/util/List")) (by decide) (by decide)))).other W44 (Or.inr (Jvm.RoadKit.slot_ne (Or.inr (hw _ (List.mem_of_getElem? (i := 210) rfl))) (Or.inr (hw _ (List.mem_of_getElem? (i := 222) rfl))) (by decide) (t := (.object "java/lang/String")) (t' := (.object "java/util/List")) (by decide) (by decide))))
  have f54 : Fld Z h44 a "com/example/myna/myna/orders/Order" "externalId" "Ljava/lang/String;" (.ref s2) := (((((Fw24.other W28 (Or.inr (Jvm.RoadKit.slot_ne (Or.inr (hw _ (List.mem_of_getElem? (i := 212) rfl))) (Or.inr (hw _ (List.mem_of_getElem? (i := 214) rfl))) (by decide) (t := (.object "java/lang/String")) (t' := (.object "com/example/myna/myna/orders/Order$State")) (by decide) (by decide)))).other W32 (Or.inr (Jvm.RoadKit.slot_ne (Or.inr (hw _ (List.mem_of_getElem? (i := 212) rfl))) (Or.inr (hw _ (List.mem_of_getElem? (i := 216) rfl))) (by decide) (t := (.object "java/lang/String")) (t' := (.object "java/lang/String")) (by decide) (by decide)))).other W36 (Or.inr (Jvm.RoadKit.slot_ne (Or.inr (hw _ (List.mem_of_getElem? (i := 212) rfl))) (Or.inr (hw _ (List.mem_of_getElem? (i := 218) rfl))) (by decide) (t := (.object "java/lang/String")) (t' := .boolean) (by decide) (by decide)))).other W40 (Or.inr (Jvm.RoadKit.slot_ne (Or.inr (hw _ (List.mem_of_getElem? (i := 212) rfl))) (Or.inr (hw _ (List.mem_of_getElem? (i := 220) rfl))) (by decide) (t := (.object "java/lang/String")) (t' := (.object "java/util/List")) (by decide) (by decide)))).other W44 (Or.inr (Jvm.RoadKit.slot_ne (Or.inr (hw _ (List.mem_of_getElem? (i := 212) rfl))) (Or.inr (hw _ (List.mem_of_getElem? (i := 222) rfl))) (by decide) (t := (.object "java/lang/String")) (t' := (.object "java/util/List")) (by decide) (by decide))))
  have f55 : Fld Z h44 a "com/example/myna/myna/orders/Order" "state" "Lcom/example/myna/myna/orders/Order$State;" (.ref u) := ((((Fw28.other W32 (Or.inr (Jvm.RoadKit.slot_ne (Or.inr (hw _ (List.mem_of_getElem? (i := 214) rfl))) (Or.inr (hw _ (List.mem_of_getElem? (i := 216) rfl))) (by decide) (t := (.object "com/example/myna/myna/orders/Order$State")) (t' := (.object "java/lang/String")) (by decide) (by decide)))).other W36 (Or.inr (Jvm.RoadKit.slot_ne (Or.inr (hw _ (List.mem_of_getElem? (i := 214) rfl))) (Or.inr (hw _ (List.mem_of_getElem? (i := 218) rfl))) (by decide) (t := (.object "com/example/myna/myna/orders/Order$State")) (t' := .boolean) (by decide) (by decide)))).other W40 (Or.inr (Jvm.RoadKit.slot_ne (Or.inr (hw _ (List.mem_of_getElem? (i := 214) rfl))) (Or.inr (hw _ (List.mem_of_getElem? (i := 220) rfl))) (by decide) (t := (.object "com/example/myna/myna/orders/Order$State")) (t' := (.object "java/util/List")) (by decide) (by decide)))).other W44 (Or.inr (Jvm.RoadKit.slot_ne (Or.inr (hw _ (List.mem_of_getElem? (i := 214) rfl))) (Or.inr (hw _ (List.mem_of_getElem? (i := 222) rfl))) (by decide) (t := (.object "com/example/myna/myna/orders/Order$State")) (t' := (.object "java/util/List")) (by decide) (by decide))))
  have f56 : Fld Z h44 a "com/example/myna/myna/orders/Order" "externalState" "Ljava/lang/String;" sv := (((Fw32.other W36 (Or.inr (Jvm.RoadKit.slot_ne (Or.inr (hw _ (List.mem_of_getElem? (i := 216) rfl))) (Or.inr (hw _ (List.mem_of_getElem? (i := 218) rfl))) (by decide) (t := (.object "java/lang/String")) (t' := .boolean) (by decide) (by decide)))).other W40 (Or.inr (Jvm.RoadKit.slot_ne (Or.inr (hw _ (List.mem_of_getElem? (i := 216) rfl))) (Or.inr (hw _ (List.mem_of_getElem? (i := 220) rfl))) (by decide) (t := (.object "java/lang/String")) (t' := (.object "java/util/List")) (by decide) (by decide)))).other W44 (Or.inr (Jvm.RoadKit.slot_ne (Or.inr (hw _ (List.mem_of_getElem? (i := 216) rfl))) (Or.inr (hw _ (List.mem_of_getElem? (i := 222) rfl))) (by decide) (t := (.object "java/lang/String")) (t' := (.object "java/util/List")) (by decide) (by decide))))
  have f57 : Fld Z h44 a "com/example/myna/myna/orders/Order" "lines" "Ljava/util/List;" (.ref b_2) := (Fw40.other W44 (Or.inr (Jvm.RoadKit.slot_ne (Or.inr (hw _ (List.mem_of_getElem? (i := 220) rfl))) (Or.inr (hw _ (List.mem_of_getElem? (i := 222) rfl))) (by decide) (t := (.object "java/util/List")) (t' := (.object "java/util/List")) (by decide) (by decide))))
  obtain ⟨fs, hr, hrun, hended, hW, hsame⟩ := X44.leave (v := none) (fun _ => rfl)
  refine ⟨_, _, r0 _ ?_, hrun, hended, _, _, rfl, ?_, ⟨_, rfl⟩, hW, hsame.mono (by decide) (by decide)⟩
  · show Steps p.tables e below (s₁.setTop (mkF m 0 #[.val (.ref a), .val (.long qi), .second, .val (.ref s1), .val (.ref s2), .val (.ref u), .val sv, .val (.int pb), .val (.ref li), .val (.ref pa)] [])) _
    refine XS.aloadN X0.here hx rfl (hb hby own_d_prog_19_method_1_code_0) rfl rfl ?_
    show Steps p.tables e below (s₁.setTop (mkF m 1 #[.val (.ref a), .val (.long qi), .second, .val (.ref s1), .val (.ref s2), .val (.ref u), .val sv, .val (.int pb), .val (.ref li), .val (.ref pa)] [(.ref a)])) _
    refine st1.trans ?_
    show Steps p.tables e below (T1.setTop (mkF m 4 #[.val (.ref a), .val (.long qi), .second, .val (.ref s1), .val (.ref s2), .val (.ref u), .val sv, .val (.int pb), .val (.ref li), .val (.ref pa)] [])) _
    refine XS.aload X1.here hx rfl (hb hby own_d_prog_19_method_1_code_4) rfl rfl ?_
    show Steps p.tables e below (T1.setTop (mkF m 6 #[.val (.ref a), .val (.long qi), .second, .val (.ref s1), .val (.ref s2), .val (.ref u), .val sv, .val (.int pb), .val (.ref li), .val (.ref pa)] [(.ref li)])) _
    refine st2 _ ?_
    show Steps p.tables e below (T2.setTop (mkF m 9 #[.val (.ref a), .val (.long qi), .second, .val (.ref s1), .val (.ref s2), .val (.ref u), .val sv, .val (.int pb), .val (.ref li), .val (.ref pa)] [(.ref b_2)])) _
    refine XS.astore X2.here hx rfl (hb hby own_d_prog_19_method_1_code_9) rfl rfl (l' := #[.val (.ref a), .val (.long qi), .second, .val (.ref s1), .val (.ref s2), .val (.ref u), .val sv, .val (.int pb), .val (.ref b_2), .val (.ref pa)]) rfl ?_
    show Steps p.tables e below (T2.setTop (mkF m 11 #[.val (.ref a), .val (.long qi), .second, .val (.ref s1), .val (.ref s2), .val (.ref u), .val sv, .val (.int pb), .val (.ref b_2), .val (.ref pa)] [])) _
    refine XS.aload X2.here hx rfl (hb hby own_d_prog_19_method_1_code_11) rfl rfl ?_
    show Steps p.tables e below (T2.setTop (mkF m 13 #[.val (.ref a), .val (.long qi), .second, .val (.ref s1), .val (.ref s2), .val (.ref u), .val sv, .val (.int pb), .val (.ref b_2), .val (.ref pa)] [(.ref pa)])) _
    refine st13 _ ?_
    show Steps p.tables e below (T13.setTop (mkF m 16 #[.val (.ref a), .val (.long qi), .second, .val (.ref s1), .val (.ref s2), .val (.ref u), .val sv, .val (.int pb), .val (.ref b_2), .val (.ref pa)] [(.ref el)])) _
    refine XS.astore X13.here hx rfl (hb hby own_d_prog_19_method_1_code_16) rfl rfl (l' := #[.val (.ref a), .val (.long qi), .second, .val (.ref s1), .val (.ref s2), .val (.ref u), .val sv, .val (.int pb), .val (.ref b_2), .val (.ref el)]) rfl ?_
    show Steps p.tables e below (T13.setTop (mkF m 18 #[.val (.ref a), .val (.long qi), .second, .val (.ref s1), .val (.ref s2), .val (.ref u), .val sv, .val (.int pb), .val (.ref b_2), .val (.ref el)] [])) _
    refine XS.aloadN X13.here hx rfl (hb hby own_d_prog_19_method_1_code_18) rfl rfl ?_
    show Steps p.tables e below (T13.setTop (mkF m 19 #[.val (.ref a), .val (.long qi), .second, .val (.ref s1), .val (.ref s2), .val (.ref u), .val sv, .val (.int pb), .val (.ref b_2), .val (.ref el)] [(.ref a)])) _
    refine XS.lloadN X13.here hx rfl (hb hby own_d_prog_19_method_1_code_19) rfl ?_
    show Steps p.tables e below (T13.setTop (mkF m 20 #[.val (.ref a), .val (.long qi), .second, .val (.ref s1), .val (.ref s2), .val (.ref u), .val sv, .val (.int pb), .val (.ref b_2), .val (.ref el)] [(.long qi), (.ref a)])) _
    refine st16 _ ?_
    show Steps p.tables e below (T16.setTop (mkF m 23 #[.val (.ref a), .val (.long qi), .second, .val (.ref s1), .val (.ref s2), .val (.ref u), .val sv, .val (.int pb), .val (.ref b_2), .val (.ref el)] [])) _
    refine XS.aloadN X16.here hx rfl (hb hby own_d_prog_19_method_1_code_23) rfl rfl ?_
    show Steps p.tables e below (T16.setTop (mkF m 24 #[.val (.ref a), .val (.long qi), .second, .val (.ref s1), .val (.ref s2), .val (.ref u), .val sv, .val (.int pb), .val (.ref b_2), .val (.ref el)] [(.ref a)])) _
    refine XS.aloadN X16.here hx rfl (hb hby own_d_prog_19_method_1_code_24) rfl rfl ?_
    show Steps p.tables e below (T16.setTop (mkF m 25 #[.val (.ref a), .val (.long qi), .second, .val (.ref s1), .val (.ref s2), .val (.ref u), .val sv, .val (.int pb), .val (.ref b_2), .val (.ref el)] [(.ref s1), (.ref a)])) _
    refine st20 _ ?_
    show Steps p.tables e below (T20.setTop (mkF m 28 #[.val (.ref a), .val (.long qi), .second, .val (.ref s1), .val (.ref s2), .val (.ref u), .val sv, .val (.int pb), .val (.ref b_2), .val (.ref el)] [])) _
    refine XS.aloadN X20.here hx rfl (hb hby own_d_prog_19_method_1_code_28) rfl rfl ?_
    show Steps p.tables e below (T20.setTop (mkF m 29 #[.val (.ref a), .val (.long qi), .second, .val (.ref s1), .val (.ref s2), .val (.ref u), .val sv, .val (.int pb), .val (.ref b_2), .val (.ref el)] [(.ref a)])) _
    refine XS.aload X20.here hx rfl (hb hby own_d_prog_19_method_1_code_29) rfl rfl ?_
    show Steps p.tables e below (T20.setTop (mkF m 31 #[.val (.ref a), .val (.long qi), .second, .val (.ref s1), .val (.ref s2), .val (.ref u), .val sv, .val (.int pb), .val (.ref b_2), .val (.ref el)] [(.ref s2), (.ref a)])) _
    refine st24 _ ?_
    show Steps p.tables e below (T24.setTop (mkF m 34 #[.val (.ref a), .val (.long qi), .second, .val (.ref s1), .val (.ref s2), .val (.ref u), .val sv, .val (.int pb), .val (.ref b_2), .val (.ref el)] [])) _
    refine XS.aloadN X24.here hx rfl (hb hby own_d_prog_19_method_1_code_34) rfl rfl ?_
    show Steps p.tables e below (T24.setTop (mkF m 35 #[.val (.ref a), .val (.long qi), .second, .val (.ref s1), .val (.ref s2), .val (.ref u), .val sv, .val (.int pb), .val (.ref b_2), .val (.ref el)] [(.ref a)])) _
    refine XS.aload X24.here hx rfl (hb hby own_d_prog_19_method_1_code_35) rfl rfl ?_
    show Steps p.tables e below (T24.setTop (mkF m 37 #[.val (.ref a), .val (.long qi), .second, .val (.ref s1), .val (.ref s2), .val (.ref u), .val sv, .val (.int pb), .val (.ref b_2), .val (.ref el)] [(.ref u), (.ref a)])) _
    refine st28 _ ?_
    show Steps p.tables e below (T28.setTop (mkF m 40 #[.val (.ref a), .val (.long qi), .second, .val (.ref s1), .val (.ref s2), .val (.ref u), .val sv, .val (.int pb), .val (.ref b_2), .val (.ref el)] [])) _
    refine XS.aloadN X28.here hx rfl (hb hby own_d_prog_19_method_1_code_40) rfl rfl ?_
    show Steps p.tables e below (T28.setTop (mkF m 41 #[.val (.ref a), .val (.long qi), .second, .val (.ref s1), .val (.ref s2), .val (.ref u), .val sv, .val (.int pb), .val (.ref b_2), .val (.ref el)] [(.ref a)])) _
    refine XS.aload X28.here hx rfl (hb hby own_d_prog_19_method_1_code_41) rfl hsv ?_
    show Steps p.tables e below (T28.setTop (mkF m 43 #[.val (.ref a), .val (.long qi), .second, .val (.ref s1), .val (.ref s2), .val (.ref u), .val sv, .val (.int pb), .val (.ref b_2), .val (.ref el)] [sv, (.ref a)])) _
    refine st32 _ ?_
    show Steps p.tables e below (T32.setTop (mkF m 46 #[.val (.ref a), .val (.long qi), .second, .val (.ref s1), .val (.ref s2), .val (.ref u), .val sv, .val (.int pb), .val (.ref b_2), .val (.ref el)] [])) _
    refine XS.aloadN X32.here hx rfl (hb hby own_d_prog_19_method_1_code_46) rfl rfl ?_
    show Steps p.tables e below (T32.setTop (mkF m 47 #[.val (.ref a), .val (.long qi), .second, .val (.ref s1), .val (.ref s2), .val (.ref u), .val sv, .val (.int pb), .val (.ref b_2), .val (.ref el)] [(.ref a)])) _
    refine XS.iload X32.here hx rfl (hb hby own_d_prog_19_method_1_code_47) rfl ?_
    show Steps p.tables e below (T32.setTop (mkF m 49 #[.val (.ref a), .val (.long qi), .second, .val (.ref s1), .val (.ref s2), .val (.ref u), .val sv, .val (.int pb), .val (.ref b_2), .val (.ref el)] [(.int pb), (.ref a)])) _
    refine st36 _ ?_
    show Steps p.tables e below (T36.setTop (mkF m 52 #[.val (.ref a), .val (.long qi), .second, .val (.ref s1), .val (.ref s2), .val (.ref u), .val sv, .val (.int pb), .val (.ref b_2), .val (.ref el)] [])) _
    refine XS.aloadN X36.here hx rfl (hb hby own_d_prog_19_method_1_code_52) rfl rfl ?_
    show Steps p.tables e below (T36.setTop (mkF m 53 #[.val (.ref a), .val (.long qi), .second, .val (.ref s1), .val (.ref s2), .val (.ref u), .val sv, .val (.int pb), .val (.ref b_2), .val (.ref el)] [(.ref a)])) _
    refine XS.aload X36.here hx rfl (hb hby own_d_prog_19_method_1_code_53) rfl rfl ?_
    show Steps p.tables e below (T36.setTop (mkF m 55 #[.val (.ref a), .val (.long qi), .second, .val (.ref s1), .val (.ref s2), .val (.ref u), .val sv, .val (.int pb), .val (.ref b_2), .val (.ref el)] [(.ref b_2), (.ref a)])) _
    refine st40 _ ?_
    show Steps p.tables e below (T40.setTop (mkF m 58 #[.val (.ref a), .val (.long qi), .second, .val (.ref s1), .val (.ref s2), .val (.ref u), .val sv, .val (.int pb), .val (.ref b_2), .val (.ref el)] [])) _
    refine XS.aloadN X40.here hx rfl (hb hby own_d_prog_19_method_1_code_58) rfl rfl ?_
    show Steps p.tables e below (T40.setTop (mkF m 59 #[.val (.ref a), .val (.long qi), .second, .val (.ref s1), .val (.ref s2), .val (.ref u), .val sv, .val (.int pb), .val (.ref b_2), .val (.ref el)] [(.ref a)])) _
    refine XS.aload X40.here hx rfl (hb hby own_d_prog_19_method_1_code_59) rfl rfl ?_
    show Steps p.tables e below (T40.setTop (mkF m 61 #[.val (.ref a), .val (.long qi), .second, .val (.ref s1), .val (.ref s2), .val (.ref u), .val sv, .val (.int pb), .val (.ref b_2), .val (.ref el)] [(.ref el), (.ref a)])) _
    refine st44 _ ?_
    show Steps p.tables e below (T44.setTop (mkF m 64 #[.val (.ref a), .val (.long qi), .second, .val (.ref s1), .val (.ref s2), .val (.ref u), .val sv, .val (.int pb), .val (.ref b_2), .val (.ref el)] [])) _
    exact X44.returnOut hx Bd.returns (hb hby own_d_prog_19_method_1_code_64) hr
  · show Q_own_ord1 Z a qi s1 s2 u sv pb li pa ar ka x mr em el h0 n0 _ T44.heap _
    rw [e44]
    exact ⟨b_2, rfl, N44, K45, b9, po2_1, f48, f49, f50, f51, f52, f53, f54, f55, f56, f47, f57, Fw44⟩
theorem own_pn_own_ord2 : plainName "com/example/myna/myna/orders/Order" = true := by first | (simp [plainName, overriddenIn]; done) | decide +kernel
theorem own_ef_own_ord2 (m : MethodId) (a : Addr) (qi : Int64) (s1 : Addr) (s2 : Addr) (u : Addr) (sv : Value) (pb : Int32) (li : Addr) (pa : Addr) (hcv0 : sv.category = 1) : entryFrame m #[(.ref a), (.long qi), (.ref s1), (.ref s2), (.ref u), sv, (.int pb), (.ref li), (.ref pa)] 10 = mkF m 0 #[.val (.ref a), .val (.long qi), .second, .val (.ref s1), .val (.ref s2), .val (.ref u), .val sv, .val (.int pb), .val (.ref li), .val (.ref pa)] [] := by first | (simp [entryFrame, mkF, argsToLocals, own_cI, own_cJ, own_cR, own_cN, hcv0]; done) | rfl
abbrev own_F_own_ord2 (m : MethodId) (a : Addr) (qi : Int64) (s1 : Addr) (s2 : Addr) (u : Addr) (sv : Value) (pb : Int32) (li : Addr) (pa : Addr) : JFrame := entryFrame m #[(.ref a), (.long qi), (.ref s1), (.ref s2), (.ref u), sv, (.int pb), (.ref li), (.ref pa)] 10
def Q_own_ord2 (Z : State) (a : Addr) (qi : Int64) (s1 : Addr) (s2 : Addr) (u : Addr) (sv : Value) (pb : Int32) (li : Addr) (pa : Addr) (h0 : Heap) (n0 : Nat) (v : Option Value) (h : Heap) (L : List Loc) : Prop := v = none ∧ Fr n0 L ∧ Keep h0 h [a] ∧ (Exa Z h a "com/example/myna/myna/orders/Order") ∧ (Fld Z h a "com/example/myna/myna/orders/Order" "id" "J" (.long qi)) ∧ (Fld Z h a "com/example/myna/myna/orders/Order" "channel" "Ljava/lang/String;" (.ref s1)) ∧ (Fld Z h a "com/example/myna/myna/orders/Order" "externalId" "Ljava/lang/String;" (.ref s2)) ∧ (Fld Z h a "com/example/myna/myna/orders/Order" "state" "Lcom/example/myna/myna/orders/Order$State;" (.ref u)) ∧ (Fld Z h a "com/example/myna/myna/orders/Order" "externalState" "Ljava/lang/String;" sv) ∧ (Fld Z h a "com/example/myna/myna/orders/Order" "awaitingAcknowledgement" "Z" (.int pb)) ∧ (Fld Z h a "com/example/myna/myna/orders/Order" "lines" "Ljava/util/List;" (.ref li)) ∧ (Fld Z h a "com/example/myna/myna/orders/Order" "payments" "Ljava/util/List;" (.ref pa))
set_option maxRecDepth 65536 in
set_option maxHeartbeats 40000000 in
theorem own_ord2 (l : Launch) (Z : State) (a0 : Array Value) (hw : ∀ d ∈ tables_1, d.before a0 Z = true) (ws : List Jvm.Cond) (a : Addr) (qi : Int64) (s1 : Addr) (s2 : Addr) (u : Addr) (sv : Value) (pb : Int32) (li : Addr) (pa : Addr) (h0 : Heap) (n0 : Nat) (O0 : Old Z n0 h0) (hsv : sv.isRef = true) (hpb : nar .boolean pb = pb) (hp2 : Exa Z h0 a "com/example/myna/myna/orders/Order") (hp3 : n0 ≤ a) (hp4 : Fld Z h0 a "com/example/myna/myna/orders/Order" "id" "J" (.long (0 : Int64))) (hp5 : Fld Z h0 a "com/example/myna/myna/orders/Order" "channel" "Ljava/lang/String;" .null) (hp6 : Fld Z h0 a "com/example/myna/myna/orders/Order" "externalId" "Ljava/lang/String;" .null) (hp7 : Fld Z h0 a "com/example/myna/myna/orders/Order" "state" "Lcom/example/myna/myna/orders/Order$State;" .null) (hp8 : Fld Z h0 a "com/example/myna/myna/orders/Order" "externalState" "Ljava/lang/String;" .null) (hp9 : Fld Z h0 a "com/example/myna/myna/orders/Order" "awaitingAcknowledgement" "Z" (.int (0 : Int32))) (hp10 : Fld Z h0 a "com/example/myna/myna/orders/Order" "lines" "Ljava/util/List;" .null) (hp11 : Fld Z h0 a "com/example/myna/myna/orders/Order" "payments" "Ljava/util/List;" .null) (hp12 : Exa Z h0 li "java/util/ImmutableCollections$List12") (hp13 : Exa Z Z.heap pa "java/util/ImmutableCollections$ListN") (hp14 : Fld Z Z.heap pa "java/util/ImmutableCollections$ListN" "allowNulls" "Z" (.int (0 : Int32))) :
    MetFree l (⟨"com/example/myna/myna/orders/Order", "<init>", "(JLjava/lang/String;Ljava/lang/String;Lcom/example/myna/myna/orders/Order$State;Ljava/lang/String;ZLjava/util/List;Ljava/util/List;)V"⟩ : MethodName) (head1 (Jvm.Cond.code (⟨"com/example/myna/myna/orders/Order", "<init>", "(JLjava/lang/String;Ljava/lang/String;Lcom/example/myna/myna/orders/Order$State;Ljava/lang/String;ZLjava/util/List;Ljava/util/List;)V"⟩ : MethodName) prog_19_method_1_code 10 none :: ws) ({ frames := 2, cells := 0, slots := 0, locals := 25 } : Room)) (fun aa_ U_ => aa_ = #[(.ref a), (.long qi), (.ref s1), (.ref s2), (.ref u), sv, (.int pb), (.ref li), (.ref pa)] ∧ Z.Warmed39 U_.vm ∧ U_.heap = h0) (fun _ _ _ _ _ => True) (fun _ U_ o_ V_ => ∃ v_ L_, o_ = .returned v_ ∧ Q_own_ord2 Z a qi s1 s2 u sv pb li pa h0 n0 v_ V_.heap L_ ∧ FrameEnd U_ o_ V_ L_ ({ frames := 2, cells := 0, slots := 0, locals := 25 } : Room).cells ({ frames := 2, cells := 0, slots := 0, locals := 25 } : Room).slots) := by
  refine MetFree.of_bodySF (plainFor_of_name own_pn_own_ord2) hisR ?_
  intro p e s m args below meth c s₁ Bd hml0 hP hK
  obtain ⟨rfl, hZ, hh⟩ := hP
  have hx := Bd.exec
  have hby := Bd.bytes
  have hml : c.maxLocals = 10 := hml0
  have hown : s.vm.findClass "com/example/myna/myna/orders/Order" = some m.cls := findClass_of_methodNamed Bd.named
  have hnm := (name_of_methodNamed Bd.named Bd.method).1
  have X0 : Stand p l e ({ frames := 2, cells := 0, slots := 0, locals := 25 } : Room) s m #[(.ref a), (.long qi), (.ref s1), (.ref s2), (.ref u), sv, (.int pb), (.ref li), (.ref pa)] below meth c s₁ [] 0 0 := Stand.of_body Bd
  have e0 : s₁.heap = h0 := by rw [← hh, Bd.state]; rfl
  have N0 := Fr.nil n0
  have K0 : Keep h0 h0 [a] := Keep.refl _ _
  have r0 : GoTo p.tables e below s₁ (own_F_own_ord2 m a qi s1 s2 u sv pb li pa) s₁ (mkF m 0 #[.val (.ref a), .val (.long qi), .second, .val (.ref s1), .val (.ref s2), .val (.ref u), .val sv, .val (.int pb), .val (.ref li), .val (.ref pa)] []) := fun tt_ kk_ => castTop (own_ef_own_ord2 m a qi s1 s2 u sv pb li pa (own_cat hsv)) kk_
  obtain ⟨_, _, ⟨T1, L1, k1, n1⟩, -, X1, ⟨Lc1, hQ1, l1, y1, z1⟩, st1⟩ := X0.specialBack hx (y := (⟨"java/lang/Record", "<init>", "()V"⟩ : MethodName)) rfl hown (mvT hZ (hw _ (List.mem_of_getElem? (i := 116) rfl))) (mvT hZ (hw _ (List.mem_of_getElem? (i := 44) rfl))) (mvT hZ (hw _ (List.mem_of_getElem? (i := 47) rfl))) (by decide) (backOf (W := 0) (own_rec l Z a0 hw [] (a) h0 n0 (O0.keep K0 (allS hp3 all0))) hZ (hw _ (List.mem_of_getElem? (i := 47) rfl)) (hw _ (List.mem_of_getElem? (i := 46) rfl)) (by decide) (by decide)) (g := (mkF m 1 #[.val (.ref a), .val (.long qi), .second, .val (.ref s1), .val (.ref s2), .val (.ref u), .val sv, .val (.int pb), .val (.ref li), .val (.ref pa)] [(.ref a)])) rfl (by rw [hml]; rfl) (Steps.refl _) (a := a) (argsL := []) (rest := []) (lenOf own_pd0 rfl) rfl (by show 2 * 0 + _ ≤ _; exact Nat.le_of_eq rfl) (hb hby own_d_prog_19_method_1_code_1) (fun _ _ => ⟨rfl, e0, (by decide : 0 + 0 ≤ _), (by decide : 0 + 0 ≤ _)⟩)
  dsimp only [Pt.U, Pt.locs, Pt.cells, Pt.slots] at X1 l1 y1 z1 st1 hQ1
  subst l1 y1 z1
  obtain ⟨rfl, Nq1, hh1⟩ := hQ1
  have N1 := Fr.app N0 Nq1
  obtain ⟨_, _, ⟨T2, L2, k2, n2⟩, -, X2, ⟨Lc2, hQ2, l2, y2, z2⟩, st2⟩ := Jvm.LawKit.callS X1 hx (y := (⟨"java/util/List", "copyOf", "(Ljava/util/Collection;)Ljava/util/List;"⟩ : MethodName)) hown (mvT hZ (hw _ (List.mem_of_getElem? (i := 117) rfl))) (mvT hZ (hw _ (List.mem_of_getElem? (i := 118) rfl))) (mvT hZ (hw _ (List.mem_of_getElem? (i := 119) rfl))) (mvT hZ (hw _ (List.mem_of_getElem? (i := 120) rfl))) (by decide) (backOf (W := 0) (own_cpl_l12 l Z a0 hw [] (li) h0 n0 (O0.keep K0 (allS hp3 all0)) (hp12)) hZ (hw _ (List.mem_of_getElem? (i := 120) rfl)) (hw _ (List.mem_of_getElem? (i := 119) rfl)) (by decide) (by decide)) (g := (mkF m 6 #[.val (.ref a), .val (.long qi), .second, .val (.ref s1), .val (.ref s2), .val (.ref u), .val sv, .val (.int pb), .val (.ref li), .val (.ref pa)] [(.ref li)])) rfl (by rw [hml]; rfl) (argsL := [(.ref li)]) (rest := []) (lenOf own_pd11 rfl) rfl (by show 2 * 0 + _ ≤ _; exact Nat.le_of_eq rfl) (hb hby own_d_prog_19_method_1_code_6) (fun _ _ => ⟨rfl, hh1, (by decide : 0 + 0 ≤ _), (by decide : 0 + 0 ≤ _)⟩)
  dsimp only [Pt.U, Pt.locs, Pt.cells, Pt.slots] at X2 l2 y2 z2 st2 hQ2
  subst l2 y2 z2
  obtain ⟨rfl, Nq2, hh2⟩ := hQ2
  have N2 := Fr.app N1 Nq2
  obtain ⟨_, _, ⟨T3, L3, k3, n3⟩, -, X3, ⟨Lc3, hQ3, l3, y3, z3⟩, st3⟩ := Jvm.LawKit.callS X2 hx (y := (⟨"java/util/List", "copyOf", "(Ljava/util/Collection;)Ljava/util/List;"⟩ : MethodName)) hown (mvT hZ (hw _ (List.mem_of_getElem? (i := 117) rfl))) (mvT hZ (hw _ (List.mem_of_getElem? (i := 118) rfl))) (mvT hZ (hw _ (List.mem_of_getElem? (i := 119) rfl))) (mvT hZ (hw _ (List.mem_of_getElem? (i := 120) rfl))) (by decide) (backOf (W := 0) (own_cpl_ln l Z a0 hw [] (pa) h0 n0 (O0.keep K0 (allS hp3 all0)) (hp13) (hp14)) hZ (hw _ (List.mem_of_getElem? (i := 120) rfl)) (hw _ (List.mem_of_getElem? (i := 119) rfl)) (by decide) (by decide)) (g := (mkF m 13 #[.val (.ref a), .val (.long qi), .second, .val (.ref s1), .val (.ref s2), .val (.ref u), .val sv, .val (.int pb), .val (.ref li), .val (.ref pa)] [(.ref pa)])) rfl (by rw [hml]; rfl) (argsL := [(.ref pa)]) (rest := []) (lenOf own_pd11 rfl) rfl (by show 2 * 0 + _ ≤ _; exact Nat.le_of_eq rfl) (hb hby own_d_prog_19_method_1_code_13) (fun _ _ => ⟨rfl, hh2, (by decide : 0 + 0 ≤ _), (by decide : 0 + 0 ≤ _)⟩)
  dsimp only [Pt.U, Pt.locs, Pt.cells, Pt.slots] at X3 l3 y3 z3 st3 hQ3
  subst l3 y3 z3
  obtain ⟨rfl, Nq3, hh3⟩ := hQ3
  have N3 := Fr.app N2 Nq3
  obtain ⟨T4, h4, X4, e4, W4, st4⟩ := putF X3 hx hZ hown (host := "") (Or.inl (hw _ (List.mem_of_getElem? (i := 207) rfl))) Via.refl hh3 hp4 hp2 (Or.inr ⟨(hw _ (List.mem_of_getElem? (i := 208) rfl)), rfl, hnm⟩) (hw _ (List.mem_of_getElem? (i := 111) rfl)) (ty := .long) (by decide) rfl rfl (g := (mkF m 20 #[.val (.ref a), .val (.long qi), .second, .val (.ref s1), .val (.ref s2), .val (.ref u), .val sv, .val (.int pb), .val (.ref li), .val (.ref pa)] [(.long qi), (.ref a)])) rfl rfl (hb hby own_d_prog_19_method_1_code_20)
  have K5 : Keep h0 h4 [a] := K0.wr W4 (Or.inl (List.mem_of_getElem? (i := 0) rfl))
  have Fw4 : Fld Z h4 a "com/example/myna/myna/orders/Order" "id" "J" (.long qi) := hp4.same W4
  have N4 := Fr.snoc X4 N3 hp3
  have f6 : Fld Z h4 a "com/example/myna/myna/orders/Order" "channel" "Ljava/lang/String;" .null := (hp5.other W4 (Or.inr (Jvm.RoadKit.slot_ne (Or.inr (hw _ (List.mem_of_getElem? (i := 210) rfl))) (Or.inr (hw _ (List.mem_of_getElem? (i := 208) rfl))) (by decide) (t := (.object "java/lang/String")) (t' := .long) (by decide) (by decide))))
  have f7 : Exa Z h4 a "com/example/myna/myna/orders/Order" := (hp2.wr W4)
  obtain ⟨T8, h8, X8, e8, W8, st8⟩ := putF X4 hx hZ hown (host := "") (Or.inl (hw _ (List.mem_of_getElem? (i := 209) rfl))) Via.refl e4 f6 f7 (Or.inr ⟨(hw _ (List.mem_of_getElem? (i := 210) rfl)), rfl, hnm⟩) (hw _ (List.mem_of_getElem? (i := 111) rfl)) (ty := (.object "java/lang/String")) (by decide) rfl rfl (g := (mkF m 25 #[.val (.ref a), .val (.long qi), .second, .val (.ref s1), .val (.ref s2), .val (.ref u), .val sv, .val (.int pb), .val (.ref li), .val (.ref pa)] [(.ref s1), (.ref a)])) rfl rfl (hb hby own_d_prog_19_method_1_code_25)
  have K9 : Keep h0 h8 [a] := K5.wr W8 (Or.inl (List.mem_of_getElem? (i := 0) rfl))
  have Fw8 : Fld Z h8 a "com/example/myna/myna/orders/Order" "channel" "Ljava/lang/String;" (.ref s1) := f6.same W8
  have N8 := Fr.snoc X8 N4 hp3
  have f10 : Fld Z h8 a "com/example/myna/myna/orders/Order" "externalId" "Ljava/lang/String;" .null := ((hp6.other W4 (Or.inr (Jvm.RoadKit.slot_ne (Or.inr (hw _ (List.mem_of_getElem? (i := 212) rfl))) (Or.inr (hw _ (List.mem_of_getElem? (i := 208) rfl))) (by decide) (t := (.object "java/lang/String")) (t' := .long) (by decide) (by decide)))).other W8 (Or.inr (Jvm.RoadKit.slot_ne (Or.inr (hw _ (List.mem_of_getElem? (i := 212) rfl))) (Or.inr (hw _ (List.mem_of_getElem? (i := 210) rfl))) (by decide) (t := (.object "java/lang/String")) (t' := (.object "java/lang/String")) (by decide) (by decide))))
  have f11 : Exa Z h8 a "com/example/myna/myna/orders/Order" := (f7.wr W8)
  obtain ⟨T12, h12, X12, e12, W12, st12⟩ := putF X8 hx hZ hown (host := "") (Or.inl (hw _ (List.mem_of_getElem? (i := 211) rfl))) Via.refl e8 f10 f11 (Or.inr ⟨(hw _ (List.mem_of_getElem? (i := 212) rfl)), rfl, hnm⟩) (hw _ (List.mem_of_getElem? (i := 111) rfl)) (ty := (.object "java/lang/String")) (by decide) rfl rfl (g := (mkF m 31 #[.val (.ref a), .val (.long qi), .second, .val (.ref s1), .val (.ref s2), .val (.ref u), .val sv, .val (.int pb), .val (.ref li), .val (.ref pa)] [(.ref s2), (.ref a)])) rfl rfl (hb hby own_d_prog_19_method_1_code_31)
  have K13 : Keep h0 h12 [a] := K9.wr W12 (Or.inl (List.mem_of_getElem? (i := 0) rfl))
  have Fw12 : Fld Z h12 a "com/example/myna/myna/orders/Order" "externalId" "Ljava/lang/String;" (.ref s2) := f10.same W12
  have N12 := Fr.snoc X12 N8 hp3
  have f14 : Fld Z h12 a "com/example/myna/myna/orders/Order" "state" "Lcom/example/myna/myna/orders/Order$State;" .null := (((hp7.other W4 (Or.inr (Jvm.RoadKit.slot_ne (Or.inr (hw _ (List.mem_of_getElem? (i := 214) rfl))) (Or.inr (hw _ (List.mem_of_getElem? (i := 208) rfl))) (by decide) (t := (.object "com/example/myna/myna/orders/Order$State")) (t' := .long) (by decide) (by decide)))).other W8 (Or.inr (Jvm.RoadKit.slot_ne (Or.inr (hw _ (List.mem_of_getElem? (i := 214) rfl))) (Or.inr (hw _ (List.mem_of_getElem? (i := 210) rfl))) (by decide) (t := (.object "com/example/myna/myna/orders/Order$State")) (t' := (.object "java/lang/String")) (by decide) (by decide)))).other W12 (Or.inr (Jvm.RoadKit.slot_ne (Or.inr (hw _ (List.mem_of_getElem? (i := 214) rfl))) (Or.inr (hw _ (List.mem_of_getElem? (i := 212) rfl))) (by decide) (t := (.object "com/example/myna/myna/orders/Order$State")) (t' := (.object "java/lang/String")) (by decide) (by decide))))
  have f15 : Exa Z h12 a "com/example/myna/myna/orders/Order" := (f11.wr W12)
  obtain ⟨T16, h16, X16, e16, W16, st16⟩ := putF X12 hx hZ hown (host := "") (Or.inl (hw _ (List.mem_of_getElem? (i := 213) rfl))) Via.refl e12 f14 f15 (Or.inr ⟨(hw _ (List.mem_of_getElem? (i := 214) rfl)), rfl, hnm⟩) (hw _ (List.mem_of_getElem? (i := 111) rfl)) (ty := (.object "com/example/myna/myna/orders/Order$State")) (by decide) rfl rfl (g := (mkF m 37 #[.val (.ref a), .val (.long qi), .second, .val (.ref s1), .val (.ref s2), .val (.ref u), .val sv, .val (.int pb), .val (.ref li), .val (.ref pa)] [(.ref u), (.ref a)])) rfl rfl (hb hby own_d_prog_19_method_1_code_37)
  have K17 : Keep h0 h16 [a] := K13.wr W16 (Or.inl (List.mem_of_getElem? (i := 0) rfl))
  have Fw16 : Fld Z h16 a "com/example/myna/myna/orders/Order" "state" "Lcom/example/myna/myna/orders/Order$State;" (.ref u) := f14.same W16
  have N16 := Fr.snoc X16 N12 hp3
  have f18 : Fld Z h16 a "com/example/myna/myna/orders/Order" "externalState" "Ljava/lang/String;" .null := ((((hp8.other W4 (Or.inr (Jvm.RoadKit.slot_ne (Or.inr (hw _ (List.mem_of_getElem? (i := 216) rfl))) (Or.inr (hw _ (List.mem_of_getElem? (i := 208) rfl))) (by decide) (t := (.object "java/lang/String")) (t' := .long) (by decide) (by decide)))).other W8 (Or.inr (Jvm.RoadKit.slot_ne (Or.inr (hw _ (List.mem_of_getElem? (i := 216) rfl))) (Or.inr (hw _ (List.mem_of_getElem? (i := 210) rfl))) (by decide) (t := (.object "java/lang/String")) (t' := (.object "java/lang/String")) (by decide) (by decide)))).other W12 (Or.inr (Jvm.RoadKit.slot_ne (Or.inr (hw _ (List.mem_of_getElem? (i := 216) rfl))) (Or.inr (hw _ (List.mem_of_getElem? (i := 212) rfl))) (by decide) (t := (.object "java/lang/String")) (t' := (.object "java/lang/String")) (by decide) (by decide)))).other W16 (Or.inr (Jvm.RoadKit.slot_ne (Or.inr (hw _ (List.mem_of_getElem? (i := 216) rfl))) (Or.inr (hw _ (List.mem_of_getElem? (i := 214) rfl))) (by decide) (t := (.object "java/lang/String")) (t' := (.object "com/example/myna/myna/orders/Order$State")) (by decide) (by decide))))
  have f19 : Exa Z h16 a "com/example/myna/myna/orders/Order" := (f15.wr W16)
  obtain ⟨T20, h20, X20, e20, W20, st20⟩ := putF X16 hx hZ hown (host := "") (Or.inl (hw _ (List.mem_of_getElem? (i := 215) rfl))) Via.refl e16 f18 f19 (Or.inr ⟨(hw _ (List.mem_of_getElem? (i := 216) rfl)), rfl, hnm⟩) (hw _ (List.mem_of_getElem? (i := 111) rfl)) (ty := (.object "java/lang/String")) (by decide) rfl (own_fits_ref (by decide) hsv) (g := (mkF m 43 #[.val (.ref a), .val (.long qi), .second, .val (.ref s1), .val (.ref s2), .val (.ref u), .val sv, .val (.int pb), .val (.ref li), .val (.ref pa)] [sv, (.ref a)])) rfl rfl (hb hby own_d_prog_19_method_1_code_43)
  have K21 : Keep h0 h20 [a] := K17.wr W20 (Or.inl (List.mem_of_getElem? (i := 0) rfl))
  have Fw20 : Fld Z h20 a "com/example/myna/myna/orders/Order" "externalState" "Ljava/lang/String;" sv := f18.same W20
  have N20 := Fr.snoc X20 N16 hp3
  have f22 : Fld Z h20 a "com/example/myna/myna/orders/Order" "awaitingAcknowledgement" "Z" (.int (0 : Int32)) := (((((hp9.other W4 (Or.inr (Jvm.RoadKit.slot_ne (Or.inr (hw _ (List.mem_of_getElem? (i := 218) rfl))) (Or.inr (hw _ (List.mem_of_getElem? (i := 208) rfl))) (by decide) (t := .boolean) (t' := .long) (by decide) (by decide)))).other W8 (Or.inr (Jvm.RoadKit.slot_ne (Or.inr (hw _ (List.mem_of_getElem? (i := 218) rfl))) (Or.inr (hw _ (List.mem_of_getElem? (i := 210) rfl))) (by decide) (t := .boolean) (t' := (.object "java/lang/String")) (by decide) (by decide)))).other W12 (Or.inr (Jvm.RoadKit.slot_ne (Or.inr (hw _ (List.mem_of_getElem? (i := 218) rfl))) (Or.inr (hw _ (List.mem_of_getElem? (i := 212) rfl))) (by decide) (t := .boolean) (t' := (.object "java/lang/String")) (by decide) (by decide)))).other W16 (Or.inr (Jvm.RoadKit.slot_ne (Or.inr (hw _ (List.mem_of_getElem? (i := 218) rfl))) (Or.inr (hw _ (List.mem_of_getElem? (i := 214) rfl))) (by decide) (t := .boolean) (t' := (.object "com/example/myna/myna/orders/Order$State")) (by decide) (by decide)))).other W20 (Or.inr (Jvm.RoadKit.slot_ne (Or.inr (hw _ (List.mem_of_getElem? (i := 218) rfl))) (Or.inr (hw _ (List.mem_of_getElem? (i := 216) rfl))) (by decide) (t := .boolean) (t' := (.object "java/lang/String")) (by decide) (by decide))))
  have f23 : Exa Z h20 a "com/example/myna/myna/orders/Order" := (f19.wr W20)
  obtain ⟨T24, h24, X24, e24, W24, st24⟩ := putFN X20 hx hZ hown (hw _ (List.mem_of_getElem? (i := 217) rfl)) Via.refl e20 f22 f23 (Or.inr ⟨(hw _ (List.mem_of_getElem? (i := 218) rfl)), rfl, hnm⟩) (hw _ (List.mem_of_getElem? (i := 111) rfl)) (ty := .boolean) (v' := (.int (nar .boolean pb))) (by decide) rfl (fits_nar_bool _) (g := (mkF m 49 #[.val (.ref a), .val (.long qi), .second, .val (.ref s1), .val (.ref s2), .val (.ref u), .val sv, .val (.int pb), .val (.ref li), .val (.ref pa)] [(.int pb), (.ref a)])) rfl rfl (hb hby own_d_prog_19_method_1_code_49)
  have K25 : Keep h0 h24 [a] := K21.wr W24 (Or.inl (List.mem_of_getElem? (i := 0) rfl))
  have Fw24 : Fld Z h24 a "com/example/myna/myna/orders/Order" "awaitingAcknowledgement" "Z" (.int (nar .boolean pb)) := f22.same W24
  have N24 := Fr.snoc X24 N20 hp3
  have f26 : Fld Z h24 a "com/example/myna/myna/orders/Order" "lines" "Ljava/util/List;" .null := ((((((hp10.other W4 (Or.inr (Jvm.RoadKit.slot_ne (Or.inr (hw _ (List.mem_of_getElem? (i := 220) rfl))) (Or.inr (hw _ (List.mem_of_getElem? (i := 208) rfl))) (by decide) (t := (.object "java/util/List")) (t' := .long) (by decide) (by decide)))).other W8 (Or.inr (Jvm.RoadKit.slot_ne (Or.inr (hw _ (List.mem_of_getElem? (i := 220) rfl))) (Or.inr (hw _ (List.mem_of_getElem? (i := 210) rfl))) (by decide) (t := (.object "java/util/List")) (t' := (.object "java/lang/String")) (by decide) (by decide)))).other W12 (Or.inr (Jvm.RoadKit.slot_ne (Or.inr (hw _ (List.mem_of_getElem? (i := 220) rfl))) (Or.inr (hw _ (List.mem_of_getElem? (i := 212) rfl))) (by decide) (t := (.object "java/util/List")) (t' := (.object "java/lang/String")) (by decide) (by decide)))).other W16 (Or.inr (Jvm.RoadKit.slot_ne (Or.inr (hw _ (List.mem_of_getElem? (i := 220) rfl))) (Or.inr (hw _ (List.mem_of_getElem? (i := 214) rfl))) (by decide) (t := (.object "java/util/List")) (t' := (.object "com/example/myna/myna/orders/Order$State")) (by decide) (by decide)))).other W20 (Or.inr (Jvm.RoadKit.slot_ne (Or.inr (hw _ (List.mem_of_getElem? (i := 220) rfl))) (Or.inr (hw _ (List.mem_of_getElem? (i := 216) rfl))) (by decide) (t := (.object "java/util/List")) (t' := (.object "java/lang/String")) (by decide) (by decide)))).other W24 (Or.inr (Jvm.RoadKit.slot_ne (Or.inr (hw _ (List.mem_of_getElem? (i := 220) rfl))) (Or.inr (hw _ (List.mem_of_getElem? (i := 218) rfl))) (by decide) (t := (.object "java/util/List")) (t' := .boolean) (by decide) (by decide))))
  have f27 : Exa Z h24 a "com/example/myna/myna/orders/Order" := (f23.wr W24)
  obtain ⟨T28, h28, X28, e28, W28, st28⟩ := putF X24 hx hZ hown (host := "") (Or.inl (hw _ (List.mem_of_getElem? (i := 219) rfl))) Via.refl e24 f26 f27 (Or.inr ⟨(hw _ (List.mem_of_getElem? (i := 220) rfl)), rfl, hnm⟩) (hw _ (List.mem_of_getElem? (i := 111) rfl)) (ty := (.object "java/util/List")) (by decide) rfl rfl (g := (mkF m 55 #[.val (.ref a), .val (.long qi), .second, .val (.ref s1), .val (.ref s2), .val (.ref u), .val sv, .val (.int pb), .val (.ref li), .val (.ref pa)] [(.ref li), (.ref a)])) rfl rfl (hb hby own_d_prog_19_method_1_code_55)
  have K29 : Keep h0 h28 [a] := K25.wr W28 (Or.inl (List.mem_of_getElem? (i := 0) rfl))
  have Fw28 : Fld Z h28 a "com/example/myna/myna/orders/Order" "lines" "Ljava/util/List;" (.ref li) := f26.same W28
  have N28 := Fr.snoc X28 N24 hp3
  have f30 : Fld Z h28 a "com/example/myna/myna/orders/Order" "payments" "Ljava/util/List;" .null := (((((((hp11.other W4 (Or.inr (Jvm.RoadKit.slot_ne (Or.inr (hw _ (List.mem_of_getElem? (i := 222) rfl))) (Or.inr (hw _ (List.mem_of_getElem? (i := 208) rfl))) (by decide) (t := (.object "java/util/List")) (t' := .long) (by decide) (by decide)))).other W8 (Or.inr (Jvm.RoadKit.slot_ne (Or.inr (hw _ (List.mem_of_getElem? (i := 222) rfl))) (Or.inr (hw _ (List.mem_of_getElem? (i := 210) rfl))) (by decide) (t := (.object "java/util/List")) (t' := (.object "java/lang/String")) (by decide) (by decide)))).other W12 (Or.inr (Jvm.RoadKit.slot_ne (Or.inr (hw _ (List.mem_of_getElem? (i := 222) rfl))) (Or.inr (hw _ (List.mem_of_getElem? (i := 212) rfl))) (by decide) (t := (.object "java/util/List")) (t' := (.object "java/lang/String")) (by decide) (by decide)))).other W16 (Or.inr (Jvm.RoadKit.slot_ne (Or.inr (hw _ (List.mem_of_getElem? (i := 222) rfl))) (Or.inr (hw _ (List.mem_of_getElem? (i := 214) rfl))) (by decide) (t := (.object "java/util/List")) (t' := (.object "com/example/myna/myna/orders/Order$State")) (by decide) (by decide)))).other W20 (Or.inr (Jvm.RoadKit.slot_ne (Or.inr (hw _ (List.mem_of_getElem? (i := 222) rfl))) (Or.inr (hw _ (List.mem_of_getElem? (i := 216) rfl))) (by decide) (t := (.object "java/util/List")) (t' := (.object "java/lang/String")) (by decide) (by decide)))).other W24 (Or.inr (Jvm.RoadKit.slot_ne (Or.inr (hw _ (List.mem_of_getElem? (i := 222) rfl))) (Or.inr (hw _ (List.mem_of_getElem? (i := 218) rfl))) (by decide) (t := (.object "java/util/List")) (t' := .boolean) (by decide) (by decide)))).other W28 (Or.inr (Jvm.RoadKit.slot_ne (Or.inr (hw _ (List.mem_of_getElem? (i := 222) rfl))) (Or.inr (hw _ (List.mem_of_getElem? (i := 220) rfl))) (by decide) (t := (.object "java/util/List")) (t' := (.object "java/util/List")) (by decide) (by decide))))
  have f31 : Exa Z h28 a "com/example/myna/myna/orders/Order" := (f27.wr W28)
  obtain ⟨T32, h32, X32, e32, W32, st32⟩ := putF X28 hx hZ hown (host := "") (Or.inl (hw _ (List.mem_of_getElem? (i := 221) rfl))) Via.refl e28 f30 f31 (Or.inr ⟨(hw _ (List.mem_of_getElem? (i := 222) rfl)), rfl, hnm⟩) (hw _ (List.mem_of_getElem? (i := 111) rfl)) (ty := (.object "java/util/List")) (by decide) rfl rfl (g := (mkF m 61 #[.val (.ref a), .val (.long qi), .second, .val (.ref s1), .val (.ref s2), .val (.ref u), .val sv, .val (.int pb), .val (.ref li), .val (.ref pa)] [(.ref pa), (.ref a)])) rfl rfl (hb hby own_d_prog_19_method_1_code_61)
  have K33 : Keep h0 h32 [a] := K29.wr W32 (Or.inl (List.mem_of_getElem? (i := 0) rfl))
  have Fw32 : Fld Z h32 a "com/example/myna/myna/orders/Order" "payments" "Ljava/util/List;" (.ref pa) := f30.same W32
  have N32 := Fr.snoc X32 N28 hp3
  have f34 : Fld Z h32 a "com/example/myna/myna/orders/Order" "awaitingAcknowledgement" "Z" (.int (nar .boolean pb)) := ((Fw24.other W28 (Or.inr (Jvm.RoadKit.slot_ne (Or.inr (hw _ (List.mem_of_getElem? (i := 218) rfl))) (Or.inr (hw _ (List.mem_of_getElem? (i := 220) rfl))) (by decide) (t := .boolean) (t' := (.object "java/util/List")) (by decide) (by decide)))).other W32 (Or.inr (Jvm.RoadKit.slot_ne (Or.inr (hw _ (List.mem_of_getElem? (i := 218) rfl))) (Or.inr (hw _ (List.mem_of_getElem? (i := 222) rfl))) (by decide) (t := .boolean) (t' := (.object "java/util/List")) (by decide) (by decide))))
  have f35 : Fld Z h32 a "com/example/myna/myna/orders/Order" "awaitingAcknowledgement" "Z" (.int pb) := by rw [show (nar .boolean pb) = pb from hpb] at f34; exact f34
  obtain ⟨fs, hr, hrun, hended, hW, hsame⟩ := X32.leave (v := none) (fun _ => rfl)
  refine ⟨_, _, r0 _ ?_, hrun, hended, _, _, rfl, ?_, ⟨_, rfl⟩, hW, hsame.mono (by decide) (by decide)⟩
  · show Steps p.tables e below (s₁.setTop (mkF m 0 #[.val (.ref a), .val (.long qi), .second, .val (.ref s1), .val (.ref s2), .val (.ref u), .val sv, .val (.int pb), .val (.ref li), .val (.ref pa)] [])) _
    refine XS.aloadN X0.here hx rfl (hb hby own_d_prog_19_method_1_code_0) rfl rfl ?_
    show Steps p.tables e below (s₁.setTop (mkF m 1 #[.val (.ref a), .val (.long qi), .second, .val (.ref s1), .val (.ref s2), .val (.ref u), .val sv, .val (.int pb), .val (.ref li), .val (.ref pa)] [(.ref a)])) _
    refine st1.trans ?_
    show Steps p.tables e below (T1.setTop (mkF m 4 #[.val (.ref a), .val (.long qi), .second, .val (.ref s1), .val (.ref s2), .val (.ref u), .val sv, .val (.int pb), .val (.ref li), .val (.ref pa)] [])) _
    refine XS.aload X1.here hx rfl (hb hby own_d_prog_19_method_1_code_4) rfl rfl ?_
    show Steps p.tables e below (T1.setTop (mkF m 6 #[.val (.ref a), .val (.long qi), .second, .val (.ref s1), .val (.ref s2), .val (.ref u), .val sv, .val (.int pb), .val (.ref li), .val (.ref pa)] [(.ref li)])) _
    refine st2 _ ?_
    show Steps p.tables e below (T2.setTop (mkF m 9 #[.val (.ref a), .val (.long qi), .second, .val (.ref s1), .val (.ref s2), .val (.ref u), .val sv, .val (.int pb), .val (.ref li), .val (.ref pa)] [(.ref li)])) _
    refine XS.astore X2.here hx rfl (hb hby own_d_prog_19_method_1_code_9) rfl rfl (l' := #[.val (.ref a), .val (.long qi), .second, .val (.ref s1), .val (.ref s2), .val (.ref u), .val sv, .val (.int pb), .val (.ref li), .val (.ref pa)]) rfl ?_
    show Steps p.tables e below (T2.setTop (mkF m 11 #[.val (.ref a), .val (.long qi), .second, .val (.ref s1), .val (.ref s2), .val (.ref u), .val sv, .val (.int pb), .val (.ref li), .val (.ref pa)] [])) _
    refine XS.aload X2.here hx rfl (hb hby own_d_prog_19_method_1_code_11) rfl rfl ?_
    show Steps p.tables e below (T2.setTop (mkF m 13 #[.val (.ref a), .val (.long qi), .second, .val (.ref s1), .val (.ref s2), .val (.ref u), .val sv, .val (.int pb), .val (.ref li), .val (.ref pa)] [(.ref pa)])) _
    refine st3 _ ?_
    show Steps p.tables e below (T3.setTop (mkF m 16 #[.val (.ref a), .val (.long qi), .second, .val (.ref s1), .val (.ref s2), .val (.ref u), .val sv, .val (.int pb), .val (.ref li), .val (.ref pa)] [(.ref pa)])) _
    refine XS.astore X3.here hx rfl (hb hby own_d_prog_19_method_1_code_16) rfl rfl (l' := #[.val (.ref a), .val (.long qi), .second, .val (.ref s1), .val (.ref s2), .val (.ref u), .val sv, .val (.int pb), .val (.ref li), .val (.ref pa)]) rfl ?_
    show Steps p.tables e below (T3.setTop (mkF m 18 #[.val (.ref a), .val (.long qi), .second, .val (.ref s1), .val (.ref s2), .val (.ref u), .val sv, .val (.int pb), .val (.ref li), .val (.ref pa)] [])) _
    refine XS.aloadN X3.here hx rfl (hb hby own_d_prog_19_method_1_code_18) rfl rfl ?_
    show Steps p.tables e below (T3.setTop (mkF m 19 #[.val (.ref a), .val (.long qi), .second, .val (.ref s1), .val (.ref s2), .val (.ref u), .val sv, .val (.int pb), .val (.ref li), .val (.ref pa)] [(.ref a)])) _
    refine XS.lloadN X3.here hx rfl (hb hby own_d_prog_19_method_1_code_19) rfl ?_
    show Steps p.tables e below (T3.setTop (mkF m 20 #[.val (.ref a), .val (.long qi), .second, .val (.ref s1), .val (.ref s2), .val (.ref u), .val sv, .val (.int pb), .val (.ref li), .val (.ref pa)] [(.long qi), (.ref a)])) _
    refine st4 _ ?_
    show Steps p.tables e below (T4.setTop (mkF m 23 #[.val (.ref a), .val (.long qi), .second, .val (.ref s1), .val (.ref s2), .val (.ref u), .val sv, .val (.int pb), .val (.ref li), .val (.ref pa)] [])) _
    refine XS.aloadN X4.here hx rfl (hb hby own_d_prog_19_method_1_code_23) rfl rfl ?_
    show Steps p.tables e below (T4.setTop (mkF m 24 #[.val (.ref a), .val (.long qi), .second, .val (.ref s1), .val (.ref s2), .val (.ref u), .val sv, .val (.int pb), .val (.ref li), .val (.ref pa)] [(.ref a)])) _
    refine XS.aloadN X4.here hx rfl (hb hby own_d_prog_19_method_1_code_24) rfl rfl ?_
    show Steps p.tables e below (T4.setTop (mkF m 25 #[.val (.ref a), .val (.long qi), .second, .val (.ref s1), .val (.ref s2), .val (.ref u), .val sv, .val (.int pb), .val (.ref li), .val (.ref pa)] [(.ref s1), (.ref a)])) _
    refine st8 _ ?_
    show Steps p.tables e below (T8.setTop (mkF m 28 #[.val (.ref a), .val (.long qi), .second, .val (.ref s1), .val (.ref s2), .val (.ref u), .val sv, .val (.int pb), .val (.ref li), .val (.ref pa)] [])) _
    refine XS.aloadN X8.here hx rfl (hb hby own_d_prog_19_method_1_code_28) rfl rfl ?_
    show Steps p.tables e below (T8.setTop (mkF m 29 #[.val (.ref a), .val (.long qi), .second, .val (.ref s1), .val (.ref s2), .val (.ref u), .val sv, .val (.int pb), .val (.ref li), .val (.ref pa)] [(.ref a)])) _
    refine XS.aload X8.here hx rfl (hb hby own_d_prog_19_method_1_code_29) rfl rfl ?_
    show Steps p.tables e below (T8.setTop (mkF m 31 #[.val (.ref a), .val (.long qi), .second, .val (.ref s1), .val (.ref s2), .val (.ref u), .val sv, .val (.int pb), .val (.ref li), .val (.ref pa)] [(.ref s2), (.ref a)])) _
    refine st12 _ ?_
    show Steps p.tables e below (T12.setTop (mkF m 34 #[.val (.ref a), .val (.long qi), .second, .val (.ref s1), .val (.ref s2), .val (.ref u), .val sv, .val (.int pb), .val (.ref li), .val (.ref pa)] [])) _
    refine XS.aloadN X12.here hx rfl (hb hby own_d_prog_19_method_1_code_34) rfl rfl ?_
    show Steps p.tables e below (T12.setTop (mkF m 35 #[.val (.ref a), .val (.long qi), .second, .val (.ref s1), .val (.ref s2), .val (.ref u), .val sv, .val (.int pb), .val (.ref li), .val (.ref pa)] [(.ref a)])) _
    refine XS.aload X12.here hx rfl (hb hby own_d_prog_19_method_1_code_35) rfl rfl ?_
    show Steps p.tables e below (T12.setTop (mkF m 37 #[.val (.ref a), .val (.long qi), .second, .val (.ref s1), .val (.ref s2), .val (.ref u), .val sv, .val (.int pb), .val (.ref li), .val (.ref pa)] [(.ref u), (.ref a)])) _
    refine st16 _ ?_
    show Steps p.tables e below (T16.setTop (mkF m 40 #[.val (.ref a), .val (.long qi), .second, .val (.ref s1), .val (.ref s2), .val (.ref u), .val sv, .val (.int pb), .val (.ref li), .val (.ref pa)] [])) _
    refine XS.aloadN X16.here hx rfl (hb hby own_d_prog_19_method_1_code_40) rfl rfl ?_
    show Steps p.tables e below (T16.setTop (mkF m 41 #[.val (.ref a), .val (.long qi), .second, .val (.ref s1), .val (.ref s2), .val (.ref u), .val sv, .val (.int pb), .val (.ref li), .val (.ref pa)] [(.ref a)])) _
    refine XS.aload X16.here hx rfl (hb hby own_d_prog_19_method_1_code_41) rfl hsv ?_
    show Steps p.tables e below (T16.setTop (mkF m 43 #[.val (.ref a), .val (.long qi), .second, .val (.ref s1), .val (.ref s2), .val (.ref u), .val sv, .val (.int pb), .val (.ref li), .val (.ref pa)] [sv, (.ref a)])) _
    refine st20 _ ?_
    show Steps p.tables e below (T20.setTop (mkF m 46 #[.val (.ref a), .val (.long qi), .second, .val (.ref s1), .val (.ref s2), .val (.ref u), .val sv, .val (.int pb), .val (.ref li), .val (.ref pa)] [])) _
    refine XS.aloadN X20.here hx rfl (hb hby own_d_prog_19_method_1_code_46) rfl rfl ?_
    show Steps p.tables e below (T20.setTop (mkF m 47 #[.val (.ref a), .val (.long qi), .second, .val (.ref s1), .val (.ref s2), .val (.ref u), .val sv, .val (.int pb), .val (.ref li), .val (.ref pa)] [(.ref a)])) _
    refine XS.iload X20.here hx rfl (hb hby own_d_prog_19_method_1_code_47) rfl ?_
    show Steps p.tables e below (T20.setTop (mkF m 49 #[.val (.ref a), .val (.long qi), .second, .val (.ref s1), .val (.ref s2), .val (.ref u), .val sv, .val (.int pb), .val (.ref li), .val (.ref pa)] [(.int pb), (.ref a)])) _
    refine st24 _ ?_
    show Steps p.tables e below (T24.setTop (mkF m 52 #[.val (.ref a), .val (.long qi), .second, .val (.ref s1), .val (.ref s2), .val (.ref u), .val sv, .val (.int pb), .val (.ref li), .val (.ref pa)] [])) _
    refine XS.aloadN X24.here hx rfl (hb hby own_d_prog_19_method_1_code_52) rfl rfl ?_
    show Steps p.tables e below (T24.setTop (mkF m 53 #[.val (.ref a), .val (.long qi), .second, .val (.ref s1), .val (.ref s2), .val (.ref u), .val sv, .val (.int pb), .val (.ref li), .val (.ref pa)] [(.ref a)])) _
    refine XS.aload X24.here hx rfl (hb hby own_d_prog_19_method_1_code_53) rfl rfl ?_
    show Steps p.tables e below (T24.setTop (mkF m 55 #[.val (.ref a), .val (.long qi), .second, .val (.ref s1), .val (.ref s2), .val (.ref u), .val sv, .val (.int pb), .val (.ref li), .val (.ref pa)] [(.ref li), (.ref a)])) _
    refine st28 _ ?_
    show Steps p.tables e below (T28.setTop (mkF m 58 #[.val (.ref a), .val (.long qi), .second, .val (.ref s1), .val (.ref s2), .val (.ref u), .val sv, .val (.int pb), .val (.ref li), .val (.ref pa)] [])) _
    refine XS.aloadN X28.here hx rfl (hb hby own_d_prog_19_method_1_code_58) rfl rfl ?_
    show Steps p.tables e below (T28.setTop (mkF m 59 #[.val (.ref a), .val (.long qi), .second, .val (.ref s1), .val (.ref s2), .val (.ref u), .val sv, .val (.int pb), .val (.ref li), .val (.ref pa)] [(.ref a)])) _
    refine XS.aload X28.here hx rfl (hb hby own_d_prog_19_method_1_code_59) rfl rfl ?_
    show Steps p.tables e below (T28.setTop (mkF m 61 #[.val (.ref a), .val (.long qi), .second, .val (.ref s1), .val (.ref s2), .val (.ref u), .val sv, .val (.int pb), .val (.ref li), .val (.ref pa)] [(.ref pa), (.ref a)])) _
    refine st32 _ ?_
    show Steps p.tables e below (T32.setTop (mkF m 64 #[.val (.ref a), .val (.long qi), .second, .val (.ref s1), .val (.ref s2), .val (.ref u), .val sv, .val (.int pb), .val (.ref li), .val (.ref pa)] [])) _
    exact X32.returnOut hx Bd.returns (hb hby own_d_prog_19_method_1_code_64) hr
  · show Q_own_ord2 Z a qi s1 s2 u sv pb li pa h0 n0 _ T32.heap _
    rw [e32]
    have f36 : Exa Z h32 a "com/example/myna/myna/orders/Order" := (f31.wr W32)
    have f37 : Fld Z h32 a "com/example/myna/myna/orders/Order" "id" "J" (.long qi) := (((((((Fw4.other W8 (Or.inr (Jvm.RoadKit.slot_ne (Or.inr (hw _ (List.mem_of_getElem? (i := 208) rfl))) (Or.inr (hw _ (List.mem_of_getElem? (i := 210) rfl))) (by decide) (t := .long) (t' := (.object "java/lang/String")) (by decide) (by decide)))).other W12 (Or.inr (Jvm.RoadKit.slot_ne (Or.inr (hw _ (List.mem_of_getElem? (i := 208) rfl))) (Or.inr (hw _ (List.mem_of_getElem? (i := 212) rfl))) (by decide) (t := .long) (t' := (.object "java/lang/String")) (by decide) (by decide)))).other W16 (Or.inr (Jvm.RoadKit.slot_ne (Or.inr (hw _ (List.mem_of_getElem? (i := 208) rfl))) (Or.inr (hw _ (List.mem_of_getElem? (i := 214) rfl))) (by decide) (t := .long) (t' := (.object "com/example/myna/myna/orders/Order$State")) (by decide) (by decide)))).other W20 (Or.inr (Jvm.RoadKit.slot_ne (Or.inr (hw _ (List.mem_of_getElem? (i := 208) rfl))) (Or.inr (hw _ (List.mem_of_getElem? (i := 216) rfl))) (by decide) (t := .long) (t' := (.object "java/lang/String")) (by decide) (by decide)))).other W24 (Or.inr (Jvm.RoadKit.slot_ne (Or.inr (hw _ (List.mem_of_getElem? (i := 208) rfl))) (Or.inr (hw _ (List.mem_of_getElem? (i := 218) rfl))) (by decide) (t := .long) (t' := .boolean) (by decide) (by decide)))).other W28 (Or.inr (Jvm.RoadKit.slot_ne (Or.inr (hw _ (List.mem_of_getElem? (i := 208) rfl))) (Or.inr (hw _ (List.mem_of_getElem? (i := 220) rfl))) (by decide) (t := .long) (t' := (.object "java/util/List")) (by decide) (by decide)))).other W32 (Or.inr (Jvm.RoadKit.slot_ne (Or.inr (hw _ (List.mem_of_getElem? (i := 208) rfl))) (Or.inr (hw _ (List.mem_of_getElem? (i := 222) rfl))) (by decide) (t := .long) (t' := (.object "java/util/List")) (by decide) (by decide))))
    have f38 : Fld Z h32 a "com/example/myna/myna/orders/Order" "channel" "Ljava/lang/String;" (.ref s1) := ((((((Fw8.other W12 (Or.inr (Jvm.RoadKit.slot_ne (Or.inr (hw _ (List.mem_of_getElem? (i := 210) rfl))) (Or.inr (hw _ (List.mem_of_getElem? (i := 212) rfl))) (by decide) (t := (.object "java/lang/String")) (t' := (.object "java/lang/String")) (by decide) (by decide)))).other W16 (Or.inr (Jvm.RoadKit.slot_ne (Or.inr (hw _ (List.mem_of_getElem? (i := 210) rfl))) (Or.inr (hw _ (List.mem_of_getElem? (i := 214) rfl))) (by decide) (t := (.object "java/lang/String")) (t' := (.object "com/example/myna/myna/orders/Order$State")) (by decide) (by decide)))).other W20 (Or.inr (Jvm.RoadKit.slot_ne (Or.inr (hw _ (List.mem_of_getElem? (i := 210) rfl))) (Or.inr (hw _ (List.mem_of_getElem? (i := 216) rfl))) (by decide) (t := (.object "java/lang/String")) (t' := (.object "java/lang/String")) (by decide) (by decide)))).other W24 (Or.inr (Jvm.RoadKit.slot_ne (Or.inr (hw _ (List.mem_of_getElem? (i := 210) rfl))) (Or.inr (hw _ (List.mem_of_getElem? (i := 218) rfl))) (by decide) (t := (.object "java/lang/String")) (t' := .boolean) (by decide) (by decide)))).other W28 (Or.inr (Jvm.RoadKit.slot_ne (Or.inr (hw _ (List.mem_of_getElem? (i := 210) rfl))) (Or.inr (hw _ (List.mem_of_getElem? (i := 220) rfl))) (by decide) (t := (.object "java/lang/String")) (t' := (.object "java/util/List")) (by decide) (by decide)))).other W32 (Or.inr (Jvm.RoadKit.slot_ne (Or.inr (hw _ (List.mem_of_getElem? (i := 210) rfl))) (Or.inr (hw _ (List.mem_of_getElem? (i := 222) rfl))) (by decide) (t := (.object "java/lang/String")) (t' := (.object "java/util/List")) (by decide) (by decide))))
    have f39 : Fld Z h32 a "com/example/myna/myna/orders/Order" "externalId" "Ljava/lang/String;" (.ref s2) := (((((Fw12.other W16 (Or.inr (Jvm.RoadKit.slot_ne (Or.inr (hw _ (List.mem_of_getElem? (i := 212) rfl))) (Or.inr (hw _ (List.mem_of_getElem? (i := 214) rfl))) (by decide) (t := (.object "java/lang/String")) (t' := (.object "com/example/myna/myna/orders/Order$State")) (by decide) (by decide)))).other W20 (Or.inr (Jvm.RoadKit.slot_ne (Or.inr (hw _ (List.mem_of_getElem? (i := 212) rfl))) (Or.inr (hw _ (List.mem_of_getElem? (i := 216) rfl))) (by decide) (t := (.object "java/lang/String")) (t' := (.object "java/lang/String")) (by decide) (by decide)))).other W24 (Or.inr (Jvm.RoadKit.slot_ne (Or.inr (hw _ (List.mem_of_getElem? (i := 212) rfl))) (Or.inr (hw _ (List.mem_of_getElem? (i := 218) rfl))) (by decide) (t := (.object "java/lang/String")) (t' := .boolean) (by decide) (by decide)))).other W28 (Or.inr (Jvm.RoadKit.slot_ne (Or.inr (hw _ (List.mem_of_getElem? (i := 212) rfl))) (Or.inr (hw _ (List.mem_of_getElem? (i := 220) rfl))) (by decide) (t := (.object "java/lang/String")) (t' := (.object "java/util/List")) (by decide) (by decide)))).other W32 (Or.inr (Jvm.RoadKit.slot_ne (Or.inr (hw _ (List.mem_of_getElem? (i := 212) rfl))) (Or.inr (hw _ (List.mem_of_getElem? (i := 222) rfl))) (by decide) (t := (.object "java/lang/String")) (t' := (.object "java/util/List")) (by decide) (by decide))))
    have f40 : Fld Z h32 a "com/example/myna/myna/orders/Order" "state" "Lcom/example/myna/myna/orders/Order$State;" (.ref u) := ((((Fw16.other W20 (Or.inr (Jvm.RoadKit.slot_ne (Or.inr (hw _ (List.mem_of_getElem? (i := 214) rfl))) (Or.inr (hw _ (List.mem_of_getElem? (i := 216) rfl))) (by decide) (t := (.object "com/example/myna/myna/orders/Order$State")) (t' := (.object "java/lang/String")) (by decide) (by decide)))).other W24 (Or.inr (Jvm.RoadKit.slot_ne (Or.inr (hw _ (List.mem_of_getElem? (i := 214) rfl))) (Or.inr (hw _ (List.mem_of_getElem? (i := 218) rfl))) (by decide) (t := (.object "com/example/myna/myna/orders/Order$State")) (t' := .boolean) (by decide) (by decide)))).other W28 (Or.inr (Jvm.RoadKit.slot_ne (Or.inr (hw _ (List.mem_of_getElem? (i := 214) rfl))) (Or.inr (hw _ (List.mem_of_getElem? (i := 220) rfl))) (by decide) (t := (.object "com/example/myna/myna/orders/Order$State")) (t' := (.object "java/util/List")) (by decide) (by decide)))).other W32 (Or.inr (Jvm.RoadKit.slot_ne (Or.inr (hw _ (List.mem_of_getElem? (i := 214) rfl))) (Or.inr (hw _ (List.mem_of_getElem? (i := 222) rfl))) (by decide) (t := (.object "com/example/myna/myna/orders/Order$State")) (t' := (.object "java/util/List")) (by decide) (by decide))))
    have f41 : Fld Z h32 a "com/example/myna/myna/orders/Order" "externalState" "Ljava/lang/String;" sv := (((Fw20.other W24 (Or.inr (Jvm.RoadKit.slot_ne (Or.inr (hw _ (List.mem_of_getElem? (i := 216) rfl))) (Or.inr (hw _ (List.mem_of_getElem? (i := 218) rfl))) (by decide) (t := (.object "java/lang/String")) (t' := .boolean) (by decide) (by decide)))).other W28 (Or.inr (Jvm.RoadKit.slot_ne (Or.inr (hw _ (List.mem_of_getElem? (i := 216) rfl))) (Or.inr (hw _ (List.mem_of_getElem? (i := 220) rfl))) (by decide) (t := (.object "java/lang/String")) (t' := (.object "java/util/List")) (by decide) (by decide)))).other W32 (Or.inr (Jvm.RoadKit.slot_ne (Or.inr (hw _ (List.mem_of_getElem? (i := 216) rfl))) (Or.inr (hw _ (List.mem_of_getElem? (i := 222) rfl))) (by decide) (t := (.object "java/lang/String")) (t' := (.object "java/util/List")) (by decide) (by decide))))
    have f42 : Fld Z h32 a "com/example/myna/myna/orders/Order" "lines" "Ljava/util/List;" (.ref li) := (Fw28.other W32 (Or.inr (Jvm.RoadKit.slot_ne (Or.inr (hw _ (List.mem_of_getElem? (i := 220) rfl))) (Or.inr (hw _ (List.mem_of_getElem? (i := 222) rfl))) (by decide) (t := (.object "java/util/List")) (t' := (.object "java/util/List")) (by decide) (by decide))))
    exact ⟨rfl, N32, K33, f36, f37, f38, f39, f40, f41, f35, f42, Fw32⟩
theorem own_pn_own_wes : plainName "com/example/myna/myna/orders/Order" = true := by first | (simp [plainName, overriddenIn]; done) | decide +kernel
theorem own_ef_own_wes (m : MethodId) (a : Addr) (nw : Value) (hcv0 : nw.category = 1) : entryFrame m #[(.ref a), nw] 2 = mkF m 0 #[.val (.ref a), .val nw] [] := by first | (simp [entryFrame, mkF, argsToLocals, own_cI, own_cJ, own_cR, own_cN, hcv0]; done) | rfl
abbrev own_F_own_wes (m : MethodId) (a : Addr) (nw : Value) : JFrame := entryFrame m #[(.ref a), nw] 2
def Q_own_wes (Z : State) (a : Addr) (nw : Value) (qi : Int64) (s1 : Addr) (s2 : Addr) (u : Addr) (sv : Value) (pb : Int32) (li : Addr) (pa : Addr) (h0 : Heap) (n0 : Nat) (v : Option Value) (h : Heap) (L : List Loc) : Prop := ∃ (b : Addr), v = some (.ref b) ∧ Fr n0 L ∧ Keep h0 h [] ∧ (h0.size ≤ b) ∧ (n0 ≤ b) ∧ (Exa Z h b "com/example/myna/myna/orders/Order") ∧ (Fld Z h b "com/example/myna/myna/orders/Order" "id" "J" (.long qi)) ∧ (Fld Z h b "com/example/myna/myna/orders/Order" "channel" "Ljava/lang/String;" (.ref s1)) ∧ (Fld Z h b "com/example/myna/myna/orders/Order" "externalId" "Ljava/lang/String;" (.ref s2)) ∧ (Fld Z h b "com/example/myna/myna/orders/Order" "state" "Lcom/example/myna/myna/orders/Order$State;" (.ref u)) ∧ (Fld Z h b "com/example/myna/myna/orders/Order" "externalState" "Ljava/lang/String;" nw) ∧ (Fld Z h b "com/example/myna/myna/orders/Order" "awaitingAcknowledgement" "Z" (.int pb)) ∧ (Fld Z h b "com/example/myna/myna/orders/Order" "lines" "Ljava/util/List;" (.ref li)) ∧ (Fld Z h b "com/example/myna/myna/orders/Order" "payments" "Ljava/util/List;" (.ref pa))
set_option maxRecDepth 65536 in
set_option maxHeartbeats 40000000 in
theorem own_wes (l : Launch) (Z : State) (a0 : Array Value) (hw : ∀ d ∈ tables_1, d.before a0 Z = true) (ws : List Jvm.Cond) (a : Addr) (nw : Value) (qi : Int64) (s1 : Addr) (s2 : Addr) (u : Addr) (sv : Value) (pb : Int32) (li : Addr) (pa : Addr) (h0 : Heap) (n0 : Nat) (O0 : Old Z n0 h0) (hnw : nw.isRef = true) (hsv : sv.isRef = true) (hpb : nar .boolean pb = pb) (hp3 : Fld Z h0 a "com/example/myna/myna/orders/Order" "id" "J" (.long qi)) (hp4 : Fld Z h0 a "com/example/myna/myna/orders/Order" "channel" "Ljava/lang/String;" (.ref s1)) (hp5 : Fld Z h0 a "com/example/myna/myna/orders/Order" "externalId" "Ljava/lang/String;" (.ref s2)) (hp6 : Fld Z h0 a "com/example/myna/myna/orders/Order" "state" "Lcom/example/myna/myna/orders/Order$State;" (.ref u)) (hp7 : Fld Z h0 a "com/example/myna/myna/orders/Order" "externalState" "Ljava/lang/String;" sv) (hp8 : Fld Z h0 a "com/example/myna/myna/orders/Order" "awaitingAcknowledgement" "Z" (.int pb)) (hp9 : Fld Z h0 a "com/example/myna/myna/orders/Order" "lines" "Ljava/util/List;" (.ref li)) (hp10 : Fld Z h0 a "com/example/myna/myna/orders/Order" "payments" "Ljava/util/List;" (.ref pa)) (hp11 : Exa Z h0 li "java/util/ImmutableCollections$List12") (hp12 : Exa Z Z.heap pa "java/util/ImmutableCollections$ListN") (hp13 : Fld Z Z.heap pa "java/util/ImmutableCollections$ListN" "allowNulls" "Z" (.int (0 : Int32))) :
    MetFree l (⟨"com/example/myna/myna/orders/Order", "withExternalState", "(Ljava/lang/String;)Lcom/example/myna/myna/orders/Order;"⟩ : MethodName) (head1 (Jvm.Cond.code (⟨"com/example/myna/myna/orders/Order", "withExternalState", "(Ljava/lang/String;)Lcom/example/myna/myna/orders/Order;"⟩ : MethodName) prog_19_method_3_code 2 (some (.object "com/example/myna/myna/orders/Order")) :: ws) ({ frames := 3, cells := 1, slots := 8, locals := 47 } : Room)) (fun aa_ U_ => aa_ = #[(.ref a), nw] ∧ Z.Warmed39 U_.vm ∧ U_.heap = h0) (fun _ _ _ _ _ => True) (fun _ U_ o_ V_ => ∃ v_ L_, o_ = .returned v_ ∧ Q_own_wes Z a nw qi s1 s2 u sv pb li pa h0 n0 v_ V_.heap L_ ∧ FrameEnd U_ o_ V_ L_ ({ frames := 3, cells := 1, slots := 8, locals := 47 } : Room).cells ({ frames := 3, cells := 1, slots := 8, locals := 47 } : Room).slots) := by
  refine MetFree.of_bodySF (plainFor_of_name own_pn_own_wes) hisR ?_
  intro p e s m args below meth c s₁ Bd hml0 hP hK
  obtain ⟨rfl, hZ, hh⟩ := hP
  have hx := Bd.exec
  have hby := Bd.bytes
  have hml : c.maxLocals = 2 := hml0
  have hown : s.vm.findClass "com/example/myna/myna/orders/Order" = some m.cls := findClass_of_methodNamed Bd.named
  have hnm := (name_of_methodNamed Bd.named Bd.method).1
  have X0 : Stand p l e ({ frames := 3, cells := 1, slots := 8, locals := 47 } : Room) s m #[(.ref a), nw] below meth c s₁ [] 0 0 := Stand.of_body Bd
  have e0 : s₁.heap = h0 := by rw [← hh, Bd.state]; rfl
  have N0 := Fr.nil n0
  have K0 : Keep h0 h0 [] := Keep.refl _ _
  have r0 : GoTo p.tables e below s₁ (own_F_own_wes m a nw) s₁ (mkF m 0 #[.val (.ref a), .val nw] []) := fun tt_ kk_ => castTop (own_ef_own_wes m a nw (own_cat hnw)) kk_
  obtain ⟨T1, h1, X1, e1, E1, A1, D1, -, st1⟩ := newO X0 hx hZ hown (hw _ (List.mem_of_getElem? (i := 228) rfl)) (hw _ (List.mem_of_getElem? (i := 111) rfl)) (hw _ (List.mem_of_getElem? (i := 112) rfl)) e0 (g := (mkF m 0 #[.val (.ref a), .val nw] [])) rfl (hb hby own_d_prog_19_method_3_code_0) (by decide) (by decide)
  obtain ⟨b1, gg1⟩ : ∃ z, z = h0.size := ⟨_, rfl⟩
  rw [← gg1] at A1 D1 st1
  have ne2 : a ≠ b1 := Nat.ne_of_lt (Nat.lt_of_lt_of_le hp3.lt (Nat.le_of_eq gg1.symm))
  have ne3 : li ≠ b1 := Nat.ne_of_lt (Nat.lt_of_lt_of_le hp11.lt (Nat.le_of_eq gg1.symm))
  have g4 : n0 ≤ b1 := Nat.le_trans (Nat.le_trans (own_le O0) K0.1) (Nat.le_of_eq gg1.symm)
  have b5 : h0.size ≤ b1 := Nat.le_trans K0.1 (Nat.le_of_eq gg1.symm)
  have K6 : Keep h0 h1 [] := K0.ext E1
  have f7 : Fld Z h1 a "com/example/myna/myna/orders/Order" "id" "J" (.long qi) := (hp3.ext E1)
  obtain ⟨T8, X8, e8, st8⟩ := getF X1 hx hZ hown (host := "") (Or.inl (hw _ (List.mem_of_getElem? (i := 207) rfl))) Via.refl e1 f7 (g := (mkF m 5 #[.val (.ref a), .val nw] [(.ref a), (.ref b1), (.ref b1)])) rfl rfl (hb hby own_d_prog_19_method_3_code_5)
  have f9 : Fld Z h1 a "com/example/myna/myna/orders/Order" "channel" "Ljava/lang/String;" (.ref s1) := (hp4.ext E1)
  obtain ⟨T10, X10, e10, st10⟩ := getF X8 hx hZ hown (host := "") (Or.inl (hw _ (List.mem_of_getElem? (i := 209) rfl))) Via.refl e8 f9 (g := (mkF m 9 #[.val (.ref a), .val nw] [(.ref a), (.long qi), (.ref b1), (.ref b1)])) rfl rfl (hb hby own_d_prog_19_method_3_code_9)
  have f11 : Fld Z h1 a "com/example/myna/myna/orders/Order" "externalId" "Ljava/lang/String;" (.ref s2) := (hp5.ext E1)
  obtain ⟨T12, X12, e12, st12⟩ := getF X10 hx hZ hown (host := "") (Or.inl (hw _ (List.mem_of_getElem? (i := 211) rfl))) Via.refl e10 f11 (g := (mkF m 13 #[.val (.ref a), .val nw] [(.ref a), (.ref s1), (.long qi), (.ref b1), (.ref b1)])) rfl rfl (hb hby own_d_prog_19_method_3_code_13)
  have f13 : Fld Z h1 a "com/example/myna/myna/orders/Order" "state" "Lcom/example/myna/myna/orders/Order$State;" (.ref u) := (hp6.ext E1)
  obtain ⟨T14, X14, e14, st14⟩ := getF X12 hx hZ hown (host := "") (Or.inl (hw _ (List.mem_of_getElem? (i := 213) rfl))) Via.refl e12 f13 (g := (mkF m 17 #[.val (.ref a), .val nw] [(.ref a), (.ref s2), (.ref s1), (.long qi), (.ref b1), (.ref b1)])) rfl rfl (hb hby own_d_prog_19_method_3_code_17)
  have f15 : Fld Z h1 a "com/example/myna/myna/orders/Order" "awaitingAcknowledgement" "Z" (.int pb) := (hp8.ext E1)
  obtain ⟨T16, X16, e16, st16⟩ := getF X14 hx hZ hown (host := "") (Or.inl (hw _ (List.mem_of_getElem? (i := 217) rfl))) Via.refl e14 f15 (g := (mkF m 22 #[.val (.ref a), .val nw] [(.ref a), nw, (.ref u), (.ref s2), (.ref s1), (.long qi), (.ref b1), (.ref b1)])) rfl rfl (hb hby own_d_prog_19_method_3_code_22)
  have f17 : Fld Z h1 a "com/example/myna/myna/orders/Order" "lines" "Ljava/util/List;" (.ref li) := (hp9.ext E1)
  obtain ⟨T18, X18, e18, st18⟩ := getF X16 hx hZ hown (host := "") (Or.inl (hw _ (List.mem_of_getElem? (i := 219) rfl))) Via.refl e16 f17 (g := (mkF m 26 #[.val (.ref a), .val nw] [(.ref a), (.int pb), nw, (.ref u), (.ref s2), (.ref s1), (.long qi), (.ref b1), (.ref b1)])) rfl rfl (hb hby own_d_prog_19_method_3_code_26)
  have f19 : Fld Z h1 a "com/example/myna/myna/orders/Order" "payments" "Ljava/util/List;" (.ref pa) := (hp10.ext E1)
  obtain ⟨T20, X20, e20, st20⟩ := getF X18 hx hZ hown (host := "") (Or.inl (hw _ (List.mem_of_getElem? (i := 221) rfl))) Via.refl e18 f19 (g := (mkF m 30 #[.val (.ref a), .val nw] [(.ref a), (.ref li), (.int pb), nw, (.ref u), (.ref s2), (.ref s1), (.long qi), (.ref b1), (.ref b1)])) rfl rfl (hb hby own_d_prog_19_method_3_code_30)
  have f21 : Exa Z h1 li "java/util/ImmutableCollections$List12" := (hp11.ext E1)
  obtain ⟨_, _, ⟨T22, L22, k22, n22⟩, -, X22, ⟨Lc22, hQ22, l22, y22, z22⟩, st22⟩ := X20.specialBack hx (y := (⟨"com/example/myna/myna/orders/Order", "<init>", "(JLjava/lang/String;Ljava/lang/String;Lcom/example/myna/myna/orders/Order$State;Ljava/lang/String;ZLjava/util/List;Ljava/util/List;)V"⟩ : MethodName)) rfl hown (mvT hZ (hw _ (List.mem_of_getElem? (i := 229) rfl))) (mvT hZ (hw _ (List.mem_of_getElem? (i := 114) rfl))) (mvT hZ (hw _ (List.mem_of_getElem? (i := 115) rfl))) (by decide) (backOf (W := 1) (own_ord2 l Z a0 hw [] (b1) (qi) (s1) (s2) (u) (nw) (pb) (li) (pa) h1 n0 (O0.keep K6 all0) (hnw) (hpb) (A1) (g4) ((D1 (Or.inr (hw _ (List.mem_of_getElem? (i := 208) rfl))) (ty := .long) (by decide))) ((D1 (Or.inr (hw _ (List.mem_of_getElem? (i := 210) rfl))) (ty := (.object "java/lang/String")) (by decide))) ((D1 (Or.inr (hw _ (List.mem_of_getElem? (i := 212) rfl))) (ty := (.object "java/lang/String")) (by decide))) ((D1 (Or.inr (hw _ (List.mem_of_getElem? (i := 214) rfl))) (ty := (.object "com/example/myna/myna/orders/Order$State")) (by decide))) ((D1 (Or.inr (hw _ (List.mem_of_getElem? (i := 216) rfl))) (ty := (.object "java/lang/String")) (by decide))) ((D1 (Or.inr (hw _ (List.mem_of_getElem? (i := 218) rfl))) (ty := .boolean) (by decide))) ((D1 (Or.inr (hw _ (List.mem_of_getElem? (i := 220) rfl))) (ty := (.object "java/util/List")) (by decide))) ((D1 (Or.inr (hw _ (List.mem_of_getElem? (i := 222) rfl))) (ty := (.object "java/util/List")) (by decide))) (f21) (hp12) (hp13)) hZ (hw _ (List.mem_of_getElem? (i := 115) rfl)) (hw _ (List.mem_of_getElem? (i := 112) rfl)) (by decide) (by decide)) (g := (mkF m 33 #[.val (.ref a), .val nw] [(.ref pa), (.ref li), (.int pb), nw, (.ref u), (.ref s2), (.ref s1), (.long qi), (.ref b1), (.ref b1)])) rfl (by rw [hml]; rfl) (Steps.refl _) (a := b1) (argsL := [(.long qi), (.ref s1), (.ref s2), (.ref u), nw, (.int pb), (.ref li), (.ref pa)]) (rest := [(.ref b1)]) (lenOf own_pd14 rfl) rfl (by show 2 * 0 + _ ≤ _; exact Nat.le_of_eq rfl) (hb hby own_d_prog_19_method_3_code_33) (fun _ _ => ⟨rfl, e20, (by decide : 1 + 0 ≤ _), (by decide : 8 + 0 ≤ _)⟩)
  dsimp only [Pt.U, Pt.locs, Pt.cells, Pt.slots] at X22 l22 y22 z22 st22 hQ22
  subst l22 y22 z22
  obtain ⟨rfl, Nq22, Kq22, po22_0, po22_1, po22_2, po22_3, po22_4, po22_5, po22_6, po22_7, po22_8⟩ := hQ22
  have N22 := Fr.app N0 Nq22
  have K23 : Keep h0 T22.heap [] := K6.trans Kq22 (allS (Or.inr b5) all0)
  obtain ⟨fs, hr, hrun, hended, hW, hsame⟩ := X22.leave (v := some (.ref b1)) (fun h => by rw [Bd.returns] at h; cases h)
  refine ⟨_, _, r0 _ ?_, hrun, hended, _, _, rfl, ?_, ⟨_, rfl⟩, hW, hsame.mono (by decide) (by decide)⟩
  · show Steps p.tables e below (s₁.setTop (mkF m 0 #[.val (.ref a), .val nw] [])) _
    refine st1 _ ?_
    show Steps p.tables e below (T1.setTop (mkF m 3 #[.val (.ref a), .val nw] [(.ref b1)])) _
    refine XS.dup X1.here hx rfl (hb hby own_d_prog_19_method_3_code_3) rfl rfl ?_
    show Steps p.tables e below (T1.setTop (mkF m 4 #[.val (.ref a), .val nw] [(.ref b1), (.ref b1)])) _
    refine XS.aloadN X1.here hx rfl (hb hby own_d_prog_19_method_3_code_4) rfl rfl ?_
    show Steps p.tables e below (T1.setTop (mkF m 5 #[.val (.ref a), .val nw] [(.ref a), (.ref b1), (.ref b1)])) _
    refine st8 _ ?_
    show Steps p.tables e below (T8.setTop (mkF m 8 #[.val (.ref a), .val nw] [(.long qi), (.ref b1), (.ref b1)])) _
    refine XS.aloadN X8.here hx rfl (hb hby own_d_prog_19_method_3_code_8) rfl rfl ?_
    show Steps p.tables e below (T8.setTop (mkF m 9 #[.val (.ref a), .val nw] [(.ref a), (.long qi), (.ref b1), (.ref b1)])) _
    refine st10 _ ?_
    show Steps p.tables e below (T10.setTop (mkF m 12 #[.val (.ref a), .val nw] [(.ref s1), (.long qi), (.ref b1), (.ref b1)])) _
    refine XS.aloadN X10.here hx rfl (hb hby own_d_prog_19_method_3_code_12) rfl rfl ?_
    show Steps p.tables e below (T10.setTop (mkF m 13 #[.val (.ref a), .val nw] [(.ref a), (.ref s1), (.long qi), (.ref b1), (.ref b1)])) _
    refine st12 _ ?_
    show Steps p.tables e below (T12.setTop (mkF m 16 #[.val (.ref a), .val nw] [(.ref s2), (.ref s1), (.long qi), (.ref b1), (.ref b1)])) _
    refine XS.aloadN X12.here hx rfl (hb hby own_d_prog_19_method_3_code_16) rfl rfl ?_
    show Steps p.tables e below (T12.setTop (mkF m 17 #[.val (.ref a), .val nw] [(.ref a), (.ref s2), (.ref s1), (.long qi), (.ref b1), (.ref b1)])) _
    refine st14 _ ?_
    show Steps p.tables e below (T14.setTop (mkF m 20 #[.val (.ref a), .val nw] [(.ref u), (.ref s2), (.ref s1), (.long qi), (.ref b1), (.ref b1)])) _
    refine XS.aloadN X14.here hx rfl (hb hby own_d_prog_19_method_3_code_20) rfl hnw ?_
    show Steps p.tables e below (T14.setTop (mkF m 21 #[.val (.ref a), .val nw] [nw, (.ref u), (.ref s2), (.ref s1), (.long qi), (.ref b1), (.ref b1)])) _
    refine XS.aloadN X14.here hx rfl (hb hby own_d_prog_19_method_3_code_21) rfl rfl ?_
    show Steps p.tables e below (T14.setTop (mkF m 22 #[.val (.ref a), .val nw] [(.ref a), nw, (.ref u), (.ref s2), (.ref s1), (.long qi), (.ref b1), (.ref b1)])) _
    refine st16 _ ?_
    show Steps p.tables e below (T16.setTop (mkF m 25 #[.val (.ref a), .val nw] [(.int pb), nw, (.ref u), (.ref s2), (.ref s1), (.long qi), (.ref b1), (.ref b1)])) _
    refine XS.aloadN X16.here hx rfl (hb hby own_d_prog_19_method_3_code_25) rfl rfl ?_
    show Steps p.tables e below (T16.setTop (mkF m 26 #[.val (.ref a), .val nw] [(.ref a), (.int pb), nw, (.ref u), (.ref s2), (.ref s1), (.long qi), (.ref b1), (.ref b1)])) _
    refine st18 _ ?_
    show Steps p.tables e below (T18.setTop (mkF m 29 #[.val (.ref a), .val nw] [(.ref li), (.int pb), nw, (.ref u), (.ref s2), (.ref s1), (.long qi), (.ref b1), (.ref b1)])) _
    refine XS.aloadN X18.here hx rfl (hb hby own_d_prog_19_method_3_code_29) rfl rfl ?_
    show Steps p.tables e below (T18.setTop (mkF m 30 #[.val (.ref a), .val nw] [(.ref a), (.ref li), (.int pb), nw, (.ref u), (.ref s2), (.ref s1), (.long qi), (.ref b1), (.ref b1)])) _
    refine st20 _ ?_
    show Steps p.tables e below (T20.setTop (mkF m 33 #[.val (.ref a), .val nw] [(.ref pa), (.ref li), (.int pb), nw, (.ref u), (.ref s2), (.ref s1), (.long qi), (.ref b1), (.ref b1)])) _
    refine st22.trans ?_
    show Steps p.tables e below (T22.setTop (mkF m 36 #[.val (.ref a), .val nw] [(.ref b1)])) _
    exact retOut X22 hx (t := (.object "com/example/myna/myna/orders/Order")) Bd.returns rfl (Or.inr (Or.inr (Or.inr (Or.inr ⟨rfl, rfl, rfl⟩)))) (hb hby own_d_prog_19_method_3_code_36) hr
  · show Q_own_wes Z a nw qi s1 s2 u sv pb li pa h0 n0 _ T22.heap _
    exact ⟨b1, rfl, N22, K23, b5, g4, po22_0, po22_1, po22_2, po22_3, po22_4, po22_5, po22_6, po22_7, po22_8⟩
theorem own_pn_own_g_id : plainName "com/example/myna/myna/orders/Order" = true := by first | (simp [plainName, overriddenIn]; done) | decide +kernel
theorem own_ef_own_g_id (m : MethodId) (a : Addr) : entryFrame m #[(.ref a)] 1 = mkF m 0 #[.val (.ref a)] [] := by first | (simp [entryFrame, mkF, argsToLocals, own_cI, own_cJ, own_cR, own_cN]; done) | rfl
abbrev own_F_own_g_id (m : MethodId) (a : Addr) : JFrame := entryFrame m #[(.ref a)] 1
def Q_own_g_id (Z : State) (a : Addr) (z : Int64) (h0 : Heap) (n0 : Nat) (v : Option Value) (h : Heap) (L : List Loc) : Prop := v = some (.long z) ∧ Fr n0 L ∧ h = h0
set_option maxRecDepth 65536 in
set_option maxHeartbeats 40000000 in
theorem own_g_id (l : Launch) (Z : State) (a0 : Array Value) (hw : ∀ d ∈ tables_1, d.before a0 Z = true) (ws : List Jvm.Cond) (a : Addr) (z : Int64) (h0 : Heap) (n0 : Nat) (O0 : Old Z n0 h0) (hp0 : Fld Z h0 a "com/example/myna/myna/orders/Order" "id" "J" (.long z)) :
    MetFree l (⟨"com/example/myna/myna/orders/Order", "id", "()J"⟩ : MethodName) (head1 (Jvm.Cond.code (⟨"com/example/myna/myna/orders/Order", "id", "()J"⟩ : MethodName) prog_19_method_10_code 1 (some .long) :: ws) ({ frames := 0, cells := 0, slots := 0, locals := 0 } : Room)) (fun aa_ U_ => aa_ = #[(.ref a)] ∧ Z.Warmed39 U_.vm ∧ U_.heap = h0) (fun _ _ _ _ _ => True) (fun _ U_ o_ V_ => ∃ v_ L_, o_ = .returned v_ ∧ Q_own_g_id Z a z h0 n0 v_ V_.heap L_ ∧ FrameEnd U_ o_ V_ L_ ({ frames := 0, cells := 0, slots := 0, locals := 0 } : Room).cells ({ frames := 0, cells := 0, slots := 0, locals := 0 } : Room).slots) := by
  refine MetFree.of_bodySF (plainFor_of_name own_pn_own_g_id) hisR ?_
  intro p e s m args below meth c s₁ Bd hml0 hP hK
  obtain ⟨rfl, hZ, hh⟩ := hP
  have hx := Bd.exec
  have hby := Bd.bytes
  have hml : c.maxLocals = 1 := hml0
  have hown : s.vm.findClass "com/example/myna/myna/orders/Order" = some m.cls := findClass_of_methodNamed Bd.named
  have hnm := (name_of_methodNamed Bd.named Bd.method).1
  have X0 : Stand p l e ({ frames := 0, cells := 0, slots := 0, locals := 0 } : Room) s m #[(.ref a)] below meth c s₁ [] 0 0 := Stand.of_body Bd
  have e0 : s₁.heap = h0 := by rw [← hh, Bd.state]; rfl
  have N0 := Fr.nil n0
  have K0 : Keep h0 h0 [] := Keep.refl _ _
  have r0 : GoTo p.tables e below s₁ (own_F_own_g_id m a) s₁ (mkF m 0 #[.val (.ref a)] []) := fun tt_ kk_ => castTop (own_ef_own_g_id m a) kk_
  obtain ⟨T1, X1, e1, st1⟩ := getF X0 hx hZ hown (host := "") (Or.inl (hw _ (List.mem_of_getElem? (i := 207) rfl))) Via.refl e0 hp0 (g := (mkF m 1 #[.val (.ref a)] [(.ref a)])) rfl rfl (hb hby own_d_prog_19_method_10_code_1)
  obtain ⟨fs, hr, hrun, hended, hW, hsame⟩ := X1.leave (v := some (.long z)) (fun h => by rw [Bd.returns] at h; cases h)
  refine ⟨_, _, r0 _ ?_, hrun, hended, _, _, rfl, ?_, ⟨_, rfl⟩, hW, hsame.mono (by decide) (by decide)⟩
  · show Steps p.tables e below (s₁.setTop (mkF m 0 #[.val (.ref a)] [])) _
    refine XS.aloadN X0.here hx rfl (hb hby own_d_prog_19_method_10_code_0) rfl rfl ?_
    show Steps p.tables e below (s₁.setTop (mkF m 1 #[.val (.ref a)] [(.ref a)])) _
    refine st1 _ ?_
    show Steps p.tables e below (T1.setTop (mkF m 4 #[.val (.ref a)] [(.long z)])) _
    exact X1.lreturnOut hx Bd.returns (hb hby own_d_prog_19_method_10_code_4) hr
  · show Q_own_g_id Z a z h0 n0 _ T1.heap _
    rw [e1]
    exact ⟨rfl, N0, rfl⟩
theorem own_pn_own_g_channel : plainName "com/example/myna/myna/orders/Order" = true := by first | (simp [plainName, overriddenIn]; done) | decide +kernel
theorem own_ef_own_g_channel (m : MethodId) (a : Addr) : entryFrame m #[(.ref a)] 1 = mkF m 0 #[.val (.ref a)] [] := by first | (simp [entryFrame, mkF, argsToLocals, own_cI, own_cJ, own_cR, own_cN]; done) | rfl
abbrev own_F_own_g_channel (m : MethodId) (a : Addr) : JFrame := entryFrame m #[(.ref a)] 1
def Q_own_g_channel (Z : State) (a : Addr) (z : Addr) (h0 : Heap) (n0 : Nat) (v : Option Value) (h : Heap) (L : List Loc) : Prop := v = some (.ref z) ∧ Fr n0 L ∧ h = h0
set_option maxRecDepth 65536 in
set_option maxHeartbeats 40000000 in
theorem own_g_channel (l : Launch) (Z : State) (a0 : Array Value) (hw : ∀ d ∈ tables_1, d.before a0 Z = true) (ws : List Jvm.Cond) (a : Addr) (z : Addr) (h0 : Heap) (n0 : Nat) (O0 : Old Z n0 h0) (hp0 : Fld Z h0 a "com/example/myna/myna/orders/Order" "channel" "Ljava/lang/String;" (.ref z)) :
    MetFree l (⟨"com/example/myna/myna/orders/Order", "channel", "()Ljava/lang/String;"⟩ : MethodName) (head1 (Jvm.Cond.code (⟨"com/example/myna/myna/orders/Order", "channel", "()Ljava/lang/String;"⟩ : MethodName) prog_19_method_11_code 1 (some (.object "java/lang/String")) :: ws) ({ frames := 0, cells := 0, slots := 0, locals := 0 } : Room)) (fun aa_ U_ => aa_ = #[(.ref a)] ∧ Z.Warmed39 U_.vm ∧ U_.heap = h0) (fun _ _ _ _ _ => True) (fun _ U_ o_ V_ => ∃ v_ L_, o_ = .returned v_ ∧ Q_own_g_channel Z a z h0 n0 v_ V_.heap L_ ∧ FrameEnd U_ o_ V_ L_ ({ frames := 0, cells := 0, slots := 0, locals := 0 } : Room).cells ({ frames := 0, cells := 0, slots := 0, locals := 0 } : Room).slots) := by
  refine MetFree.of_bodySF (plainFor_of_name own_pn_own_g_channel) hisR ?_
  intro p e s m args below meth c s₁ Bd hml0 hP hK
  obtain ⟨rfl, hZ, hh⟩ := hP
  have hx := Bd.exec
  have hby := Bd.bytes
  have hml : c.maxLocals = 1 := hml0
  have hown : s.vm.findClass "com/example/myna/myna/orders/Order" = some m.cls := findClass_of_methodNamed Bd.named
  have hnm := (name_of_methodNamed Bd.named Bd.method).1
  have X0 : Stand p l e ({ frames := 0, cells := 0, slots := 0, locals := 0 } : Room) s m #[(.ref a)] below meth c s₁ [] 0 0 := Stand.of_body Bd
  have e0 : s₁.heap = h0 := by rw [← hh, Bd.state]; rfl
  have N0 := Fr.nil n0
  have K0 : Keep h0 h0 [] := Keep.refl _ _
  have r0 : GoTo p.tables e below s₁ (own_F_own_g_channel m a) s₁ (mkF m 0 #[.val (.ref a)] []) := fun tt_ kk_ => castTop (own_ef_own_g_channel m a) kk_
  obtain ⟨T1, X1, e1, st1⟩ := getF X0 hx hZ hown (host := "") (Or.inl (hw _ (List.mem_of_getElem? (i := 209) rfl))) Via.refl e0 hp0 (g := (mkF m 1 #[.val (.ref a)] [(.ref a)])) rfl rfl (hb hby own_d_prog_19_method_11_code_1)
  obtain ⟨fs, hr, hrun, hended, hW, hsame⟩ := X1.leave (v := some (.ref z)) (fun h => by rw [Bd.returns] at h; cases h)
  refine ⟨_, _, r0 _ ?_, hrun, hended, _, _, rfl, ?_, ⟨_, rfl⟩, hW, hsame.mono (by decide) (by decide)⟩
  · show Steps p.tables e below (s₁.setTop (mkF m 0 #[.val (.ref a)] [])) _
    refine XS.aloadN X0.here hx rfl (hb hby own_d_prog_19_method_11_code_0) rfl rfl ?_
    show Steps p.tables e below (s₁.setTop (mkF m 1 #[.val (.ref a)] [(.ref a)])) _
    refine st1 _ ?_
    show Steps p.tables e below (T1.setTop (mkF m 4 #[.val (.ref a)] [(.ref z)])) _
    exact retOut X1 hx (t := (.object "java/lang/String")) Bd.returns rfl (Or.inr (Or.inr (Or.inr (Or.inr ⟨rfl, rfl, rfl⟩)))) (hb hby own_d_prog_19_method_11_code_4) hr
  · show Q_own_g_channel Z a z h0 n0 _ T1.heap _
    rw [e1]
    exact ⟨rfl, N0, rfl⟩
theorem own_pn_own_g_externalId : plainName "com/example/myna/myna/orders/Order" = true := by first | (simp [plainName, overriddenIn]; done) | decide +kernel
theorem own_ef_own_g_externalId (m : MethodId) (a : Addr) : entryFrame m #[(.ref a)] 1 = mkF m 0 #[.val (.ref a)] [] := by first | (simp [entryFrame, mkF, argsToLocals, own_cI, own_cJ, own_cR, own_cN]; done) | rfl
abbrev own_F_own_g_externalId (m : MethodId) (a : Addr) : JFrame := entryFrame m #[(.ref a)] 1
def Q_own_g_externalId (Z : State) (a : Addr) (z : Addr) (h0 : Heap) (n0 : Nat) (v : Option Value) (h : Heap) (L : List Loc) : Prop := v = some (.ref z) ∧ Fr n0 L ∧ h = h0
set_option maxRecDepth 65536 in
set_option maxHeartbeats 40000000 in
theorem own_g_externalId (l : Launch) (Z : State) (a0 : Array Value) (hw : ∀ d ∈ tables_1, d.before a0 Z = true) (ws : List Jvm.Cond) (a : Addr) (z : Addr) (h0 : Heap) (n0 : Nat) (O0 : Old Z n0 h0) (hp0 : Fld Z h0 a "com/example/myna/myna/orders/Order" "externalId" "Ljava/lang/String;" (.ref z)) :
    MetFree l (⟨"com/example/myna/myna/orders/Order", "externalId", "()Ljava/lang/String;"⟩ : MethodName) (head1 (Jvm.Cond.code (⟨"com/example/myna/myna/orders/Order", "externalId", "()Ljava/lang/String;"⟩ : MethodName) prog_19_method_12_code 1 (some (.object "java/lang/String")) :: ws) ({ frames := 0, cells := 0, slots := 0, locals := 0 } : Room)) (fun aa_ U_ => aa_ = #[(.ref a)] ∧ Z.Warmed39 U_.vm ∧ U_.heap = h0) (fun _ _ _ _ _ => True) (fun _ U_ o_ V_ => ∃ v_ L_, o_ = .returned v_ ∧ Q_own_g_externalId Z a z h0 n0 v_ V_.heap L_ ∧ FrameEnd U_ o_ V_ L_ ({ frames := 0, cells := 0, slots := 0, locals := 0 } : Room).cells ({ frames := 0, cells := 0, slots := 0, locals := 0 } : Room).slots) := by
  refine MetFree.of_bodySF (plainFor_of_name own_pn_own_g_externalId) hisR ?_
  intro p e s m args below meth c s₁ Bd hml0 hP hK
  obtain ⟨rfl, hZ, hh⟩ := hP
  have hx := Bd.exec
  have hby := Bd.bytes
  have hml : c.maxLocals = 1 := hml0
  have hown : s.vm.findClass "com/example/myna/myna/orders/Order" = some m.cls := findClass_of_methodNamed Bd.named
  have hnm := (name_of_methodNamed Bd.named Bd.method).1
  have X0 : Stand p l e ({ frames := 0, cells := 0, slots := 0, locals := 0 } : Room) s m #[(.ref a)] below meth c s₁ [] 0 0 := Stand.of_body Bd
  have e0 : s₁.heap = h0 := by rw [← hh, Bd.state]; rfl
  have N0 := Fr.nil n0
  have K0 : Keep h0 h0 [] := Keep.refl _ _
  have r0 : GoTo p.tables e below s₁ (own_F_own_g_externalId m a) s₁ (mkF m 0 #[.val (.ref a)] []) := fun tt_ kk_ => castTop (own_ef_own_g_externalId m a) kk_
  obtain ⟨T1, X1, e1, st1⟩ := getF X0 hx hZ hown (host := "") (Or.inl (hw _ (List.mem_of_getElem? (i := 211) rfl))) Via.refl e0 hp0 (g := (mkF m 1 #[.val (.ref a)] [(.ref a)])) rfl rfl (hb hby own_d_prog_19_method_12_code_1)
  obtain ⟨fs, hr, hrun, hended, hW, hsame⟩ := X1.leave (v := some (.ref z)) (fun h => by rw [Bd.returns] at h; cases h)
  refine ⟨_, _, r0 _ ?_, hrun, hended, _, _, rfl, ?_, ⟨_, rfl⟩, hW, hsame.mono (by decide) (by decide)⟩
  · show Steps p.tables e below (s₁.setTop (mkF m 0 #[.val (.ref a)] [])) _
    refine XS.aloadN X0.here hx rfl (hb hby own_d_prog_19_method_12_code_0) rfl rfl ?_
    show Steps p.tables e below (s₁.setTop (mkF m 1 #[.val (.ref a)] [(.ref a)])) _
    refine st1 _ ?_
    show Steps p.tables e below (T1.setTop (mkF m 4 #[.val (.ref a)] [(.ref z)])) _
    exact retOut X1 hx (t := (.object "java/lang/String")) Bd.returns rfl (Or.inr (Or.inr (Or.inr (Or.inr ⟨rfl, rfl, rfl⟩)))) (hb hby own_d_prog_19_method_12_code_4) hr
  · show Q_own_g_externalId Z a z h0 n0 _ T1.heap _
    rw [e1]
    exact ⟨rfl, N0, rfl⟩
theorem own_pn_own_g_state : plainName "com/example/myna/myna/orders/Order" = true := by first | (simp [plainName, overriddenIn]; done) | decide +kernel
theorem own_ef_own_g_state (m : MethodId) (a : Addr) : entryFrame m #[(.ref a)] 1 = mkF m 0 #[.val (.ref a)] [] := by first | (simp [entryFrame, mkF, argsToLocals, own_cI, own_cJ, own_cR, own_cN]; done) | rfl
abbrev own_F_own_g_state (m : MethodId) (a : Addr) : JFrame := entryFrame m #[(.ref a)] 1
def Q_own_g_state (Z : State) (a : Addr) (z : Addr) (h0 : Heap) (n0 : Nat) (v : Option Value) (h : Heap) (L : List Loc) : Prop := v = some (.ref z) ∧ Fr n0 L ∧ h = h0
set_option maxRecDepth 65536 in
set_option maxHeartbeats 40000000 in
theorem own_g_state (l : Launch) (Z : State) (a0 : Array Value) (hw : ∀ d ∈ tables_1, d.before a0 Z = true) (ws : List Jvm.Cond) (a : Addr) (z : Addr) (h0 : Heap) (n0 : Nat) (O0 : Old Z n0 h0) (hp0 : Fld Z h0 a "com/example/myna/myna/orders/Order" "state" "Lcom/example/myna/myna/orders/Order$State;" (.ref z)) :
    MetFree l (⟨"com/example/myna/myna/orders/Order", "state", "()Lcom/example/myna/myna/orders/Order$State;"⟩ : MethodName) (head1 (Jvm.Cond.code (⟨"com/example/myna/myna/orders/Order", "state", "()Lcom/example/myna/myna/orders/Order$State;"⟩ : MethodName) prog_19_method_13_code 1 (some (.object "com/example/myna/myna/orders/Order$State")) :: ws) ({ frames := 0, cells := 0, slots := 0, locals := 0 } : Room)) (fun aa_ U_ => aa_ = #[(.ref a)] ∧ Z.Warmed39 U_.vm ∧ U_.heap = h0) (fun _ _ _ _ _ => True) (fun _ U_ o_ V_ => ∃ v_ L_, o_ = .returned v_ ∧ Q_own_g_state Z a z h0 n0 v_ V_.heap L_ ∧ FrameEnd U_ o_ V_ L_ ({ frames := 0, cells := 0, slots := 0, locals := 0 } : Room).cells ({ frames := 0, cells := 0, slots := 0, locals := 0 } : Room).slots) := by
  refine MetFree.of_bodySF (plainFor_of_name own_pn_own_g_state) hisR ?_
  intro p e s m args below meth c s₁ Bd hml0 hP hK
  obtain ⟨rfl, hZ, hh⟩ := hP
  have hx := Bd.exec
  have hby := Bd.bytes
  have hml : c.maxLocals = 1 := hml0
  have hown : s.vm.findClass "com/example/myna/myna/orders/Order" = some m.cls := findClass_of_methodNamed Bd.named
  have hnm := (name_of_methodNamed Bd.named Bd.method).1
  have X0 : Stand p l e ({ frames := 0, cells := 0, slots := 0, locals := 0 } : Room) s m #[(.ref a)] below meth c s₁ [] 0 0 := Stand.of_body Bd
  have e0 : s₁.heap = h0 := by rw [← hh, Bd.state]; rfl
  have N0 := Fr.nil n0
  have K0 : Keep h0 h0 [] := Keep.refl _ _
  have r0 : GoTo p.tables e below s₁ (own_F_own_g_state m a) s₁ (mkF m 0 #[.val (.ref a)] []) := fun tt_ kk_ => castTop (own_ef_own_g_state m a) kk_
  obtain ⟨T1, X1, e1, st1⟩ := getF X0 hx hZ hown (host := "") (Or.inl (hw _ (List.mem_of_getElem? (i := 213) rfl))) Via.refl e0 hp0 (g := (mkF m 1 #[.val (.ref a)] [(.ref a)])) rfl rfl (hb hby own_d_prog_19_method_13_code_1)
  obtain ⟨fs, hr, hrun, hended, hW, hsame⟩ := X1.leave (v := some (.ref z)) (fun h => by rw [Bd.returns] at h; cases h)
  refine ⟨_, _, r0 _ ?_, hrun, hended, _, _, rfl, ?_, ⟨_, rfl⟩, hW, hsame.mono (by decide) (by decide)⟩
  · show Steps p.tables e below (s₁.setTop (mkF m 0 #[.val (.ref a)] [])) _
    refine XS.aloadN X0.here hx rfl (hb hby own_d_prog_19_method_13_code_0) rfl rfl ?_
    show Steps p.tables e below (s₁.setTop (mkF m 1 #[.val (.ref a)] [(.ref a)])) _
    refine st1 _ ?_
    show Steps p.tables e below (T1.setTop (mkF m 4 #[.val (.ref a)] [(.ref z)])) _
    exact retOut X1 hx (t := (.object "com/example/myna/myna/orders/Order$State")) Bd.returns rfl (Or.inr (Or.inr (Or.inr (Or.inr ⟨rfl, rfl, rfl⟩)))) (hb hby own_d_prog_19_method_13_code_4) hr
  · show Q_own_g_state Z a z h0 n0 _ T1.heap _
    rw [e1]
    exact ⟨rfl, N0, rfl⟩
theorem own_pn_own_g_externalState : plainName "com/example/myna/myna/orders/Order" = true := by first | (simp [plainName, overriddenIn]; done) | decide +kernel
theorem own_ef_own_g_externalState (m : MethodId) (a : Addr) : entryFrame m #[(.ref a)] 1 = mkF m 0 #[.val (.ref a)] [] := by first | (simp [entryFrame, mkF, argsToLocals, own_cI, own_cJ, own_cR, own_cN]; done) | rfl
abbrev own_F_own_g_externalState (m : MethodId) (a : Addr) : JFrame := entryFrame m #[(.ref a)] 1
def Q_own_g_externalState (Z : State) (a : Addr) (z : Value) (h0 : Heap) (n0 : Nat) (v : Option Value) (h : Heap) (L : List Loc) : Prop := v = some z ∧ Fr n0 L ∧ h = h0
set_option maxRecDepth 65536 in
set_option maxHeartbeats 40000000 in
theorem own_g_externalState (l : Launch) (Z : State) (a0 : Array Value) (hw : ∀ d ∈ tables_1, d.before a0 Z = true) (ws : List Jvm.Cond) (a : Addr) (z : Value) (h0 : Heap) (n0 : Nat) (O0 : Old Z n0 h0) (hz : z.isRef = true) (hp1 : Fld Z h0 a "com/example/myna/myna/orders/Order" "externalState" "Ljava/lang/String;" z) :
    MetFree l (⟨"com/example/myna/myna/orders/Order", "externalState", "()Ljava/lang/String;"⟩ : MethodName) (head1 (Jvm.Cond.code (⟨"com/example/myna/myna/orders/Order", "externalState", "()Ljava/lang/String;"⟩ : MethodName) prog_19_method_14_code 1 (some (.object "java/lang/String")) :: ws) ({ frames := 0, cells := 0, slots := 0, locals := 0 } : Room)) (fun aa_ U_ => aa_ = #[(.ref a)] ∧ Z.Warmed39 U_.vm ∧ U_.heap = h0) (fun _ _ _ _ _ => True) (fun _ U_ o_ V_ => ∃ v_ L_, o_ = .returned v_ ∧ Q_own_g_externalState Z a z h0 n0 v_ V_.heap L_ ∧ FrameEnd U_ o_ V_ L_ ({ frames := 0, cells := 0, slots := 0, locals := 0 } : Room).cells ({ frames := 0, cells := 0, slots := 0, locals := 0 } : Room).slots) := by
  refine MetFree.of_bodySF (plainFor_of_name own_pn_own_g_externalState) hisR ?_
  intro p e s m args below meth c s₁ Bd hml0 hP hK
  obtain ⟨rfl, hZ, hh⟩ := hP
  have hx := Bd.exec
  have hby := Bd.bytes
  have hml : c.maxLocals = 1 := hml0
  have hown : s.vm.findClass "com/example/myna/myna/orders/Order" = some m.cls := findClass_of_methodNamed Bd.named
  have hnm := (name_of_methodNamed Bd.named Bd.method).1
  have X0 : Stand p l e ({ frames := 0, cells := 0, slots := 0, locals := 0 } : Room) s m #[(.ref a)] below meth c s₁ [] 0 0 := Stand.of_body Bd
  have e0 : s₁.heap = h0 := by rw [← hh, Bd.state]; rfl
  have N0 := Fr.nil n0
  have K0 : Keep h0 h0 [] := Keep.refl _ _
  have r0 : GoTo p.tables e below s₁ (own_F_own_g_externalState m a) s₁ (mkF m 0 #[.val (.ref a)] []) := fun tt_ kk_ => castTop (own_ef_own_g_externalState m a) kk_
  obtain ⟨T1, X1, e1, st1⟩ := getF X0 hx hZ hown (host := "") (Or.inl (hw _ (List.mem_of_getElem? (i := 215) rfl))) Via.refl e0 hp1 (g := (mkF m 1 #[.val (.ref a)] [(.ref a)])) rfl rfl (hb hby own_d_prog_19_method_14_code_1)
  obtain ⟨fs, hr, hrun, hended, hW, hsame⟩ := X1.leave (v := some z) (fun h => by rw [Bd.returns] at h; cases h)
  refine ⟨_, _, r0 _ ?_, hrun, hended, _, _, rfl, ?_, ⟨_, rfl⟩, hW, hsame.mono (by decide) (by decide)⟩
  · show Steps p.tables e below (s₁.setTop (mkF m 0 #[.val (.ref a)] [])) _
    refine XS.aloadN X0.here hx rfl (hb hby own_d_prog_19_method_14_code_0) rfl rfl ?_
    show Steps p.tables e below (s₁.setTop (mkF m 1 #[.val (.ref a)] [(.ref a)])) _
    refine st1 _ ?_
    show Steps p.tables e below (T1.setTop (mkF m 4 #[.val (.ref a)] [z])) _
    exact retOut X1 hx (t := (.object "java/lang/String")) Bd.returns rfl (Or.inr (Or.inr (Or.inr (Or.inr ⟨rfl, rfl, hz⟩)))) (hb hby own_d_prog_19_method_14_code_4) hr
  · show Q_own_g_externalState Z a z h0 n0 _ T1.heap _
    rw [e1]
    exact ⟨rfl, N0, rfl⟩
theorem own_pn_own_g_awaitingAcknowledgement : plainName "com/example/myna/myna/orders/Order" = true := by first | (simp [plainName, overriddenIn]; done) | decide +kernel
theorem own_ef_own_g_awaitingAcknowledgement (m : MethodId) (a : Addr) : entryFrame m #[(.ref a)] 1 = mkF m 0 #[.val (.ref a)] [] := by first | (simp [entryFrame, mkF, argsToLocals, own_cI, own_cJ, own_cR, own_cN]; done) | rfl
abbrev own_F_own_g_awaitingAcknowledgement (m : MethodId) (a : Addr) : JFrame := entryFrame m #[(.ref a)] 1
def Q_own_g_awaitingAcknowledgement (Z : State) (a : Addr) (z : Int32) (h0 : Heap) (n0 : Nat) (v : Option Value) (h : Heap) (L : List Loc) : Prop := v = some (.int z) ∧ Fr n0 L ∧ h = h0
set_option maxRecDepth 65536 in
set_option maxHeartbeats 40000000 in
theorem own_g_awaitingAcknowledgement (l : Launch) (Z : State) (a0 : Array Value) (hw : ∀ d ∈ tables_1, d.before a0 Z = true) (ws : List Jvm.Cond) (a : Addr) (z : Int32) (h0 : Heap) (n0 : Nat) (O0 : Old Z n0 h0) (hz : nar .boolean z = z) (hp1 : Fld Z h0 a "com/example/myna/myna/orders/Order" "awaitingAcknowledgement" "Z" (.int z)) :
    MetFree l (⟨"com/example/myna/myna/orders/Order", "awaitingAcknowledgement", "()Z"⟩ : MethodName) (head1 (Jvm.Cond.code (⟨"com/example/myna/myna/orders/Order", "awaitingAcknowledgement", "()Z"⟩ : MethodName) prog_19_method_15_code 1 (some .boolean) :: ws) ({ frames := 0, cells := 0, slots := 0, locals := 0 } : Room)) (fun aa_ U_ => aa_ = #[(.ref a)] ∧ Z.Warmed39 U_.vm ∧ U_.heap = h0) (fun _ _ _ _ _ => True) (fun _ U_ o_ V_ => ∃ v_ L_, o_ = .returned v_ ∧ Q_own_g_awaitingAcknowledgement Z a z h0 n0 v_ V_.heap L_ ∧ FrameEnd U_ o_ V_ L_ ({ frames := 0, cells := 0, slots := 0, locals := 0 } : Room).cells ({ frames := 0, cells := 0, slots := 0, locals := 0 } : Room).slots) := by
  refine MetFree.of_bodySF (plainFor_of_name own_pn_own_g_awaitingAcknowledgement) hisR ?_
  intro p e s m args below meth c s₁ Bd hml0 hP hK
  obtain ⟨rfl, hZ, hh⟩ := hP
  have hx := Bd.exec
  have hby := Bd.bytes
  have hml : c.maxLocals = 1 := hml0
  have hown : s.vm.findClass "com/example/myna/myna/orders/Order" = some m.cls := findClass_of_methodNamed Bd.named
  have hnm := (name_of_methodNamed Bd.named Bd.method).1
  have X0 : Stand p l e ({ frames := 0, cells := 0, slots := 0, locals := 0 } : Room) s m #[(.ref a)] below meth c s₁ [] 0 0 := Stand.of_body Bd
  have e0 : s₁.heap = h0 := by rw [← hh, Bd.state]; rfl
  have N0 := Fr.nil n0
  have K0 : Keep h0 h0 [] := Keep.refl _ _
  have r0 : GoTo p.tables e below s₁ (own_F_own_g_awaitingAcknowledgement m a) s₁ (mkF m 0 #[.val (.ref a)] []) := fun tt_ kk_ => castTop (own_ef_own_g_awaitingAcknowledgement m a) kk_
  obtain ⟨T1, X1, e1, st1⟩ := getF X0 hx hZ hown (host := "") (Or.inl (hw _ (List.mem_of_getElem? (i := 217) rfl))) Via.refl e0 hp1 (g := (mkF m 1 #[.val (.ref a)] [(.ref a)])) rfl rfl (hb hby own_d_prog_19_method_15_code_1)
  obtain ⟨fs, hr, hrun, hended, hW, hsame⟩ := X1.leave (v := some (.int (nar .boolean z))) (fun h => by rw [Bd.returns] at h; cases h)
  refine ⟨_, _, r0 _ ?_, hrun, hended, _, _, rfl, ?_, ⟨_, rfl⟩, hW, hsame.mono (by decide) (by decide)⟩
  · show Steps p.tables e below (s₁.setTop (mkF m 0 #[.val (.ref a)] [])) _
    refine XS.aloadN X0.here hx rfl (hb hby own_d_prog_19_method_15_code_0) rfl rfl ?_
    show Steps p.tables e below (s₁.setTop (mkF m 1 #[.val (.ref a)] [(.ref a)])) _
    refine st1 _ ?_
    show Steps p.tables e below (T1.setTop (mkF m 4 #[.val (.ref a)] [(.int z)])) _
    exact retN X1 hx (t := .boolean) Bd.returns (by simp) (hb hby own_d_prog_19_method_15_code_4) hr
  · show Q_own_g_awaitingAcknowledgement Z a z h0 n0 _ T1.heap _
    rw [e1]
    exact ⟨(by rw [hz]), N0, rfl⟩
theorem own_pn_own_g_lines : plainName "com/example/myna/myna/orders/Order" = true := by first | (simp [plainName, overriddenIn]; done) | decide +kernel
theorem own_ef_own_g_lines (m : MethodId) (a : Addr) : entryFrame m #[(.ref a)] 1 = mkF m 0 #[.val (.ref a)] [] := by first | (simp [entryFrame, mkF, argsToLocals, own_cI, own_cJ, own_cR, own_cN]; done) | rfl
abbrev own_F_own_g_lines (m : MethodId) (a : Addr) : JFrame := entryFrame m #[(.ref a)] 1
def Q_own_g_lines (Z : State) (a : Addr) (z : Addr) (h0 : Heap) (n0 : Nat) (v : Option Value) (h : Heap) (L : List Loc) : Prop := v = some (.ref z) ∧ Fr n0 L ∧ h = h0
set_option maxRecDepth 65536 in
set_option maxHeartbeats 40000000 in
theorem own_g_lines (l : Launch) (Z : State) (a0 : Array Value) (hw : ∀ d ∈ tables_1, d.before a0 Z = true) (ws : List Jvm.Cond) (a : Addr) (z : Addr) (h0 : Heap) (n0 : Nat) (O0 : Old Z n0 h0) (hp0 : Fld Z h0 a "com/example/myna/myna/orders/Order" "lines" "Ljava/util/List;" (.ref z)) :
    MetFree l (⟨"com/example/myna/myna/orders/Order", "lines", "()Ljava/util/List;"⟩ : MethodName) (head1 (Jvm.Cond.code (⟨"com/example/myna/myna/orders/Order", "lines", "()Ljava/util/List;"⟩ : MethodName) prog_19_method_16_code 1 (some (.object "java/util/List")) :: ws) ({ frames := 0, cells := 0, slots := 0, locals := 0 } : Room)) (fun aa_ U_ => aa_ = #[(.ref a)] ∧ Z.Warmed39 U_.vm ∧ U_.heap = h0) (fun _ _ _ _ _ => True) (fun _ U_ o_ V_ => ∃ v_ L_, o_ = .returned v_ ∧ Q_own_g_lines Z a z h0 n0 v_ V_.heap L_ ∧ FrameEnd U_ o_ V_ L_ ({ frames := 0, cells := 0, slots := 0, locals := 0 } : Room).cells ({ frames := 0, cells := 0, slots := 0, locals := 0 } : Room).slots) := by
  refine MetFree.of_bodySF (plainFor_of_name own_pn_own_g_lines) hisR ?_
  intro p e s m args below meth c s₁ Bd hml0 hP hK
  obtain ⟨rfl, hZ, hh⟩ := hP
  have hx := Bd.exec
  have hby := Bd.bytes
  have hml : c.maxLocals = 1 := hml0
  have hown : s.vm.findClass "com/example/myna/myna/orders/Order" = some m.cls := findClass_of_methodNamed Bd.named
  have hnm := (name_of_methodNamed Bd.named Bd.method).1
  have X0 : Stand p l e ({ frames := 0, cells := 0, slots := 0, locals := 0 } : Room) s m #[(.ref a)] below meth c s₁ [] 0 0 := Stand.of_body Bd
  have e0 : s₁.heap = h0 := by rw [← hh, Bd.state]; rfl
  have N0 := Fr.nil n0
  have K0 : Keep h0 h0 [] := Keep.refl _ _
  have r0 : GoTo p.tables e below s₁ (own_F_own_g_lines m a) s₁ (mkF m 0 #[.val (.ref a)] []) := fun tt_ kk_ => castTop (own_ef_own_g_lines m a) kk_
  obtain ⟨T1, X1, e1, st1⟩ := getF X0 hx hZ hown (host := "") (Or.inl (hw _ (List.mem_of_getElem? (i := 219) rfl))) Via.refl e0 hp0 (g := (mkF m 1 #[.val (.ref a)] [(.ref a)])) rfl rfl (hb hby own_d_prog_19_method_16_code_1)
  obtain ⟨fs, hr, hrun, hended, hW, hsame⟩ := X1.leave (v := some (.ref z)) (fun h => by rw [Bd.returns] at h; cases h)
  refine ⟨_, _, r0 _ ?_, hrun, hended, _, _, rfl, ?_, ⟨_, rfl⟩, hW, hsame.mono (by decide) (by decide)⟩
  · show Steps p.tables e below (s₁.setTop (mkF m 0 #[.val (.ref a)] [])) _
    refine XS.aloadN X0.here hx rfl (hb hby own_d_prog_19_method_16_code_0) rfl rfl ?_
    show Steps p.tables e below (s₁.setTop (mkF m 1 #[.val (.ref a)] [(.ref a)])) _
    refine st1 _ ?_
    show Steps p.tables e below (T1.setTop (mkF m 4 #[.val (.ref a)] [(.ref z)])) _
    exact retOut X1 hx (t := (.object "java/util/List")) Bd.returns rfl (Or.inr (Or.inr (Or.inr (Or.inr ⟨rfl, rfl, rfl⟩)))) (hb hby own_d_prog_19_method_16_code_4) hr
  · show Q_own_g_lines Z a z h0 n0 _ T1.heap _
    rw [e1]
    exact ⟨rfl, N0, rfl⟩
theorem own_pn_own_g_payments : plainName "com/example/myna/myna/orders/Order" = true := by first | (simp [plainName, overriddenIn]; done) | decide +kernel
theorem own_ef_own_g_payments (m : MethodId) (a : Addr) : entryFrame m #[(.ref a)] 1 = mkF m 0 #[.val (.ref a)] [] := by first | (simp [entryFrame, mkF, argsToLocals, own_cI, own_cJ, own_cR, own_cN]; done) | rfl
abbrev own_F_own_g_payments (m : MethodId) (a : Addr) : JFrame := entryFrame m #[(.ref a)] 1
def Q_own_g_payments (Z : State) (a : Addr) (z : Addr) (h0 : Heap) (n0 : Nat) (v : Option Value) (h : Heap) (L : List Loc) : Prop := v = some (.ref z) ∧ Fr n0 L ∧ h = h0
set_option maxRecDepth 65536 in
set_option maxHeartbeats 40000000 in
theorem own_g_payments (l : Launch) (Z : State) (a0 : Array Value) (hw : ∀ d ∈ tables_1, d.before a0 Z = true) (ws : List Jvm.Cond) (a : Addr) (z : Addr) (h0 : Heap) (n0 : Nat) (O0 : Old Z n0 h0) (hp0 : Fld Z h0 a "com/example/myna/myna/orders/Order" "payments" "Ljava/util/List;" (.ref z)) :
    MetFree l (⟨"com/example/myna/myna/orders/Order", "payments", "()Ljava/util/List;"⟩ : MethodName) (head1 (Jvm.Cond.code (⟨"com/example/myna/myna/orders/Order", "payments", "()Ljava/util/List;"⟩ : MethodName) prog_19_method_17_code 1 (some (.object "java/util/List")) :: ws) ({ frames := 0, cells := 0, slots := 0, locals := 0 } : Room)) (fun aa_ U_ => aa_ = #[(.ref a)] ∧ Z.Warmed39 U_.vm ∧ U_.heap = h0) (fun _ _ _ _ _ => True) (fun _ U_ o_ V_ => ∃ v_ L_, o_ = .returned v_ ∧ Q_own_g_payments Z a z h0 n0 v_ V_.heap L_ ∧ FrameEnd U_ o_ V_ L_ ({ frames := 0, cells := 0, slots := 0, locals := 0 } : Room).cells ({ frames := 0, cells := 0, slots := 0, locals := 0 } : Room).slots) := by
  refine MetFree.of_bodySF (plainFor_of_name own_pn_own_g_payments) hisR ?_
  intro p e s m args below meth c s₁ Bd hml0 hP hK
  obtain ⟨rfl, hZ, hh⟩ := hP
  have hx := Bd.exec
  have hby := Bd.bytes
  have hml : c.maxLocals = 1 := hml0
  have hown : s.vm.findClass "com/example/myna/myna/orders/Order" = some m.cls := findClass_of_methodNamed Bd.named
  have hnm := (name_of_methodNamed Bd.named Bd.method).1
  have X0 : Stand p l e ({ frames := 0, cells := 0, slots := 0, locals := 0 } : Room) s m #[(.ref a)] below meth c s₁ [] 0 0 := Stand.of_body Bd
  have e0 : s₁.heap = h0 := by rw [← hh, Bd.state]; rfl
  have N0 := Fr.nil n0
  have K0 : Keep h0 h0 [] := Keep.refl _ _
  have r0 : GoTo p.tables e below s₁ (own_F_own_g_payments m a) s₁ (mkF m 0 #[.val (.ref a)] []) := fun tt_ kk_ => castTop (own_ef_own_g_payments m a) kk_
  obtain ⟨T1, X1, e1, st1⟩ := getF X0 hx hZ hown (host := "") (Or.inl (hw _ (List.mem_of_getElem? (i := 221) rfl))) Via.refl e0 hp0 (g := (mkF m 1 #[.val (.ref a)] [(.ref a)])) rfl rfl (hb hby own_d_prog_19_method_17_code_1)
  obtain ⟨fs, hr, hrun, hended, hW, hsame⟩ := X1.leave (v := some (.ref z)) (fun h => by rw [Bd.returns] at h; cases h)
  refine ⟨_, _, r0 _ ?_, hrun, hended, _, _, rfl, ?_, ⟨_, rfl⟩, hW, hsame.mono (by decide) (by decide)⟩
  · show Steps p.tables e below (s₁.setTop (mkF m 0 #[.val (.ref a)] [])) _
    refine XS.aloadN X0.here hx rfl (hb hby own_d_prog_19_method_17_code_0) rfl rfl ?_
    show Steps p.tables e below (s₁.setTop (mkF m 1 #[.val (.ref a)] [(.ref a)])) _
    refine st1 _ ?_
    show Steps p.tables e below (T1.setTop (mkF m 4 #[.val (.ref a)] [(.ref z)])) _
    exact retOut X1 hx (t := (.object "java/util/List")) Bd.returns rfl (Or.inr (Or.inr (Or.inr (Or.inr ⟨rfl, rfl, rfl⟩)))) (hb hby own_d_prog_19_method_17_code_4) hr
  · show Q_own_g_payments Z a z h0 n0 _ T1.heap _
    rw [e1]
    exact ⟨rfl, N0, rfl⟩
theorem own_pn_own_eqself : plainName "java/lang/String" = true := by first | (simp [plainName, overriddenIn]; done) | decide +kernel
theorem own_ef_own_eqself (m : MethodId) (a : Addr) : entryFrame m #[(.ref a), (.ref a)] 3 = mkF m 0 #[.val (.ref a), .val (.ref a), .unset] [] := by first | (simp [entryFrame, mkF, argsToLocals, own_cI, own_cJ, own_cR, own_cN]; done) | rfl
abbrev own_F_own_eqself (m : MethodId) (a : Addr) : JFrame := entryFrame m #[(.ref a), (.ref a)] 3
def Q_own_eqself (Z : State) (a : Addr) (h0 : Heap) (n0 : Nat) (v : Option Value) (h : Heap) (L : List Loc) : Prop := v = some (.int (1 : Int32)) ∧ Fr n0 L ∧ h = h0
set_option maxRecDepth 65536 in
set_option maxHeartbeats 40000000 in
theorem own_eqself (l : Launch) (Z : State) (a0 : Array Value) (hw : ∀ d ∈ tables_1, d.before a0 Z = true) (ws : List Jvm.Cond) (a : Addr) (h0 : Heap) (n0 : Nat) (O0 : Old Z n0 h0) :
    MetFree l (⟨"java/lang/String", "equals", "(Ljava/lang/Object;)Z"⟩ : MethodName) (head1 (Jvm.Cond.code (⟨"java/lang/String", "equals", "(Ljava/lang/Object;)Z"⟩ : MethodName) jdk_42_method_66_code 3 (some .boolean) :: ws) ({ frames := 0, cells := 0, slots := 0, locals := 0 } : Room)) (fun aa_ U_ => aa_ = #[(.ref a), (.ref a)] ∧ Z.Warmed39 U_.vm ∧ U_.heap = h0) (fun _ _ _ _ _ => True) (fun _ U_ o_ V_ => ∃ v_ L_, o_ = .returned v_ ∧ Q_own_eqself Z a h0 n0 v_ V_.heap L_ ∧ FrameEnd U_ o_ V_ L_ ({ frames := 0, cells := 0, slots := 0, locals := 0 } : Room).cells ({ frames := 0, cells := 0, slots := 0, locals := 0 } : Room).slots) := by
  refine MetFree.of_bodySF (plainFor_of_name own_pn_own_eqself) hisR ?_
  intro p e s m args below meth c s₁ Bd hml0 hP hK
  obtain ⟨rfl, hZ, hh⟩ := hP
  have hx := Bd.exec
  have hby := Bd.bytes
  have hml : c.maxLocals = 3 := hml0
  have hown : s.vm.findClass "java/lang/String" = some m.cls := findClass_of_methodNamed Bd.named
  have hnm := (name_of_methodNamed Bd.named Bd.method).1
  have X0 : Stand p l e ({ frames := 0, cells := 0, slots := 0, locals := 0 } : Room) s m #[(.ref a), (.ref a)] below meth c s₁ [] 0 0 := Stand.of_body Bd
  have e0 : s₁.heap = h0 := by rw [← hh, Bd.state]; rfl
  have N0 := Fr.nil n0
  have K0 : Keep h0 h0 [] := Keep.refl _ _
  have r0 : GoTo p.tables e below s₁ (own_F_own_eqself m a) s₁ (mkF m 0 #[.val (.ref a), .val (.ref a), .unset] []) := fun tt_ kk_ => castTop (own_ef_own_eqself m a) kk_
  obtain ⟨fs, hr, hrun, hended, hW, hsame⟩ := X0.leave (v := some (.int (nar .boolean (1 : Int32)))) (fun h => by rw [Bd.returns] at h; cases h)
  refine ⟨_, _, r0 _ ?_, hrun, hended, _, _, rfl, ?_, ⟨_, rfl⟩, hW, hsame.mono (by decide) (by decide)⟩
  · show Steps p.tables e below (s₁.setTop (mkF m 0 #[.val (.ref a), .val (.ref a), .unset] [])) _
    refine XS.aloadN X0.here hx rfl (hb hby own_d_jdk_42_method_66_code_0) rfl rfl ?_
    show Steps p.tables e below (s₁.setTop (mkF m 1 #[.val (.ref a), .val (.ref a), .unset] [(.ref a)])) _
    refine XS.aloadN X0.here hx rfl (hb hby own_d_jdk_42_method_66_code_1) rfl rfl ?_
    show Steps p.tables e below (s₁.setTop (mkF m 2 #[.val (.ref a), .val (.ref a), .unset] [(.ref a), (.ref a)])) _
    refine Jvm.RoadKit.acmp (g := (mkF m 2 #[.val (.ref a), .val (.ref a), .unset] [(.ref a), (.ref a)])) X0 hx rfl rfl rfl (pc0 := 2) (pc' := 5) (same := true) rfl (hb hby own_d_jdk_42_method_66_code_2) rfl (decide_eq_true (congrArg Value.ref rfl)) (by decide) (by decide) ?_
    show Steps p.tables e below (s₁.setTop (mkF m 5 #[.val (.ref a), .val (.ref a), .unset] [])) _
    refine XS.iconst X0.here hx rfl (hb hby own_d_jdk_42_method_66_code_5) ?_
    show Steps p.tables e below (s₁.setTop (mkF m 6 #[.val (.ref a), .val (.ref a), .unset] [(.int (1 : Int32))])) _
    exact retN X0 hx (t := .boolean) Bd.returns (by simp) (hb hby own_d_jdk_42_method_66_code_6) hr
  · show Q_own_eqself Z a h0 n0 _ s₁.heap _
    rw [e0]
    exact ⟨rfl, N0, rfl⟩
theorem own_pn_own_same : plainName "com/example/myna/myna/orders/OrderWithExternalStatePinLaw" = true := by first | (simp [plainName, overriddenIn]; done) | decide +kernel
theorem own_ef_own_same (m : MethodId) (sv : Value) (hcv0 : sv.category = 1) (hcv1 : sv.category = 1) : entryFrame m #[sv, sv] 2 = mkF m 0 #[.val sv, .val sv] [] := by first | (simp [entryFrame, mkF, argsToLocals, own_cI, own_cJ, own_cR, own_cN, hcv0, hcv1]; done) | rfl
abbrev own_F_own_same (m : MethodId) (sv : Value) : JFrame := entryFrame m #[sv, sv] 2
def Q_own_same (Z : State) (sv : Value) (h0 : Heap) (n0 : Nat) (v : Option Value) (h : Heap) (L : List Loc) : Prop := v = some (.int (1 : Int32)) ∧ Fr n0 L ∧ h = h0
set_option maxRecDepth 65536 in
set_option maxHeartbeats 40000000 in
theorem own_same (l : Launch) (Z : State) (a0 : Array Value) (hw : ∀ d ∈ tables_1, d.before a0 Z = true) (ws : List Jvm.Cond) (sv : Value) (h0 : Heap) (n0 : Nat) (O0 : Old Z n0 h0) (hsv : sv.isRef = true) (hp1 : own_NS Z h0 sv) :
    MetFree l (⟨"com/example/myna/myna/orders/OrderWithExternalStatePinLaw", "same", "(Ljava/lang/String;Ljava/lang/String;)Z"⟩ : MethodName) (head1 (Jvm.Cond.code (⟨"com/example/myna/myna/orders/OrderWithExternalStatePinLaw", "same", "(Ljava/lang/String;Ljava/lang/String;)Z"⟩ : MethodName) method_3_code 2 (some .boolean) :: ws) ({ frames := 1, cells := 0, slots := 0, locals := 14 } : Room)) (fun aa_ U_ => aa_ = #[sv, sv] ∧ Z.Warmed39 U_.vm ∧ U_.heap = h0) (fun _ _ _ _ _ => True) (fun _ U_ o_ V_ => ∃ v_ L_, o_ = .returned v_ ∧ Q_own_same Z sv h0 n0 v_ V_.heap L_ ∧ FrameEnd U_ o_ V_ L_ ({ frames := 1, cells := 0, slots := 0, locals := 14 } : Room).cells ({ frames := 1, cells := 0, slots := 0, locals := 14 } : Room).slots) := by
  refine MetFree.of_bodySF (plainFor_of_name own_pn_own_same) hisR ?_
  intro p e s m args below meth c s₁ Bd hml0 hP hK
  obtain ⟨rfl, hZ, hh⟩ := hP
  have hx := Bd.exec
  have hby := Bd.bytes
  have hml : c.maxLocals = 2 := hml0
  have hown : s.vm.findClass "com/example/myna/myna/orders/OrderWithExternalStatePinLaw" = some m.cls := findClass_of_methodNamed Bd.named
  have hnm := (name_of_methodNamed Bd.named Bd.method).1
  have X0 : Stand p l e ({ frames := 1, cells := 0, slots := 0, locals := 14 } : Room) s m #[sv, sv] below meth c s₁ [] 0 0 := Stand.of_body Bd
  have e0 : s₁.heap = h0 := by rw [← hh, Bd.state]; rfl
  have N0 := Fr.nil n0
  have K0 : Keep h0 h0 [] := Keep.refl _ _
  have r0 : GoTo p.tables e below s₁ (own_F_own_same m sv) s₁ (mkF m 0 #[.val sv, .val sv] []) := fun tt_ kk_ => castTop (own_ef_own_same m sv (own_cat hsv) (own_cat hsv)) kk_
  rcases hp1 with en1 | ⟨an1, en1, E1⟩
  · have r2 : GoTo p.tables e below s₁ (own_F_own_same m sv) s₁ (mkF m 0 #[.val .null, .val .null] []) := by rw [← en1]; exact r0
    obtain ⟨fs, hr, hrun, hended, hW, hsame⟩ := X0.leave (v := some (.int (nar .boolean (1 : Int32)))) (fun h => by rw [Bd.returns] at h; cases h)
    refine ⟨_, _, r2 _ ?_, hrun, hended, _, _, rfl, ?_, ⟨_, rfl⟩, hW, hsame.mono (by decide) (by decide)⟩
    · show Steps p.tables e below (s₁.setTop (mkF m 0 #[.val .null, .val .null] [])) _
      refine XS.aloadN X0.here hx rfl (hb hby own_d_method_3_code_0) rfl rfl ?_
      show Steps p.tables e below (s₁.setTop (mkF m 1 #[.val .null, .val .null] [.null])) _
      refine XS.ifnonnullNo X0.here hx rfl (hb hby own_d_method_3_code_1) rfl ?_
      show Steps p.tables e below (s₁.setTop (mkF m 4 #[.val .null, .val .null] [])) _
      refine XS.aloadN X0.here hx rfl (hb hby own_d_method_3_code_4) rfl rfl ?_
      show Steps p.tables e below (s₁.setTop (mkF m 5 #[.val .null, .val .null] [.null])) _
      refine XS.ifnonnullNo X0.here hx rfl (hb hby own_d_method_3_code_5) rfl ?_
      show Steps p.tables e below (s₁.setTop (mkF m 8 #[.val .null, .val .null] [])) _
      refine XS.iconst X0.here hx rfl (hb hby own_d_method_3_code_8) ?_
      show Steps p.tables e below (s₁.setTop (mkF m 9 #[.val .null, .val .null] [(.int (1 : Int32))])) _
      refine XS.goto X0.here hx rfl (pc0 := 9) (pc' := 13) rfl (hb hby own_d_method_3_code_9) (by decide) (by decide) ?_
      show Steps p.tables e below (s₁.setTop (mkF m 13 #[.val .null, .val .null] [(.int (1 : Int32))])) _
      exact retN X0 hx (t := .boolean) Bd.returns (by simp) (hb hby own_d_method_3_code_13) hr
    · show Q_own_same Z sv h0 n0 _ s₁.heap _
      rw [e0]
      exact ⟨rfl, N0, rfl⟩
  · have r3 : GoTo p.tables e below s₁ (own_F_own_same m sv) s₁ (mkF m 0 #[.val (.ref an1), .val (.ref an1)] []) := by rw [← en1]; exact r0
    obtain ⟨cq4, kq4, qa4, qb4, qc4⟩ := isOf hZ e0 E1
    obtain ⟨_, _, ⟨T4, L4, k4, n4⟩, -, X4, ⟨Lc4, hQ4, l4, y4, z4⟩, st4⟩ := X0.virtualBack hx (y := (⟨"java/lang/String", "equals", "(Ljava/lang/Object;)Z"⟩ : MethodName)) (z := (⟨"java/lang/String", "equals", "(Ljava/lang/Object;)Z"⟩ : MethodName)) hown (mvT hZ (hw _ (List.mem_of_getElem? (i := 257) rfl))) (mvT hZ (hw _ (List.mem_of_getElem? (i := 258) rfl))) (notFace_of_selects (args := #[]) (mvT hZ (hw _ (List.mem_of_getElem? (i := 260) rfl)))) (mvT hZ (hw _ (List.mem_of_getElem? (i := 260) rfl))) (mvT hZ (hw _ (List.mem_of_getElem? (i := 259) rfl))) (by decide) (backOf (W := 0) (own_eqself l Z a0 hw [] (an1) h0 n0 (O0.keep K0 all0)) hZ (hw _ (List.mem_of_getElem? (i := 261) rfl)) (hw _ (List.mem_of_getElem? (i := 7) rfl)) (by decide) (by decide)) qa4 qc4 (g := (mkF m 16 #[.val (.ref an1), .val (.ref an1)] [(.ref an1), (.ref an1)])) rfl (by rw [hml]; rfl) (Steps.refl _) (argsL := [(.ref an1)]) (rest := []) (lenOf own_pd15 rfl) rfl (by show 2 * 0 + _ ≤ _; exact Nat.le_of_eq rfl) (hb hby own_d_method_3_code_16) (fun _ _ => ⟨rfl, e0, (by decide : 0 + 0 ≤ _), (by decide : 0 + 0 ≤ _)⟩)
    dsimp only [Pt.U, Pt.locs, Pt.cells, Pt.slots] at X4 l4 y4 z4 st4 hQ4
    subst l4 y4 z4
    obtain ⟨rfl, Nq4, hh4⟩ := hQ4
    have N4 := Fr.app N0 Nq4
    obtain ⟨fs, hr, hrun, hended, hW, hsame⟩ := X4.leave (v := some (.int (nar .boolean (1 : Int32)))) (fun h => by rw [Bd.returns] at h; cases h)
    refine ⟨_, _, r3 _ ?_, hrun, hended, _, _, rfl, ?_, ⟨_, rfl⟩, hW, hsame.mono (by decide) (by decide)⟩
    · show Steps p.tables e below (s₁.setTop (mkF m 0 #[.val (.ref an1), .val (.ref an1)] [])) _
      refine XS.aloadN X0.here hx rfl (hb hby own_d_method_3_code_0) rfl rfl ?_
      show Steps p.tables e below (s₁.setTop (mkF m 1 #[.val (.ref an1), .val (.ref an1)] [(.ref an1)])) _
      refine XS.ifnonnullYes X0.here hx rfl (pc0 := 1) (pc' := 14) rfl (hb hby own_d_method_3_code_1) rfl (by decide) (by decide) ?_
      show Steps p.tables e below (s₁.setTop (mkF m 14 #[.val (.ref an1), .val (.ref an1)] [])) _
      refine XS.aloadN X0.here hx rfl (hb hby own_d_method_3_code_14) rfl rfl ?_
      show Steps p.tables e below (s₁.setTop (mkF m 15 #[.val (.ref an1), .val (.ref an1)] [(.ref an1)])) _
      refine XS.aloadN X0.here hx rfl (hb hby own_d_method_3_code_15) rfl rfl ?_
      show Steps p.tables e below (s₁.setTop (mkF m 16 #[.val (.ref an1), .val (.ref an1)] [(.ref an1), (.ref an1)])) _
      refine st4.trans ?_
      show Steps p.tables e below (T4.setTop (mkF m 19 #[.val (.ref an1), .val (.ref an1)] [(.int (1 : Int32))])) _
      exact retN X4 hx (t := .boolean) Bd.returns (by simp) (hb hby own_d_method_3_code_19) hr
    · show Q_own_same Z sv h0 n0 _ T4.heap _
      rw [hh4]
      exact ⟨rfl, N4, rfl⟩
theorem own_pn_own_sz12 : plainName "java/util/ImmutableCollections$List12" = true := by first | (simp [plainName, overriddenIn]; done) | decide +kernel
theorem own_ef_own_sz12 (m : MethodId) (a : Addr) : entryFrame m #[(.ref a)] 1 = mkF m 0 #[.val (.ref a)] [] := by first | (simp [entryFrame, mkF, argsToLocals, own_cI, own_cJ, own_cR, own_cN]; done) | rfl
abbrev own_F_own_sz12 (m : MethodId) (a : Addr) : JFrame := entryFrame m #[(.ref a)] 1
def Q_own_sz12 (Z : State) (a : Addr) (em : Addr) (h0 : Heap) (n0 : Nat) (v : Option Value) (h : Heap) (L : List Loc) : Prop := v = some (.int (1 : Int32)) ∧ Fr n0 L ∧ h = h0
set_option maxRecDepth 65536 in
set_option maxHeartbeats 40000000 in
theorem own_sz12 (l : Launch) (Z : State) (a0 : Array Value) (hw : ∀ d ∈ tables_1, d.before a0 Z = true) (ws : List Jvm.Cond) (a : Addr) (em : Addr) (h0 : Heap) (n0 : Nat) (O0 : Old Z n0 h0) (hp0 : Fld Z h0 a "java/util/ImmutableCollections$List12" "e1" "Ljava/lang/Object;" (.ref em)) (hp1 : Sta Z Z.heap "java/util/ImmutableCollections" "EMPTY" "Ljava/lang/Object;" (.ref em)) :
    MetFree l (⟨"java/util/ImmutableCollections$List12", "size", "()I"⟩ : MethodName) (head1 (Jvm.Cond.code (⟨"java/util/ImmutableCollections$List12", "size", "()I"⟩ : MethodName) jdk_44_method_3_code 1 (some .int) :: ws) ({ frames := 0, cells := 0, slots := 0, locals := 0 } : Room)) (fun aa_ U_ => aa_ = #[(.ref a)] ∧ Z.Warmed39 U_.vm ∧ U_.heap = h0) (fun _ _ _ _ _ => True) (fun _ U_ o_ V_ => ∃ v_ L_, o_ = .returned v_ ∧ Q_own_sz12 Z a em h0 n0 v_ V_.heap L_ ∧ FrameEnd U_ o_ V_ L_ ({ frames := 0, cells := 0, slots := 0, locals := 0 } : Room).cells ({ frames := 0, cells := 0, slots := 0, locals := 0 } : Room).slots) := by
  refine MetFree.of_bodySF (plainFor_of_name own_pn_own_sz12) hisR ?_
  intro p e s m args below meth c s₁ Bd hml0 hP hK
  obtain ⟨rfl, hZ, hh⟩ := hP
  have hx := Bd.exec
  have hby := Bd.bytes
  have hml : c.maxLocals = 1 := hml0
  have hown : s.vm.findClass "java/util/ImmutableCollections$List12" = some m.cls := findClass_of_methodNamed Bd.named
  have hnm := (name_of_methodNamed Bd.named Bd.method).1
  have X0 : Stand p l e ({ frames := 0, cells := 0, slots := 0, locals := 0 } : Room) s m #[(.ref a)] below meth c s₁ [] 0 0 := Stand.of_body Bd
  have e0 : s₁.heap = h0 := by rw [← hh, Bd.state]; rfl
  have N0 := Fr.nil n0
  have K0 : Keep h0 h0 [] := Keep.refl _ _
  have r0 : GoTo p.tables e below s₁ (own_F_own_sz12 m a) s₁ (mkF m 0 #[.val (.ref a)] []) := fun tt_ kk_ => castTop (own_ef_own_sz12 m a) kk_
  obtain ⟨T1, X1, e1, st1⟩ := getF X0 hx hZ hown (host := "") (Or.inl (hw _ (List.mem_of_getElem? (i := 201) rfl))) Via.refl e0 hp0 (g := (mkF m 1 #[.val (.ref a)] [(.ref a)])) rfl rfl (hb hby own_d_jdk_44_method_3_code_1)
  obtain ⟨T2, X2, e2, st2⟩ := getS2 X1 hx hZ hown (Or.inr (hw _ (List.mem_of_getElem? (i := 200) rfl))) Via.refl e1 (hp1.ext (O0.keep K0 all0).2) (g := (mkF m 4 #[.val (.ref a)] [(.ref em)])) rfl (hb hby own_d_jdk_44_method_3_code_4)
  obtain ⟨fs, hr, hrun, hended, hW, hsame⟩ := X2.leave (v := some (.int (1 : Int32))) (fun h => by rw [Bd.returns] at h; cases h)
  refine ⟨_, _, r0 _ ?_, hrun, hended, _, _, rfl, ?_, ⟨_, rfl⟩, hW, hsame.mono (by decide) (by decide)⟩
  · show Steps p.tables e below (s₁.setTop (mkF m 0 #[.val (.ref a)] [])) _
    refine XS.aloadN X0.here hx rfl (hb hby own_d_jdk_44_method_3_code_0) rfl rfl ?_
    show Steps p.tables e below (s₁.setTop (mkF m 1 #[.val (.ref a)] [(.ref a)])) _
    refine st1 _ ?_
    show Steps p.tables e below (T1.setTop (mkF m 4 #[.val (.ref a)] [(.ref em)])) _
    refine st2 _ ?_
    show Steps p.tables e below (T2.setTop (mkF m 7 #[.val (.ref a)] [(.ref em), (.ref em)])) _
    refine Jvm.RoadKit.acmp (g := (mkF m 7 #[.val (.ref a)] [(.ref em), (.ref em)])) X2 hx rfl rfl rfl (pc0 := 7) (pc' := 14) (same := true) rfl (hb hby own_d_jdk_44_method_3_code_7) rfl (decide_eq_true (congrArg Value.ref rfl)) (by decide) (by decide) ?_
    show Steps p.tables e below (T2.setTop (mkF m 14 #[.val (.ref a)] [])) _
    refine XS.iconst X2.here hx rfl (hb hby own_d_jdk_44_method_3_code_14) ?_
    show Steps p.tables e below (T2.setTop (mkF m 15 #[.val (.ref a)] [(.int (1 : Int32))])) _
    exact retI X2 hx Bd.returns (hb hby own_d_jdk_44_method_3_code_15) hr
  · show Q_own_sz12 Z a em h0 n0 _ T2.heap _
    rw [e2]
    exact ⟨rfl, N0, rfl⟩
theorem own_pn_own_get12 : plainName "java/util/ImmutableCollections$List12" = true := by first | (simp [plainName, overriddenIn]; done) | decide +kernel
theorem own_ef_own_get12 (m : MethodId) (a : Addr) : entryFrame m #[(.ref a), (.int (0 : Int32))] 2 = mkF m 0 #[.val (.ref a), .val (.int (0 : Int32))] [] := by first | (simp [entryFrame, mkF, argsToLocals, own_cI, own_cJ, own_cR, own_cN]; done) | rfl
abbrev own_F_own_get12 (m : MethodId) (a : Addr) : JFrame := entryFrame m #[(.ref a), (.int (0 : Int32))] 2
def Q_own_get12 (Z : State) (a : Addr) (x : Addr) (h0 : Heap) (n0 : Nat) (v : Option Value) (h : Heap) (L : List Loc) : Prop := v = some (.ref x) ∧ Fr n0 L ∧ h = h0
set_option maxRecDepth 65536 in
set_option maxHeartbeats 40000000 in
theorem own_get12 (l : Launch) (Z : State) (a0 : Array Value) (hw : ∀ d ∈ tables_1, d.before a0 Z = true) (ws : List Jvm.Cond) (a : Addr) (x : Addr) (h0 : Heap) (n0 : Nat) (O0 : Old Z n0 h0) (hp0 : Fld Z h0 a "java/util/ImmutableCollections$List12" "e0" "Ljava/lang/Object;" (.ref x)) :
    MetFree l (⟨"java/util/ImmutableCollections$List12", "get", "(I)Ljava/lang/Object;"⟩ : MethodName) (head1 (Jvm.Cond.code (⟨"java/util/ImmutableCollections$List12", "get", "(I)Ljava/lang/Object;"⟩ : MethodName) jdk_44_method_5_code 2 (some (.object "java/lang/Object")) :: ws) ({ frames := 0, cells := 0, slots := 0, locals := 0 } : Room)) (fun aa_ U_ => aa_ = #[(.ref a), (.int (0 : Int32))] ∧ Z.Warmed39 U_.vm ∧ U_.heap = h0) (fun _ _ _ _ _ => True) (fun _ U_ o_ V_ => ∃ v_ L_, o_ = .returned v_ ∧ Q_own_get12 Z a x h0 n0 v_ V_.heap L_ ∧ FrameEnd U_ o_ V_ L_ ({ frames := 0, cells := 0, slots := 0, locals := 0 } : Room).cells ({ frames := 0, cells := 0, slots := 0, locals := 0 } : Room).slots) := by
  refine MetFree.of_bodySF (plainFor_of_name own_pn_own_get12) hisR ?_
  intro p e s m args below meth c s₁ Bd hml0 hP hK
  obtain ⟨rfl, hZ, hh⟩ := hP
  have hx := Bd.exec
  have hby := Bd.bytes
  have hml : c.maxLocals = 2 := hml0
  have hown : s.vm.findClass "java/util/ImmutableCollections$List12" = some m.cls := findClass_of_methodNamed Bd.named
  have hnm := (name_of_methodNamed Bd.named Bd.method).1
  have X0 : Stand p l e ({ frames := 0, cells := 0, slots := 0, locals := 0 } : Room) s m #[(.ref a), (.int (0 : Int32))] below meth c s₁ [] 0 0 := Stand.of_body Bd
  have e0 : s₁.heap = h0 := by rw [← hh, Bd.state]; rfl
  have N0 := Fr.nil n0
  have K0 : Keep h0 h0 [] := Keep.refl _ _
  have r0 : GoTo p.tables e below s₁ (own_F_own_get12 m a) s₁ (mkF m 0 #[.val (.ref a), .val (.int (0 : Int32))] []) := fun tt_ kk_ => castTop (own_ef_own_get12 m a) kk_
  obtain ⟨T1, X1, e1, st1⟩ := getF X0 hx hZ hown (host := "") (Or.inl (hw _ (List.mem_of_getElem? (i := 198) rfl))) Via.refl e0 hp0 (g := (mkF m 5 #[.val (.ref a), .val (.int (0 : Int32))] [(.ref a)])) rfl rfl (hb hby own_d_jdk_44_method_5_code_5)
  obtain ⟨fs, hr, hrun, hended, hW, hsame⟩ := X1.leave (v := some (.ref x)) (fun h => by rw [Bd.returns] at h; cases h)
  refine ⟨_, _, r0 _ ?_, hrun, hended, _, _, rfl, ?_, ⟨_, rfl⟩, hW, hsame.mono (by decide) (by decide)⟩
  · show Steps p.tables e below (s₁.setTop (mkF m 0 #[.val (.ref a), .val (.int (0 : Int32))] [])) _
    refine XS.iloadN X0.here hx rfl (hb hby own_d_jdk_44_method_5_code_0) rfl ?_
    show Steps p.tables e below (s₁.setTop (mkF m 1 #[.val (.ref a), .val (.int (0 : Int32))] [(.int (0 : Int32))])) _
    refine XS.ifNo X0.here hx rfl (hb hby own_d_jdk_44_method_5_code_1) rfl ((if0 _ _).trans (teq rfl).2) ?_
    show Steps p.tables e below (s₁.setTop (mkF m 4 #[.val (.ref a), .val (.int (0 : Int32))] [])) _
    refine XS.aloadN X0.here hx rfl (hb hby own_d_jdk_44_method_5_code_4) rfl rfl ?_
    show Steps p.tables e below (s₁.setTop (mkF m 5 #[.val (.ref a), .val (.int (0 : Int32))] [(.ref a)])) _
    refine st1 _ ?_
    show Steps p.tables e below (T1.setTop (mkF m 8 #[.val (.ref a), .val (.int (0 : Int32))] [(.ref x)])) _
    exact retOut X1 hx (t := (.object "java/lang/Object")) Bd.returns rfl (Or.inr (Or.inr (Or.inr (Or.inr ⟨rfl, rfl, rfl⟩)))) (hb hby own_d_jdk_44_method_5_code_8) hr
  · show Q_own_get12 Z a x h0 n0 _ T1.heap _
    rw [e1]
    exact ⟨rfl, N0, rfl⟩
theorem own_pn_own_szN : plainName "java/util/ImmutableCollections$ListN" = true := by first | (simp [plainName, overriddenIn]; done) | decide +kernel
theorem own_ef_own_szN (m : MethodId) (a : Addr) : entryFrame m #[(.ref a)] 1 = mkF m 0 #[.val (.ref a)] [] := by first | (simp [entryFrame, mkF, argsToLocals, own_cI, own_cJ, own_cR, own_cN]; done) | rfl
abbrev own_F_own_szN (m : MethodId) (a : Addr) : JFrame := entryFrame m #[(.ref a)] 1
def Q_own_szN (Z : State) (a : Addr) (ea : Addr) (ke : ClassId) (h0 : Heap) (n0 : Nat) (v : Option Value) (h : Heap) (L : List Loc) : Prop := v = some (.int (0 : Int32)) ∧ Fr n0 L ∧ h = h0
set_option maxRecDepth 65536 in
set_option maxHeartbeats 40000000 in
theorem own_szN (l : Launch) (Z : State) (a0 : Array Value) (hw : ∀ d ∈ tables_1, d.before a0 Z = true) (ws : List Jvm.Cond) (a : Addr) (ea : Addr) (ke : ClassId) (h0 : Heap) (n0 : Nat) (O0 : Old Z n0 h0) (hp0 : Fld Z Z.heap a "java/util/ImmutableCollections$ListN" "elements" "[Ljava/lang/Object;" (.ref ea)) (hp1 : Arv Z Z.heap ea ke (.object "java/lang/Object") (0 : Int32) [] .null) :
    MetFree l (⟨"java/util/ImmutableCollections$ListN", "size", "()I"⟩ : MethodName) (head1 (Jvm.Cond.code (⟨"java/util/ImmutableCollections$ListN", "size", "()I"⟩ : MethodName) jdk_45_method_3_code 1 (some .int) :: ws) ({ frames := 0, cells := 0, slots := 0, locals := 0 } : Room)) (fun aa_ U_ => aa_ = #[(.ref a)] ∧ Z.Warmed39 U_.vm ∧ U_.heap = h0) (fun _ _ _ _ _ => True) (fun _ U_ o_ V_ => ∃ v_ L_, o_ = .returned v_ ∧ Q_own_szN Z a ea ke h0 n0 v_ V_.heap L_ ∧ FrameEnd U_ o_ V_ L_ ({ frames := 0, cells := 0, slots := 0, locals := 0 } : Room).cells ({ frames := 0, cells := 0, slots := 0, locals := 0 } : Room).slots) := by
  refine MetFree.of_bodySF (plainFor_of_name own_pn_own_szN) hisR ?_
  intro p e s m args below meth c s₁ Bd hml0 hP hK
  obtain ⟨rfl, hZ, hh⟩ := hP
  have hx := Bd.exec
  have hby := Bd.bytes
  have hml : c.maxLocals = 1 := hml0
  have hown : s.vm.findClass "java/util/ImmutableCollections$ListN" = some m.cls := findClass_of_methodNamed Bd.named
  have hnm := (name_of_methodNamed Bd.named Bd.method).1
  have X0 : Stand p l e ({ frames := 0, cells := 0, slots := 0, locals := 0 } : Room) s m #[(.ref a)] below meth c s₁ [] 0 0 := Stand.of_body Bd
  have e0 : s₁.heap = h0 := by rw [← hh, Bd.state]; rfl
  have N0 := Fr.nil n0
  have K0 : Keep h0 h0 [] := Keep.refl _ _
  have r0 : GoTo p.tables e below s₁ (own_F_own_szN m a) s₁ (mkF m 0 #[.val (.ref a)] []) := fun tt_ kk_ => castTop (own_ef_own_szN m a) kk_
  obtain ⟨T1, X1, e1, st1⟩ := getF X0 hx hZ hown (host := "") (Or.inl (hw _ (List.mem_of_getElem? (i := 309) rfl))) Via.refl e0 (hp0.ext (O0.keep K0 all0).2) (g := (mkF m 1 #[.val (.ref a)] [(.ref a)])) rfl rfl (hb hby own_d_jdk_45_method_3_code_1)
  obtain ⟨cl2, Ar2, q2, S2, NN2, H2, G2⟩ := id (hp1.ext (O0.keep K0 all0).2)
  obtain ⟨fs, hr, hrun, hended, hW, hsame⟩ := X1.leave (v := some (.int (0 : Int32))) (fun h => by rw [Bd.returns] at h; cases h)
  refine ⟨_, _, r0 _ ?_, hrun, hended, _, _, rfl, ?_, ⟨_, rfl⟩, hW, hsame.mono (by decide) (by decide)⟩
  · show Steps p.tables e below (s₁.setTop (mkF m 0 #[.val (.ref a)] [])) _
    refine XS.aloadN X0.here hx rfl (hb hby own_d_jdk_45_method_3_code_0) rfl rfl ?_
    show Steps p.tables e below (s₁.setTop (mkF m 1 #[.val (.ref a)] [(.ref a)])) _
    refine st1 _ ?_
    show Steps p.tables e below (T1.setTop (mkF m 4 #[.val (.ref a)] [(.ref ea)])) _
    refine X1.arraylength hx (by rw [e1]; exact Ar2.1) (State.isArrayOf_alike hZ.alike Ar2.2.1) (g := (mkF m 4 #[.val (.ref a)] [(.ref ea)])) rfl rfl (hb hby own_d_jdk_45_method_3_code_4) _ ?_
    rw [len_of S2 NN2]
    show Steps p.tables e below (T1.setTop (mkF m 5 #[.val (.ref a)] [(.int (0 : Int32))])) _
    exact retI X1 hx Bd.returns (hb hby own_d_jdk_45_method_3_code_5) hr
  · show Q_own_szN Z a ea ke h0 n0 _ T1.heap _
    rw [e1]
    exact ⟨rfl, N0, rfl⟩
theorem own_pn_own_law : plainName "com/example/myna/myna/orders/OrderWithExternalStatePinLaw" = true := by first | (simp [plainName, overriddenIn]; done) | decide +kernel
theorem own_ef_own_law (m : MethodId) (q0 : Int64) (j1 : Int32) (j2 : Int32) (j3 : Int32) (j4 : Int32) (j5 : Int32) : entryFrame m #[(.long q0), (.int j1), (.int j2), (.int j3), (.int j4), (.int j5)] maxLocals = mkF m 0 #[.val (.long q0), .second, .val (.int j1), .val (.int j2), .val (.int j3), .val (.int j4), .val (.int j5), .unset, .unset, .unset, .unset, .unset, .unset, .unset, .unset, .unset, .unset, .unset, .unset] [] := by first | (simp [entryFrame, mkF, argsToLocals, own_cI, own_cJ, own_cR, own_cN, maxLocals]; done) | rfl
abbrev own_F_own_law (m : MethodId) (q0 : Int64) (j1 : Int32) (j2 : Int32) (j3 : Int32) (j4 : Int32) (j5 : Int32) : JFrame := entryFrame m #[(.long q0), (.int j1), (.int j2), (.int j3), (.int j4), (.int j5)] maxLocals
def Q_own_law (Z : State) (q0 : Int64) (j1 : Int32) (j2 : Int32) (j3 : Int32) (j4 : Int32) (j5 : Int32) (u0 : Addr) (u1 : Addr) (u2 : Addr) (G1 : Int32) (mr : Addr) (dd : Addr) (kd : ClassId) (em : Addr) (el : Addr) (ea : Addr) (ke : ClassId) (h0 : Heap) (n0 : Nat) (v : Option Value) (h : Heap) (L : List Loc) : Prop := v = some (.int (1 : Int32)) ∧ Fr n0 L
set_option maxRecDepth 65536 in
set_option maxHeartbeats 40000000 in
theorem own_law (l : Launch) (Z : State) (a0 : Array Value) (hw : ∀ d ∈ tables_1, d.before a0 Z = true) (ws : List Jvm.Cond) (q0 : Int64) (j1 : Int32) (j2 : Int32) (j3 : Int32) (j4 : Int32) (j5 : Int32) (u0 : Addr) (u1 : Addr) (u2 : Addr) (G1 : Int32) (mr : Addr) (dd : Addr) (kd : ClassId) (em : Addr) (el : Addr) (ea : Addr) (ke : ClassId) (h0 : Heap) (n0 : Nat) (O0 : Old Z n0 h0) (hp0 : Sta Z Z.heap "com/example/myna/myna/orders/Order$State" "RESERVED" "Lcom/example/myna/myna/orders/Order$State;" (.ref u0)) (hp1 : Sta Z Z.heap "com/example/myna/myna/orders/Order$State" "SOLD" "Lcom/example/myna/myna/orders/Order$State;" (.ref u1)) (hp2 : Sta Z Z.heap "com/example/myna/myna/orders/Order$State" "CANCELLED" "Lcom/example/myna/myna/orders/Order$State;" (.ref u2)) (hp3 : Sta Z Z.heap "java/lang/String" "COMPACT_STRINGS" "Z" (.int G1)) (hG1 : ¬ G1 = (0 : Int32)) (hMir : own_Mir Z "[Ljava/lang/Object;" mr) (hp6 : Sta Z Z.heap "java/util/ArrayList" "DEFAULTCAPACITY_EMPTY_ELEMENTDATA" "[Ljava/lang/Object;" (.ref dd)) (hp7 : Arv Z Z.heap dd kd (.object "java/lang/Object") (0 : Int32) [] .null) (hp8 : Sta Z Z.heap "java/util/ImmutableCollections" "EMPTY" "Ljava/lang/Object;" (.ref em)) (hp9 : Sta Z Z.heap "java/util/ImmutableCollections" "EMPTY_LIST" "Ljava/util/ImmutableCollections$ListN;" (.ref el)) (hp10 : Exa Z Z.heap el "java/util/ImmutableCollections$ListN") (hp11 : Fld Z Z.heap el "java/util/ImmutableCollections$ListN" "allowNulls" "Z" (.int (0 : Int32))) (hp12 : Fld Z Z.heap el "java/util/ImmutableCollections$ListN" "elements" "[Ljava/lang/Object;" (.ref ea)) (hp13 : Arv Z Z.heap ea ke (.object "java/lang/Object") (0 : Int32) [] .null) :
    MetFree l x (head1 (Jvm.Cond.code x code maxLocals ret :: ws) room_1) (fun aa_ U_ => aa_ = #[(.long q0), (.int j1), (.int j2), (.int j3), (.int j4), (.int j5)] ∧ Z.Warmed39 U_.vm ∧ U_.heap = h0) (fun _ _ _ _ _ => True) (fun _ U_ o_ V_ => ∃ v_ L_, o_ = .returned v_ ∧ Q_own_law Z q0 j1 j2 j3 j4 j5 u0 u1 u2 G1 mr dd kd em el ea ke h0 n0 v_ V_.heap L_ ∧ FrameEnd U_ o_ V_ L_ room_1.cells room_1.slots) := by
  refine MetFree.of_bodySF (plainFor_of_name own_pn_own_law) hisR ?_
  intro p e s m args below meth c s₁ Bd hml0 hP hK
  obtain ⟨rfl, hZ, hh⟩ := hP
  have hx := Bd.exec
  have hby := Bd.bytes
  have hml : c.maxLocals = 19 := hml0
  have hown : s.vm.findClass "com/example/myna/myna/orders/OrderWithExternalStatePinLaw" = some m.cls := findClass_of_methodNamed Bd.named
  have hnm := (name_of_methodNamed Bd.named Bd.method).1
  have X0 : Stand p l e room_1 s m #[(.long q0), (.int j1), (.int j2), (.int j3), (.int j4), (.int j5)] below meth c s₁ [] 0 0 := Stand.of_body Bd
  have e0 : s₁.heap = h0 := by rw [← hh, Bd.state]; rfl
  have N0 := Fr.nil n0
  have K0 : Keep h0 h0 [] := Keep.refl _ _
  have r0 : GoTo p.tables e below s₁ (own_F_own_law m q0 j1 j2 j3 j4 j5) s₁ (mkF m 0 #[.val (.long q0), .second, .val (.int j1), .val (.int j2), .val (.int j3), .val (.int j4), .val (.int j5), .unset, .unset, .unset, .unset, .unset, .unset, .unset, .unset, .unset, .unset, .unset, .unset] []) := fun tt_ kk_ => castTop (own_ef_own_law m q0 j1 j2 j3 j4 j5) kk_
  obtain ⟨_, _, ⟨T1, L1, k1, n1⟩, -, X1, ⟨Lc1, hQ1, l1, y1, z1⟩, st1⟩ := Jvm.LawKit.callS X0 hx (y := (⟨"com/example/myna/myna/orders/OrderWithExternalStatePinLaw", "two", "(I)Ljava/lang/String;"⟩ : MethodName)) hown (mvT hZ (hw _ (List.mem_of_getElem? (i := 0) rfl))) (mvT hZ (hw _ (List.mem_of_getElem? (i := 1) rfl))) (mvT hZ (hw _ (List.mem_of_getElem? (i := 2) rfl))) (mvT hZ (hw _ (List.mem_of_getElem? (i := 3) rfl))) (by decide) (backOf (W := 0) (own_two l Z a0 hw [] (j1) (G1) h0 n0 (O0.keep K0 all0) (hp3) (hG1)) hZ (hw _ (List.mem_of_getElem? (i := 3) rfl)) (hw _ (List.mem_of_getElem? (i := 2) rfl)) (by decide) (by decide)) (g := (mkF m 1 #[.val (.long q0), .second, .val (.int j1), .val (.int j2), .val (.int j3), .val (.int j4), .val (.int j5), .unset, .unset, .unset, .unset, .unset, .unset, .unset, .unset, .unset, .unset, .unset, .unset] [(.int j1)])) rfl (by rw [hml]; rfl) (argsL := [(.int j1)]) (rest := []) (lenOf own_pd16 rfl) rfl (by show 2 * 0 + _ ≤ _; exact Nat.le_of_eq rfl) (hb hby at_1) (fun _ _ => ⟨rfl, e0, (by decide : 0 + 3 ≤ _), (by decide : 0 + 8 ≤ _)⟩)
  dsimp only [Pt.U, Pt.locs, Pt.cells, Pt.slots] at X1 l1 y1 z1 st1 hQ1
  subst l1 y1 z1
  obtain ⟨b_1, rfl, Nq1, Kq1, po1_0, po1_1, po1_2⟩ := hQ1
  have N1 := Fr.app N0 Nq1
  have g2 : n0 ≤ b_1 := Nat.le_trans (Nat.le_trans (own_le O0) K0.1) po1_0
  have b3 : h0.size ≤ b_1 := Nat.le_trans K0.1 po1_0
  have K4 : Keep h0 T1.heap [] := K0.trans Kq1 all0
  obtain ⟨Lg5, X5, N5⟩ : ∃ L' : List Loc, Stand p l e room_1 s m #[(.long q0), (.int j1), (.int j2), (.int j3), (.int j4), (.int j5)] below meth c T1 L' 3 8 ∧ Fr n0 L' := ⟨_, X1, N1⟩
  obtain ⟨_, _, ⟨T6, L6, k6, n6⟩, -, X6, ⟨Lc6, hQ6, l6, y6, z6⟩, st6⟩ := Jvm.LawKit.callS X5 hx (y := (⟨"com/example/myna/myna/orders/OrderWithExternalStatePinLaw", "two", "(I)Ljava/lang/String;"⟩ : MethodName)) hown (mvT hZ (hw _ (List.mem_of_getElem? (i := 0) rfl))) (mvT hZ (hw _ (List.mem_of_getElem? (i := 1) rfl))) (mvT hZ (hw _ (List.mem_of_getElem? (i := 2) rfl))) (mvT hZ (hw _ (List.mem_of_getElem? (i := 3) rfl))) (by decide) (backOf (W := 0) (own_two l Z a0 hw [] (((j1.toUInt32 >>> ((16 : Int32) &&& 31).toUInt32).toInt32)) (G1) T1.heap n0 (O0.keep K4 all0) (hp3) (hG1)) hZ (hw _ (List.mem_of_getElem? (i := 3) rfl)) (hw _ (List.mem_of_getElem? (i := 2) rfl)) (by decide) (by decide)) (g := (mkF m 10 #[.val (.long q0), .second, .val (.int j1), .val (.int j2), .val (.int j3), .val (.int j4), .val (.int j5), .val (.ref b_1), .unset, .unset, .unset, .unset, .unset, .unset, .unset, .unset, .unset, .unset, .unset] [(.int ((j1.toUInt32 >>> ((16 : Int32) &&& 31).toUInt32).toInt32))])) rfl (by rw [hml]; rfl) (argsL := [(.int ((j1.toUInt32 >>> ((16 : Int32) &&& 31).toUInt32).toInt32))]) (rest := []) (lenOf own_pd16 rfl) rfl (by show 2 * 0 + _ ≤ _; exact Nat.le_of_eq rfl) (hb hby at_10) (fun _ _ => ⟨rfl, rfl, (by decide : 3 + 3 ≤ _), (by decide : 8 + 8 ≤ _)⟩)
  dsimp only [Pt.U, Pt.locs, Pt.cells, Pt.slots] at X6 l6 y6 z6 st6 hQ6
  subst l6 y6 z6
  obtain ⟨b_6, rfl, Nq6, Kq6, po6_0, po6_1, po6_2⟩ := hQ6
  have N6 := Fr.app N5 Nq6
  have ne7 : b_1 ≠ b_6 := Nat.ne_of_lt (Nat.lt_of_lt_of_le po1_2.lt po6_0)
  have g8 : n0 ≤ b_6 := Nat.le_trans (Nat.le_trans (own_le O0) K4.1) po6_0
  have b9 : h0.size ≤ b_6 := Nat.le_trans K4.1 po6_0
  have K10 : Keep h0 T6.heap [] := K4.trans Kq6 all0
  have r11 : GoTo p.tables e below s₁ (own_F_own_law m q0 j1 j2 j3 j4 j5) T6 (mkF m 19 #[.val (.long q0), .second, .val (.int j1), .val (.int j2), .val (.int j3), .val (.int j4), .val (.int j5), .val (.ref b_1), .val (.ref b_6), .unset, .unset, .unset, .unset, .unset, .unset, .unset, .unset, .unset, .unset] [(.int (j3 &&& (1 : Int32)))]) := fun tt_ kk_ => r0 tt_ (by
      show Steps p.tables e below (s₁.setTop (mkF m 0 #[.val (.long q0), .second, .val (.int j1), .val (.int j2), .val (.int j3), .val (.int j4), .val (.int j5), .unset, .unset, .unset, .unset, .unset, .unset, .unset, .unset, .unset, .unset, .unset, .unset] [])) _
      refine XS.iloadN X0.here hx rfl (hb hby at_0) rfl ?_
      show Steps p.tables e below (s₁.setTop (mkF m 1 #[.val (.long q0), .second, .val (.int j1), .val (.int j2), .val (.int j3), .val (.int j4), .val (.int j5), .unset, .unset, .unset, .unset, .unset, .unset, .unset, .unset, .unset, .unset, .unset, .unset] [(.int j1)])) _
      refine st1 _ ?_
      show Steps p.tables e below (T1.setTop (mkF m 4 #[.val (.long q0), .second, .val (.int j1), .val (.int j2), .val (.int j3), .val (.int j4), .val (.int j5), .unset, .unset, .unset, .unset, .unset, .unset, .unset, .unset, .unset, .unset, .unset, .unset] [(.ref b_1)])) _
      refine XS.astore X1.here hx rfl (hb hby at_4) rfl rfl (l' := #[.val (.long q0), .second, .val (.int j1), .val (.int j2), .val (.int j3), .val (.int j4), .val (.int j5), .val (.ref b_1), .unset, .unset, .unset, .unset, .unset, .unset, .unset, .unset, .unset, .unset, .unset]) rfl ?_
      show Steps p.tables e below (T1.setTop (mkF m 6 #[.val (.long q0), .second, .val (.int j1), .val (.int j2), .val (.int j3), .val (.int j4), .val (.int j5), .val (.ref b_1), .unset, .unset, .unset, .unset, .unset, .unset, .unset, .unset, .unset, .unset, .unset] [])) _
      refine XS.iloadN X1.here hx rfl (hb hby at_6) rfl ?_
      show Steps p.tables e below (T1.setTop (mkF m 7 #[.val (.long q0), .second, .val (.int j1), .val (.int j2), .val (.int j3), .val (.int j4), .val (.int j5), .val (.ref b_1), .unset, .unset, .unset, .unset, .unset, .unset, .unset, .unset, .unset, .unset, .unset] [(.int j1)])) _
      refine XS.bipush X1.here hx rfl (hb hby at_7) ?_
      show Steps p.tables e below (T1.setTop (mkF m 9 #[.val (.long q0), .second, .val (.int j1), .val (.int j2), .val (.int j3), .val (.int j4), .val (.int j5), .val (.ref b_1), .unset, .unset, .unset, .unset, .unset, .unset, .unset, .unset, .unset, .unset, .unset] [(.int (16 : Int32)), (.int j1)])) _
      refine XS.iushr X1.here hx rfl (hb hby at_9) rfl ?_
      show Steps p.tables e below (T1.setTop (mkF m 10 #[.val (.long q0), .second, .val (.int j1), .val (.int j2), .val (.int j3), .val (.int j4), .val (.int j5), .val (.ref b_1), .unset, .unset, .unset, .unset, .unset, .unset, .unset, .unset, .unset, .unset, .unset] [(.int ((j1.toUInt32 >>> ((16 : Int32) &&& 31).toUInt32).toInt32))])) _
      refine st6 _ ?_
      show Steps p.tables e below (T6.setTop (mkF m 13 #[.val (.long q0), .second, .val (.int j1), .val (.int j2), .val (.int j3), .val (.int j4), .val (.int j5), .val (.ref b_1), .unset, .unset, .unset, .unset, .unset, .unset, .unset, .unset, .unset, .unset, .unset] [(.ref b_6)])) _
      refine XS.astore X6.here hx rfl (hb hby at_13) rfl rfl (l' := #[.val (.long q0), .second, .val (.int j1), .val (.int j2), .val (.int j3), .val (.int j4), .val (.int j5), .val (.ref b_1), .val (.ref b_6), .unset, .unset, .unset, .unset, .unset, .unset, .unset, .unset, .unset, .unset]) rfl ?_
      show Steps p.tables e below (T6.setTop (mkF m 15 #[.val (.long q0), .second, .val (.int j1), .val (.int j2), .val (.int j3), .val (.int j4), .val (.int j5), .val (.ref b_1), .val (.ref b_6), .unset, .unset, .unset, .unset, .unset, .unset, .unset, .unset, .unset, .unset] [])) _
      refine XS.iload X6.here hx rfl (hb hby at_15) rfl ?_
      show Steps p.tables e below (T6.setTop (mkF m 17 #[.val (.long q0), .second, .val (.int j1), .val (.int j2), .val (.int j3), .val (.int j4), .val (.int j5), .val (.ref b_1), .val (.ref b_6), .unset, .unset, .unset, .unset, .unset, .unset, .unset, .unset, .unset, .unset] [(.int j3)])) _
      refine XS.iconst X6.here hx rfl (hb hby at_17) ?_
      show Steps p.tables e below (T6.setTop (mkF m 18 #[.val (.long q0), .second, .val (.int j1), .val (.int j2), .val (.int j3), .val (.int j4), .val (.int j5), .val (.ref b_1), .val (.ref b_6), .unset, .unset, .unset, .unset, .unset, .unset, .unset, .unset, .unset, .unset] [(.int (1 : Int32)), (.int j3)])) _
      refine XS.iand X6.here hx rfl (hb hby at_18) rfl ?_
      show Steps p.tables e below (T6.setTop (mkF m 19 #[.val (.long q0), .second, .val (.int j1), .val (.int j2), .val (.int j3), .val (.int j4), .val (.int j5), .val (.ref b_1), .val (.ref b_6), .unset, .unset, .unset, .unset, .unset, .unset, .unset, .unset, .unset, .unset] [(.int (j3 &&& (1 : Int32)))])) _
      exact kk_)
  obtain ⟨T12, Lj12, X12, N12, e12, r12⟩ : ∃ (T' : State) (L' : List Loc), Stand p l e room_1 s m #[(.long q0), (.int j1), (.int j2), (.int j3), (.int j4), (.int j5)] below meth c T' L' 6 16 ∧ Fr n0 L' ∧ T'.heap = T6.heap ∧ GoTo p.tables e below s₁ (own_F_own_law m q0 j1 j2 j3 j4 j5) T' (mkF m 27 #[.val (.long q0), .second, .val (.int j1), .val (.int j2), .val (.int j3), .val (.int j4), .val (.int j5), .val (.ref b_1), .val (.ref b_6), .unset, .unset, .unset, .unset, .unset, .unset, .unset, .unset, .unset, .unset] [(.int (if (j3 &&& (1 : Int32)) = (0 : Int32) then (0 : Int32) else (1 : Int32)))]) := by
    by_cases hc13 : (j3 &&& (1 : Int32)) = (0 : Int32)
    · have r14 : GoTo p.tables e below s₁ (own_F_own_law m q0 j1 j2 j3 j4 j5) T6 (mkF m 27 #[.val (.long q0), .second, .val (.int j1), .val (.int j2), .val (.int j3), .val (.int j4), .val (.int j5), .val (.ref b_1), .val (.ref b_6), .unset, .unset, .unset, .unset, .unset, .unset, .unset, .unset, .unset, .unset] [(.int (0 : Int32))]) := fun tt_ kk_ => r11 tt_ (by
          show Steps p.tables e below (T6.setTop (mkF m 19 #[.val (.long q0), .second, .val (.int j1), .val (.int j2), .val (.int j3), .val (.int j4), .val (.int j5), .val (.ref b_1), .val (.ref b_6), .unset, .unset, .unset, .unset, .unset, .unset, .unset, .unset, .unset, .unset] [(.int (j3 &&& (1 : Int32)))])) _
          refine XS.ifYes X6.here hx rfl (pc0 := 19) (pc' := 26) rfl (hb hby at_19) rfl ((if0 _ _).trans (teq hc13).1) (by decide) (by decide) ?_
          show Steps p.tables e below (T6.setTop (mkF m 26 #[.val (.long q0), .second, .val (.int j1), .val (.int j2), .val (.int j3), .val (.int j4), .val (.int j5), .val (.ref b_1), .val (.ref b_6), .unset, .unset, .unset, .unset, .unset, .unset, .unset, .unset, .unset, .unset] [])) _
          refine XS.iconst X6.here hx rfl (hb hby at_26) ?_
          show Steps p.tables e below (T6.setTop (mkF m 27 #[.val (.long q0), .second, .val (.int j1), .val (.int j2), .val (.int j3), .val (.int j4), .val (.int j5), .val (.ref b_1), .val (.ref b_6), .unset, .unset, .unset, .unset, .unset, .unset, .unset, .unset, .unset, .unset] [(.int (0 : Int32))])) _
          exact kk_)
      exact ⟨T6, _, X6, N6, rfl, by rw [show (if (j3 &&& (1 : Int32)) = (0 : Int32) then (0 : Int32) else (1 : Int32)) = (0 : Int32) from (if_pos hc13)]; exact r14⟩
    · have r15 : GoTo p.tables e below s₁ (own_F_own_law m q0 j1 j2 j3 j4 j5) T6 (mkF m 27 #[.val (.long q0), .second, .val (.int j1), .val (.int j2), .val (.int j3), .val (.int j4), .val (.int j5), .val (.ref b_1), .val (.ref b_6), .unset, .unset, .unset, .unset, .unset, .unset, .unset, .unset, .unset, .unset] [(.int (1 : Int32))]) := fun tt_ kk_ => r11 tt_ (by
          show Steps p.tables e below (T6.setTop (mkF m 19 #[.val (.long q0), .second, .val (.int j1), .val (.int j2), .val (.int j3), .val (.int j4), .val (.int j5), .val (.ref b_1), .val (.ref b_6), .unset, .unset, .unset, .unset, .unset, .unset, .unset, .unset, .unset, .unset] [(.int (j3 &&& (1 : Int32)))])) _
          refine XS.ifNo X6.here hx rfl (hb hby at_19) rfl ((if0 _ _).trans (feq hc13).1) ?_
          show Steps p.tables e below (T6.setTop (mkF m 22 #[.val (.long q0), .second, .val (.int j1), .val (.int j2), .val (.int j3), .val (.int j4), .val (.int j5), .val (.ref b_1), .val (.ref b_6), .unset, .unset, .unset, .unset, .unset, .unset, .unset, .unset, .unset, .unset] [])) _
          refine XS.iconst X6.here hx rfl (hb hby at_22) ?_
          show Steps p.tables e below (T6.setTop (mkF m 23 #[.val (.long q0), .second, .val (.int j1), .val (.int j2), .val (.int j3), .val (.int j4), .val (.int j5), .val (.ref b_1), .val (.ref b_6), .unset, .unset, .unset, .unset, .unset, .unset, .unset, .unset, .unset, .unset] [(.int (1 : Int32))])) _
          refine XS.goto X6.here hx rfl (pc0 := 23) (pc' := 27) rfl (hb hby at_23) (by decide) (by decide) ?_
          show Steps p.tables e below (T6.setTop (mkF m 27 #[.val (.long q0), .second, .val (.int j1), .val (.int j2), .val (.int j3), .val (.int j4), .val (.int j5), .val (.ref b_1), .val (.ref b_6), .unset, .unset, .unset, .unset, .unset, .unset, .unset, .unset, .unset, .unset] [(.int (1 : Int32))])) _
          exact kk_)
      exact ⟨T6, _, X6, N6, rfl, by rw [show (if (j3 &&& (1 : Int32)) = (0 : Int32) then (0 : Int32) else (1 : Int32)) = (1 : Int32) from (if_neg hc13)]; exact r15⟩
  obtain ⟨aw, h_aw⟩ : ∃ z : Int32, z = (if (j3 &&& (1 : Int32)) = (0 : Int32) then (0 : Int32) else (1 : Int32)) := ⟨_, rfl⟩
  have r16 : GoTo p.tables e below s₁ (own_F_own_law m q0 j1 j2 j3 j4 j5) T12 (mkF m 27 #[.val (.long q0), .second, .val (.int j1), .val (.int j2), .val (.int j3), .val (.int j4), .val (.int j5), .val (.ref b_1), .val (.ref b_6), .unset, .unset, .unset, .unset, .unset, .unset, .unset, .unset, .unset, .unset] [(.int aw)]) := by rw [h_aw]; exact r12
  have hn_aw := own_narb h_aw
  have r17 : GoTo p.tables e below s₁ (own_F_own_law m q0 j1 j2 j3 j4 j5) T12 (mkF m 33 #[.val (.long q0), .second, .val (.int j1), .val (.int j2), .val (.int j3), .val (.int j4), .val (.int j5), .val (.ref b_1), .val (.ref b_6), .val (.int aw), .unset, .unset, .unset, .unset, .unset, .unset, .unset, .unset, .unset] [(.int (j3 &&& (2 : Int32)))]) := fun tt_ kk_ => r16 tt_ (by
      show Steps p.tables e below (T12.setTop (mkF m 27 #[.val (.long q0), .second, .val (.int j1), .val (.int j2), .val (.int j3), .val (.int j4), .val (.int j5), .val (.ref b_1), .val (.ref b_6), .unset, .unset, .unset, .unset, .unset, .unset, .unset, .unset, .unset, .unset] [(.int aw)])) _
      refine XS.istore X12.here hx rfl (hb hby at_27) rfl (l' := #[.val (.long q0), .second, .val (.int j1), .val (.int j2), .val (.int j3), .val (.int j4), .val (.int j5), .val (.ref b_1), .val (.ref b_6), .val (.int aw), .unset, .unset, .unset, .unset, .unset, .unset, .unset, .unset, .unset]) rfl ?_
      show Steps p.tables e below (T12.setTop (mkF m 29 #[.val (.long q0), .second, .val (.int j1), .val (.int j2), .val (.int j3), .val (.int j4), .val (.int j5), .val (.ref b_1), .val (.ref b_6), .val (.int aw), .unset, .unset, .unset, .unset, .unset, .unset, .unset, .unset, .unset] [])) _
      refine XS.iload X12.here hx rfl (hb hby at_29) rfl ?_
      show Steps p.tables e below (T12.setTop (mkF m 31 #[.val (.long q0), .second, .val (.int j1), .val (.int j2), .val (.int j3), .val (.int j4), .val (.int j5), .val (.ref b_1), .val (.ref b_6), .val (.int aw), .unset, .unset, .unset, .unset, .unset, .unset, .unset, .unset, .unset] [(.int j3)])) _
      refine XS.iconst X12.here hx rfl (hb hby at_31) ?_
      show Steps p.tables e below (T12.setTop (mkF m 32 #[.val (.long q0), .second, .val (.int j1), .val (.int j2), .val (.int j3), .val (.int j4), .val (.int j5), .val (.ref b_1), .val (.ref b_6), .val (.int aw), .unset, .unset, .unset, .unset, .unset, .unset, .unset, .unset, .unset] [(.int (2 : Int32)), (.int j3)])) _
      refine XS.iand X12.here hx rfl (hb hby at_32) rfl ?_
      show Steps p.tables e below (T12.setTop (mkF m 33 #[.val (.long q0), .second, .val (.int j1), .val (.int j2), .val (.int j3), .val (.int j4), .val (.int j5), .val (.ref b_1), .val (.ref b_6), .val (.int aw), .unset, .unset, .unset, .unset, .unset, .unset, .unset, .unset, .unset] [(.int (j3 &&& (2 : Int32)))])) _
      exact kk_)
  obtain ⟨T18, Lj18, h18, sv18, X18, N18, e18, Kj18, hs18, r18⟩ : ∃ (T' : State) (L' : List Loc) (h' : Heap) (sv18 : Value), Stand p l e room_1 s m #[(.long q0), (.int j1), (.int j2), (.int j3), (.int j4), (.int j5)] below meth c T' L' 9 24 ∧ Fr n0 L' ∧ T'.heap = h' ∧ Keep T6.heap h' [] ∧ own_NS Z h' sv18 ∧ GoTo p.tables e below s₁ (own_F_own_law m q0 j1 j2 j3 j4 j5) T' (mkF m 44 #[.val (.long q0), .second, .val (.int j1), .val (.int j2), .val (.int j3), .val (.int j4), .val (.int j5), .val (.ref b_1), .val (.ref b_6), .val (.int aw), .unset, .unset, .unset, .unset, .unset, .unset, .unset, .unset, .unset] [sv18]) := by
    have O19 : Old Z n0 T6.heap := (O0.keep K10 all0)
    have K20 : Keep T6.heap T6.heap [] := Keep.refl _ _
    by_cases hc21 : (j3 &&& (2 : Int32)) = (0 : Int32)
    · obtain ⟨Lg22, X22, N22⟩ : ∃ L' : List Loc, Stand p l e room_1 s m #[(.long q0), (.int j1), (.int j2), (.int j3), (.int j4), (.int j5)] below meth c T12 L' 6 16 ∧ Fr n0 L' := ⟨_, X12, N12⟩
      obtain ⟨_, _, ⟨T23, L23, k23, n23⟩, -, X23, ⟨Lc23, hQ23, l23, y23, z23⟩, st23⟩ := Jvm.LawKit.callS X22 hx (y := (⟨"com/example/myna/myna/orders/OrderWithExternalStatePinLaw", "two", "(I)Ljava/lang/String;"⟩ : MethodName)) hown (mvT hZ (hw _ (List.mem_of_getElem? (i := 0) rfl))) (mvT hZ (hw _ (List.mem_of_getElem? (i := 1) rfl))) (mvT hZ (hw _ (List.mem_of_getElem? (i := 2) rfl))) (mvT hZ (hw _ (List.mem_of_getElem? (i := 3) rfl))) (by decide) (backOf (W := 0) (own_two l Z a0 hw [] (j2) (G1) T6.heap n0 (O19.keep K20 all0) (hp3) (hG1)) hZ (hw _ (List.mem_of_getElem? (i := 3) rfl)) (hw _ (List.mem_of_getElem? (i := 2) rfl)) (by decide) (by decide)) (g := (mkF m 41 #[.val (.long q0), .second, .val (.int j1), .val (.int j2), .val (.int j3), .val (.int j4), .val (.int j5), .val (.ref b_1), .val (.ref b_6), .val (.int aw), .unset, .unset, .unset, .unset, .unset, .unset, .unset, .unset, .unset] [(.int j2)])) rfl (by rw [hml]; rfl) (argsL := [(.int j2)]) (rest := []) (lenOf own_pd16 rfl) rfl (by show 2 * 0 + _ ≤ _; exact Nat.le_of_eq rfl) (hb hby at_41) (fun _ _ => ⟨rfl, e12, (by decide : 6 + 3 ≤ _), (by decide : 16 + 8 ≤ _)⟩)
      dsimp only [Pt.U, Pt.locs, Pt.cells, Pt.slots] at X23 l23 y23 z23 st23 hQ23
      subst l23 y23 z23
      obtain ⟨b_23, rfl, Nq23, Kq23, po23_0, po23_1, po23_2⟩ := hQ23
      have N23 := Fr.app N22 Nq23
      have ne24 : b_1 ≠ b_23 := Nat.ne_of_lt (Nat.lt_of_lt_of_le (Nat.lt_of_lt_of_le po1_2.lt Kq6.1) po23_0)
      have ne25 : b_6 ≠ b_23 := Nat.ne_of_lt (Nat.lt_of_lt_of_le po6_2.lt po23_0)
      have g26 : n0 ≤ b_23 := Nat.le_trans (Nat.le_trans (own_le O19) K20.1) po23_0
      have b27 : T6.heap.size ≤ b_23 := Nat.le_trans K20.1 po23_0
      have K28 : Keep T6.heap T23.heap [] := K20.trans Kq23 all0
      have r29 : GoTo p.tables e below s₁ (own_F_own_law m q0 j1 j2 j3 j4 j5) T23 (mkF m 44 #[.val (.long q0), .second, .val (.int j1), .val (.int j2), .val (.int j3), .val (.int j4), .val (.int j5), .val (.ref b_1), .val (.ref b_6), .val (.int aw), .unset, .unset, .unset, .unset, .unset, .unset, .unset, .unset, .unset] [(.ref b_23)]) := fun tt_ kk_ => r17 tt_ (by
          show Steps p.tables e below (T12.setTop (mkF m 33 #[.val (.long q0), .second, .val (.int j1), .val (.int j2), .val (.int j3), .val (.int j4), .val (.int j5), .val (.ref b_1), .val (.ref b_6), .val (.int aw), .unset, .unset, .unset, .unset, .unset, .unset, .unset, .unset, .unset] [(.int (j3 &&& (2 : Int32)))])) _
          refine XS.ifYes X12.here hx rfl (pc0 := 33) (pc' := 40) rfl (hb hby at_33) rfl ((if0 _ _).trans (teq hc21).1) (by decide) (by decide) ?_
          show Steps p.tables e below (T12.setTop (mkF m 40 #[.val (.long q0), .second, .val (.int j1), .val (.int j2), .val (.int j3), .val (.int j4), .val (.int j5), .val (.ref b_1), .val (.ref b_6), .val (.int aw), .unset, .unset, .unset, .unset, .unset, .unset, .unset, .unset, .unset] [])) _
          refine XS.iloadN X12.here hx rfl (hb hby at_40) rfl ?_
          show Steps p.tables e below (T12.setTop (mkF m 41 #[.val (.long q0), .second, .val (.int j1), .val (.int j2), .val (.int j3), .val (.int j4), .val (.int j5), .val (.ref b_1), .val (.ref b_6), .val (.int aw), .unset, .unset, .unset, .unset, .unset, .unset, .unset, .unset, .unset] [(.int j2)])) _
          refine st23 _ ?_
          show Steps p.tables e below (T23.setTop (mkF m 44 #[.val (.long q0), .second, .val (.int j1), .val (.int j2), .val (.int j3), .val (.int j4), .val (.int j5), .val (.ref b_1), .val (.ref b_6), .val (.int aw), .unset, .unset, .unset, .unset, .unset, .unset, .unset, .unset, .unset] [(.ref b_23)])) _
          exact kk_)
      exact ⟨T23, _, _, (.ref b_23), own_mono X23 (by decide) (by decide), N23, rfl, K28, (Or.inr ⟨_, rfl, po23_2⟩), r29⟩
    · have r30 : GoTo p.tables e below s₁ (own_F_own_law m q0 j1 j2 j3 j4 j5) T12 (mkF m 44 #[.val (.long q0), .second, .val (.int j1), .val (.int j2), .val (.int j3), .val (.int j4), .val (.int j5), .val (.ref b_1), .val (.ref b_6), .val (.int aw), .unset, .unset, .unset, .unset, .unset, .unset, .unset, .unset, .unset] [.null]) := fun tt_ kk_ => r17 tt_ (by
          show Steps p.tables e below (T12.setTop (mkF m 33 #[.val (.long q0), .second, .val (.int j1), .val (.int j2), .val (.int j3), .val (.int j4), .val (.int j5), .val (.ref b_1), .val (.ref b_6), .val (.int aw), .unset, .unset, .unset, .unset, .unset, .unset, .unset, .unset, .unset] [(.int (j3 &&& (2 : Int32)))])) _
          refine XS.ifNo X12.here hx rfl (hb hby at_33) rfl ((if0 _ _).trans (feq hc21).1) ?_
          show Steps p.tables e below (T12.setTop (mkF m 36 #[.val (.long q0), .second, .val (.int j1), .val (.int j2), .val (.int j3), .val (.int j4), .val (.int j5), .val (.ref b_1), .val (.ref b_6), .val (.int aw), .unset, .unset, .unset, .unset, .unset, .unset, .unset, .unset, .unset] [])) _
          refine XS.aconstNull X12.here hx rfl (hb hby at_36) ?_
          show Steps p.tables e below (T12.setTop (mkF m 37 #[.val (.long q0), .second, .val (.int j1), .val (.int j2), .val (.int j3), .val (.int j4), .val (.int j5), .val (.ref b_1), .val (.ref b_6), .val (.int aw), .unset, .unset, .unset, .unset, .unset, .unset, .unset, .unset, .unset] [.null])) _
          refine XS.goto X12.here hx rfl (pc0 := 37) (pc' := 44) rfl (hb hby at_37) (by decide) (by decide) ?_
          show Steps p.tables e below (T12.setTop (mkF m 44 #[.val (.long q0), .second, .val (.int j1), .val (.int j2), .val (.int j3), .val (.int j4), .val (.int j5), .val (.ref b_1), .val (.ref b_6), .val (.int aw), .unset, .unset, .unset, .unset, .unset, .unset, .unset, .unset, .unset] [.null])) _
          exact kk_)
      exact ⟨T12, _, _, .null, own_mono X12 (by decide) (by decide), N12, e12, K20, (Or.inl rfl), r30⟩
  have K31 : Keep h0 h18 [] := K10.trans Kj18 all0
  have r32 : GoTo p.tables e below s₁ (own_F_own_law m q0 j1 j2 j3 j4 j5) T18 (mkF m 50 #[.val (.long q0), .second, .val (.int j1), .val (.int j2), .val (.int j3), .val (.int j4), .val (.int j5), .val (.ref b_1), .val (.ref b_6), .val (.int aw), .val sv18, .unset, .unset, .unset, .unset, .unset, .unset, .unset, .unset] [(.int (j3 &&& (4 : Int32)))]) := fun tt_ kk_ => r18 tt_ (by
      show Steps p.tables e below (T18.setTop (mkF m 44 #[.val (.long q0), .second, .val (.int j1), .val (.int j2), .val (.int j3), .val (.int j4), .val (.int j5), .val (.ref b_1), .val (.ref b_6), .val (.int aw), .unset, .unset, .unset, .unset, .unset, .unset, .unset, .unset, .unset] [sv18])) _
      refine XS.astore X18.here hx rfl (hb hby at_44) rfl (own_NS.ref hs18) (l' := #[.val (.long q0), .second, .val (.int j1), .val (.int j2), .val (.int j3), .val (.int j4), .val (.int j5), .val (.ref b_1), .val (.ref b_6), .val (.int aw), .val sv18, .unset, .unset, .unset, .unset, .unset, .unset, .unset, .unset]) (XS.store1 rfl (Or.inl rfl) (own_cat (own_NS.ref hs18))) ?_
      show Steps p.tables e below (T18.setTop (mkF m 46 #[.val (.long q0), .second, .val (.int j1), .val (.int j2), .val (.int j3), .val (.int j4), .val (.int j5), .val (.ref b_1), .val (.ref b_6), .val (.int aw), .val sv18, .unset, .unset, .unset, .unset, .unset, .unset, .unset, .unset] [])) _
      refine XS.iload X18.here hx rfl (hb hby at_46) rfl ?_
      show Steps p.tables e below (T18.setTop (mkF m 48 #[.val (.long q0), .second, .val (.int j1), .val (.int j2), .val (.int j3), .val (.int j4), .val (.int j5), .val (.ref b_1), .val (.ref b_6), .val (.int aw), .val sv18, .unset, .unset, .unset, .unset, .unset, .unset, .unset, .unset] [(.int j3)])) _
      refine XS.iconst X18.here hx rfl (hb hby at_48) ?_
      show Steps p.tables e below (T18.setTop (mkF m 49 #[.val (.long q0), .second, .val (.int j1), .val (.int j2), .val (.int j3), .val (.int j4), .val (.int j5), .val (.ref b_1), .val (.ref b_6), .val (.int aw), .val sv18, .unset, .unset, .unset, .unset, .unset, .unset, .unset, .unset] [(.int (4 : Int32)), (.int j3)])) _
      refine XS.iand X18.here hx rfl (hb hby at_49) rfl ?_
      show Steps p.tables e below (T18.setTop (mkF m 50 #[.val (.long q0), .second, .val (.int j1), .val (.int j2), .val (.int j3), .val (.int j4), .val (.int j5), .val (.ref b_1), .val (.ref b_6), .val (.int aw), .val sv18, .unset, .unset, .unset, .unset, .unset, .unset, .unset, .unset] [(.int (j3 &&& (4 : Int32)))])) _
      exact kk_)
  obtain ⟨T33, Lj33, h33, sv33, X33, N33, e33, Kj33, hs33, r33⟩ : ∃ (T' : State) (L' : List Loc) (h' : Heap) (sv33 : Value), Stand p l e room_1 s m #[(.long q0), (.int j1), (.int j2), (.int j3), (.int j4), (.int j5)] below meth c T' L' 12 32 ∧ Fr n0 L' ∧ T'.heap = h' ∧ Keep h18 h' [] ∧ own_NS Z h' sv33 ∧ GoTo p.tables e below s₁ (own_F_own_law m q0 j1 j2 j3 j4 j5) T' (mkF m 64 #[.val (.long q0), .second, .val (.int j1), .val (.int j2), .val (.int j3), .val (.int j4), .val (.int j5), .val (.ref b_1), .val (.ref b_6), .val (.int aw), .val sv18, .unset, .unset, .unset, .unset, .unset, .unset, .unset, .unset] [sv33]) := by
    have O34 : Old Z n0 h18 := (O0.keep K31 all0)
    have K35 : Keep h18 h18 [] := Keep.refl _ _
    by_cases hc36 : (j3 &&& (4 : Int32)) = (0 : Int32)
    · obtain ⟨Lg37, X37, N37⟩ : ∃ L' : List Loc, Stand p l e room_1 s m #[(.long q0), (.int j1), (.int j2), (.int j3), (.int j4), (.int j5)] below meth c T18 L' 9 24 ∧ Fr n0 L' := ⟨_, X18, N18⟩
      obtain ⟨_, _, ⟨T38, L38, k38, n38⟩, -, X38, ⟨Lc38, hQ38, l38, y38, z38⟩, st38⟩ := Jvm.LawKit.callS X37 hx (y := (⟨"com/example/myna/myna/orders/OrderWithExternalStatePinLaw", "two", "(I)Ljava/lang/String;"⟩ : MethodName)) hown (mvT hZ (hw _ (List.mem_of_getElem? (i := 0) rfl))) (mvT hZ (hw _ (List.mem_of_getElem? (i := 1) rfl))) (mvT hZ (hw _ (List.mem_of_getElem? (i := 2) rfl))) (mvT hZ (hw _ (List.mem_of_getElem? (i := 3) rfl))) (by decide) (backOf (W := 0) (own_two l Z a0 hw [] (((j2.toUInt32 >>> ((16 : Int32) &&& 31).toUInt32).toInt32)) (G1) h18 n0 (O34.keep K35 all0) (hp3) (hG1)) hZ (hw _ (List.mem_of_getElem? (i := 3) rfl)) (hw _ (List.mem_of_getElem? (i := 2) rfl)) (by decide) (by decide)) (g := (mkF m 61 #[.val (.long q0), .second, .val (.int j1), .val (.int j2), .val (.int j3), .val (.int j4), .val (.int j5), .val (.ref b_1), .val (.ref b_6), .val (.int aw), .val sv18, .unset, .unset, .unset, .unset, .unset, .unset, .unset, .unset] [(.int ((j2.toUInt32 >>> ((16 : Int32) &&& 31).toUInt32).toInt32))])) rfl (by rw [hml]; rfl) (argsL := [(.int ((j2.toUInt32 >>> ((16 : Int32) &&& 31).toUInt32).toInt32))]) (rest := []) (lenOf own_pd16 rfl) rfl (by show 2 * 0 + _ ≤ _; exact Nat.le_of_eq rfl) (hb hby at_61) (fun _ _ => ⟨rfl, e18, (by decide : 9 + 3 ≤ _), (by decide : 24 + 8 ≤ _)⟩)
      dsimp only [Pt.U, Pt.locs, Pt.cells, Pt.slots] at X38 l38 y38 z38 st38 hQ38
      subst l38 y38 z38
      obtain ⟨b_38, rfl, Nq38, Kq38, po38_0, po38_1, po38_2⟩ := hQ38
      have N38 := Fr.app N37 Nq38
      have ne39 : b_1 ≠ b_38 := Nat.ne_of_lt (Nat.lt_of_lt_of_le (Nat.lt_of_lt_of_le po1_2.lt (Nat.le_trans Kq6.1 Kj18.1)) po38_0)
      have ne40 : b_6 ≠ b_38 := Nat.ne_of_lt (Nat.lt_of_lt_of_le (Nat.lt_of_lt_of_le po6_2.lt Kj18.1) po38_0)
      have g41 : n0 ≤ b_38 := Nat.le_trans (Nat.le_trans (own_le O34) K35.1) po38_0
      have b42 : h18.size ≤ b_38 := Nat.le_trans K35.1 po38_0
      have K43 : Keep h18 T38.heap [] := K35.trans Kq38 all0
      have r44 : GoTo p.tables e below s₁ (own_F_own_law m q0 j1 j2 j3 j4 j5) T38 (mkF m 64 #[.val (.long q0), .second, .val (.int j1), .val (.int j2), .val (.int j3), .val (.int j4), .val (.int j5), .val (.ref b_1), .val (.ref b_6), .val (.int aw), .val sv18, .unset, .unset, .unset, .unset, .unset, .unset, .unset, .unset] [(.ref b_38)]) := fun tt_ kk_ => r32 tt_ (by
          show Steps p.tables e below (T18.setTop (mkF m 50 #[.val (.long q0), .second, .val (.int j1), .val (.int j2), .val (.int j3), .val (.int j4), .val (.int j5), .val (.ref b_1), .val (.ref b_6), .val (.int aw), .val sv18, .unset, .unset, .unset, .unset, .unset, .unset, .unset, .unset] [(.int (j3 &&& (4 : Int32)))])) _
          refine XS.ifYes X18.here hx rfl (pc0 := 50) (pc' := 57) rfl (hb hby at_50) rfl ((if0 _ _).trans (teq hc36).1) (by decide) (by decide) ?_
          show Steps p.tables e below (T18.setTop (mkF m 57 #[.val (.long q0), .second, .val (.int j1), .val (.int j2), .val (.int j3), .val (.int j4), .val (.int j5), .val (.ref b_1), .val (.ref b_6), .val (.int aw), .val sv18, .unset, .unset, .unset, .unset, .unset, .unset, .unset, .unset] [])) _
          refine XS.iloadN X18.here hx rfl (hb hby at_57) rfl ?_
          show Steps p.tables e below (T18.setTop (mkF m 58 #[.val (.long q0), .second, .val (.int j1), .val (.int j2), .val (.int j3), .val (.int j4), .val (.int j5), .val (.ref b_1), .val (.ref b_6), .val (.int aw), .val sv18, .unset, .unset, .unset, .unset, .unset, .unset, .unset, .unset] [(.int j2)])) _
          refine XS.bipush X18.here hx rfl (hb hby at_58) ?_
          show Steps p.tables e below (T18.setTop (mkF m 60 #[.val (.long q0), .second, .val (.int j1), .val (.int j2), .val (.int j3), .val (.int j4), .val (.int j5), .val (.ref b_1), .val (.ref b_6), .val (.int aw), .val sv18, .unset, .unset, .unset, .unset, .unset, .unset, .unset, .unset] [(.int (16 : Int32)), (.int j2)])) _
          refine XS.iushr X18.here hx rfl (hb hby at_60) rfl ?_
          show Steps p.tables e below (T18.setTop (mkF m 61 #[.val (.long q0), .second, .val (.int j1), .val (.int j2), .val (.int j3), .val (.int j4), .val (.int j5), .val (.ref b_1), .val (.ref b_6), .val (.int aw), .val sv18, .unset, .unset, .unset, .unset, .unset, .unset, .unset, .unset] [(.int ((j2.toUInt32 >>> ((16 : Int32) &&& 31).toUInt32).toInt32))])) _
          refine st38 _ ?_
          show Steps p.tables e below (T38.setTop (mkF m 64 #[.val (.long q0), .second, .val (.int j1), .val (.int j2), .val (.int j3), .val (.int j4), .val (.int j5), .val (.ref b_1), .val (.ref b_6), .val (.int aw), .val sv18, .unset, .unset, .unset, .unset, .unset, .unset, .unset, .unset] [(.ref b_38)])) _
          exact kk_)
      exact ⟨T38, _, _, (.ref b_38), own_mono X38 (by decide) (by decide), N38, rfl, K43, (Or.inr ⟨_, rfl, po38_2⟩), r44⟩
    · have r45 : GoTo p.tables e below s₁ (own_F_own_law m q0 j1 j2 j3 j4 j5) T18 (mkF m 64 #[.val (.long q0), .second, .val (.int j1), .val (.int j2), .val (.int j3), .val (.int j4), .val (.int j5), .val (.ref b_1), .val (.ref b_6), .val (.int aw), .val sv18, .unset, .unset, .unset, .unset, .unset, .unset, .unset, .unset] [.null]) := fun tt_ kk_ => r32 tt_ (by
          show Steps p.tables e below (T18.setTop (mkF m 50 #[.val (.long q0), .second, .val (.int j1), .val (.int j2), .val (.int j3), .val (.int j4), .val (.int j5), .val (.ref b_1), .val (.ref b_6), .val (.int aw), .val sv18, .unset, .unset, .unset, .unset, .unset, .unset, .unset, .unset] [(.int (j3 &&& (4 : Int32)))])) _
          refine XS.ifNo X18.here hx rfl (hb hby at_50) rfl ((if0 _ _).trans (feq hc36).1) ?_
          show Steps p.tables e below (T18.setTop (mkF m 53 #[.val (.long q0), .second, .val (.int j1), .val (.int j2), .val (.int j3), .val (.int j4), .val (.int j5), .val (.ref b_1), .val (.ref b_6), .val (.int aw), .val sv18, .unset, .unset, .unset, .unset, .unset, .unset, .unset, .unset] [])) _
          refine XS.aconstNull X18.here hx rfl (hb hby at_53) ?_
          show Steps p.tables e below (T18.setTop (mkF m 54 #[.val (.long q0), .second, .val (.int j1), .val (.int j2), .val (.int j3), .val (.int j4), .val (.int j5), .val (.ref b_1), .val (.ref b_6), .val (.int aw), .val sv18, .unset, .unset, .unset, .unset, .unset, .unset, .unset, .unset] [.null])) _
          refine XS.goto X18.here hx rfl (pc0 := 54) (pc' := 64) rfl (hb hby at_54) (by decide) (by decide) ?_
          show Steps p.tables e below (T18.setTop (mkF m 64 #[.val (.long q0), .second, .val (.int j1), .val (.int j2), .val (.int j3), .val (.int j4), .val (.int j5), .val (.ref b_1), .val (.ref b_6), .val (.int aw), .val sv18, .unset, .unset, .unset, .unset, .unset, .unset, .unset, .unset] [.null])) _
          exact kk_)
      exact ⟨T18, _, _, .null, own_mono X18 (by decide) (by decide), N18, e18, K35, (Or.inl rfl), r45⟩
  have K46 : Keep h0 h33 [] := K31.trans Kj33 all0
  have r47 : GoTo p.tables e below s₁ (own_F_own_law m q0 j1 j2 j3 j4 j5) T33 (mkF m 76 #[.val (.long q0), .second, .val (.int j1), .val (.int j2), .val (.int j3), .val (.int j4), .val (.int j5), .val (.ref b_1), .val (.ref b_6), .val (.int aw), .val sv18, .val sv33, .val (.int (((j3.toUInt32 >>> ((3 : Int32) &&& 31).toUInt32).toInt32) % (3 : Int32))), .unset, .unset, .unset, .unset, .unset, .unset] [(.int (((j3.toUInt32 >>> ((3 : Int32) &&& 31).toUInt32).toInt32) % (3 : Int32)))]) := fun tt_ kk_ => r33 tt_ (by
      show Steps p.tables e below (T33.setTop (mkF m 64 #[.val (.long q0), .second, .val (.int j1), .val (.int j2), .val (.int j3), .val (.int j4), .val (.int j5), .val (.ref b_1), .val (.ref b_6), .val (.int aw), .val sv18, .unset, .unset, .unset, .unset, .unset, .unset, .unset, .unset] [sv33])) _
      refine XS.astore X33.here hx rfl (hb hby at_64) rfl (own_NS.ref hs33) (l' := #[.val (.long q0), .second, .val (.int j1), .val (.int j2), .val (.int j3), .val (.int j4), .val (.int j5), .val (.ref b_1), .val (.ref b_6), .val (.int aw), .val sv18, .val sv33, .unset, .unset, .unset, .unset, .unset, .unset, .unset]) (XS.store1 rfl (Or.inl rfl) (own_cat (own_NS.ref hs33))) ?_
      show Steps p.tables e below (T33.setTop (mkF m 66 #[.val (.long q0), .second, .val (.int j1), .val (.int j2), .val (.int j3), .val (.int j4), .val (.int j5), .val (.ref b_1), .val (.ref b_6), .val (.int aw), .val sv18, .val sv33, .unset, .unset, .unset, .unset, .unset, .unset, .unset] [])) _
      refine XS.iload X33.here hx rfl (hb hby at_66) rfl ?_
      show Steps p.tables e below (T33.setTop (mkF m 68 #[.val (.long q0), .second, .val (.int j1), .val (.int j2), .val (.int j3), .val (.int j4), .val (.int j5), .val (.ref b_1), .val (.ref b_6), .val (.int aw), .val sv18, .val sv33, .unset, .unset, .unset, .unset, .unset, .unset, .unset] [(.int j3)])) _
      refine XS.iconst X33.here hx rfl (hb hby at_68) ?_
      show Steps p.tables e below (T33.setTop (mkF m 69 #[.val (.long q0), .second, .val (.int j1), .val (.int j2), .val (.int j3), .val (.int j4), .val (.int j5), .val (.ref b_1), .val (.ref b_6), .val (.int aw), .val sv18, .val sv33, .unset, .unset, .unset, .unset, .unset, .unset, .unset] [(.int (3 : Int32)), (.int j3)])) _
      refine XS.iushr X33.here hx rfl (hb hby at_69) rfl ?_
      show Steps p.tables e below (T33.setTop (mkF m 70 #[.val (.long q0), .second, .val (.int j1), .val (.int j2), .val (.int j3), .val (.int j4), .val (.int j5), .val (.ref b_1), .val (.ref b_6), .val (.int aw), .val sv18, .val sv33, .unset, .unset, .unset, .unset, .unset, .unset, .unset] [(.int ((j3.toUInt32 >>> ((3 : Int32) &&& 31).toUInt32).toInt32))])) _
      refine XS.iconst X33.here hx rfl (hb hby at_70) ?_
      show Steps p.tables e below (T33.setTop (mkF m 71 #[.val (.long q0), .second, .val (.int j1), .val (.int j2), .val (.int j3), .val (.int j4), .val (.int j5), .val (.ref b_1), .val (.ref b_6), .val (.int aw), .val sv18, .val sv33, .unset, .unset, .unset, .unset, .unset, .unset, .unset] [(.int (3 : Int32)), (.int ((j3.toUInt32 >>> ((3 : Int32) &&& 31).toUInt32).toInt32))])) _
      refine iremM X33 hx rfl (hb hby at_71) rfl (by decide) ?_
      show Steps p.tables e below (T33.setTop (mkF m 72 #[.val (.long q0), .second, .val (.int j1), .val (.int j2), .val (.int j3), .val (.int j4), .val (.int j5), .val (.ref b_1), .val (.ref b_6), .val (.int aw), .val sv18, .val sv33, .unset, .unset, .unset, .unset, .unset, .unset, .unset] [(.int (((j3.toUInt32 >>> ((3 : Int32) &&& 31).toUInt32).toInt32) % (3 : Int32)))])) _
      refine XS.istore X33.here hx rfl (hb hby at_72) rfl (l' := #[.val (.long q0), .second, .val (.int j1), .val (.int j2), .val (.int j3), .val (.int j4), .val (.int j5), .val (.ref b_1), .val (.ref b_6), .val (.int aw), .val sv18, .val sv33, .val (.int (((j3.toUInt32 >>> ((3 : Int32) &&& 31).toUInt32).toInt32) % (3 : Int32))), .unset, .unset, .unset, .unset, .unset, .unset]) rfl ?_
      show Steps p.tables e below (T33.setTop (mkF m 74 #[.val (.long q0), .second, .val (.int j1), .val (.int j2), .val (.int j3), .val (.int j4), .val (.int j5), .val (.ref b_1), .val (.ref b_6), .val (.int aw), .val sv18, .val sv33, .val (.int (((j3.toUInt32 >>> ((3 : Int32) &&& 31).toUInt32).toInt32) % (3 : Int32))), .unset, .unset, .unset, .unset, .unset, .unset] [])) _
      refine XS.iload X33.here hx rfl (hb hby at_74) rfl ?_
      show Steps p.tables e below (T33.setTop (mkF m 76 #[.val (.long q0), .second, .val (.int j1), .val (.int j2), .val (.int j3), .val (.int j4), .val (.int j5), .val (.ref b_1), .val (.ref b_6), .val (.int aw), .val sv18, .val sv33, .val (.int (((j3.toUInt32 >>> ((3 : Int32) &&& 31).toUInt32).toInt32) % (3 : Int32))), .unset, .unset, .unset, .unset, .unset, .unset] [(.int (((j3.toUInt32 >>> ((3 : Int32) &&& 31).toUInt32).toInt32) % (3 : Int32)))])) _
      exact kk_)
  obtain ⟨T48, Lj48, X48, N48, e48, r48⟩ : ∃ (T' : State) (L' : List Loc), Stand p l e room_1 s m #[(.long q0), (.int j1), (.int j2), (.int j3), (.int j4), (.int j5)] below meth c T' L' 12 32 ∧ Fr n0 L' ∧ T'.heap = h33 ∧ GoTo p.tables e below s₁ (own_F_own_law m q0 j1 j2 j3 j4 j5) T' (mkF m 100 #[.val (.long q0), .second, .val (.int j1), .val (.int j2), .val (.int j3), .val (.int j4), .val (.int j5), .val (.ref b_1), .val (.ref b_6), .val (.int aw), .val sv18, .val sv33, .val (.int (((j3.toUInt32 >>> ((3 : Int32) &&& 31).toUInt32).toInt32) % (3 : Int32))), .unset, .unset, .unset, .unset, .unset, .unset] [(.ref (if (((j3.toUInt32 >>> ((3 : Int32) &&& 31).toUInt32).toInt32) % (3 : Int32)) = (0 : Int32) then u0 else (if (((j3.toUInt32 >>> ((3 : Int32) &&& 31).toUInt32).toInt32) % (3 : Int32)) = (1 : Int32) then u1 else u2)))]) := by
    by_cases hc49 : (((j3.toUInt32 >>> ((3 : Int32) &&& 31).toUInt32).toInt32) % (3 : Int32)) = (0 : Int32)
    · obtain ⟨T50, X50, e50, st50⟩ := getS2 X33 hx hZ hown (host := "") (Or.inl (hw _ (List.mem_of_getElem? (i := 34) rfl))) Via.refl e33 (hp0.ext (O0.keep K46 all0).2) (g := (mkF m 79 #[.val (.long q0), .second, .val (.int j1), .val (.int j2), .val (.int j3), .val (.int j4), .val (.int j5), .val (.ref b_1), .val (.ref b_6), .val (.int aw), .val sv18, .val sv33, .val (.int (((j3.toUInt32 >>> ((3 : Int32) &&& 31).toUInt32).toInt32) % (3 : Int32))), .unset, .unset, .unset, .unset, .unset, .unset] [])) rfl (hb hby at_79)
      have r51 : GoTo p.tables e below s₁ (own_F_own_law m q0 j1 j2 j3 j4 j5) T50 (mkF m 100 #[.val (.long q0), .second, .val (.int j1), .val (.int j2), .val (.int j3), .val (.int j4), .val (.int j5), .val (.ref b_1), .val (.ref b_6), .val (.int aw), .val sv18, .val sv33, .val (.int (((j3.toUInt32 >>> ((3 : Int32) &&& 31).toUInt32).toInt32) % (3 : Int32))), .unset, .unset, .unset, .unset, .unset, .unset] [(.ref u0)]) := fun tt_ kk_ => r47 tt_ (by
          show Steps p.tables e below (T33.setTop (mkF m 76 #[.val (.long q0), .second, .val (.int j1), .val (.int j2), .val (.int j3), .val (.int j4), .val (.int j5), .val (.ref b_1), .val (.ref b_6), .val (.int aw), .val sv18, .val sv33, .val (.int (((j3.toUInt32 >>> ((3 : Int32) &&& 31).toUInt32).toInt32) % (3 : Int32))), .unset, .unset, .unset, .unset, .unset, .unset] [(.int (((j3.toUInt32 >>> ((3 : Int32) &&& 31).toUInt32).toInt32) % (3 : Int32)))])) _
          refine XS.ifNo X33.here hx rfl (hb hby at_76) rfl ((if0 _ _).trans (teq hc49).2) ?_
          show Steps p.tables e below (T33.setTop (mkF m 79 #[.val (.long q0), .second, .val (.int j1), .val (.int j2), .val (.int j3), .val (.int j4), .val (.int j5), .val (.ref b_1), .val (.ref b_6), .val (.int aw), .val sv18, .val sv33, .val (.int (((j3.toUInt32 >>> ((3 : Int32) &&& 31).toUInt32).toInt32) % (3 : Int32))), .unset, .unset, .unset, .unset, .unset, .unset] [])) _
          refine st50 _ ?_
          show Steps p.tables e below (T50.setTop (mkF m 82 #[.val (.long q0), .second, .val (.int j1), .val (.int j2), .val (.int j3), .val (.int j4), .val (.int j5), .val (.ref b_1), .val (.ref b_6), .val (.int aw), .val sv18, .val sv33, .val (.int (((j3.toUInt32 >>> ((3 : Int32) &&& 31).toUInt32).toInt32) % (3 : Int32))), .unset, .unset, .unset, .unset, .unset, .unset] [(.ref u0)])) _
          refine XS.goto X50.here hx rfl (pc0 := 82) (pc' := 100) rfl (hb hby at_82) (by decide) (by decide) ?_
          show Steps p.tables e below (T50.setTop (mkF m 100 #[.val (.long q0), .second, .val (.int j1), .val (.int j2), .val (.int j3), .val (.int j4), .val (.int j5), .val (.ref b_1), .val (.ref b_6), .val (.int aw), .val sv18, .val sv33, .val (.int (((j3.toUInt32 >>> ((3 : Int32) &&& 31).toUInt32).toInt32) % (3 : Int32))), .unset, .unset, .unset, .unset, .unset, .unset] [(.ref u0)])) _
          exact kk_)
      exact ⟨T50, _, X50, N33, e50, by rw [show (if (((j3.toUInt32 >>> ((3 : Int32) &&& 31).toUInt32).toInt32) % (3 : Int32)) = (0 : Int32) then u0 else (if (((j3.toUInt32 >>> ((3 : Int32) &&& 31).toUInt32).toInt32) % (3 : Int32)) = (1 : Int32) then u1 else u2)) = u0 from (if_pos hc49)]; exact r51⟩
    · have r52 : GoTo p.tables e below s₁ (own_F_own_law m q0 j1 j2 j3 j4 j5) T33 (mkF m 88 #[.val (.long q0), .second, .val (.int j1), .val (.int j2), .val (.int j3), .val (.int j4), .val (.int j5), .val (.ref b_1), .val (.ref b_6), .val (.int aw), .val sv18, .val sv33, .val (.int (((j3.toUInt32 >>> ((3 : Int32) &&& 31).toUInt32).toInt32) % (3 : Int32))), .unset, .unset, .unset, .unset, .unset, .unset] [(.int (1 : Int32)), (.int (((j3.toUInt32 >>> ((3 : Int32) &&& 31).toUInt32).toInt32) % (3 : Int32)))]) := fun tt_ kk_ => r47 tt_ (by
          show Steps p.tables e below (T33.setTop (mkF m 76 #[.val (.long q0), .second, .val (.int j1), .val (.int j2), .val (.int j3), .val (.int j4), .val (.int j5), .val (.ref b_1), .val (.ref b_6), .val (.int aw), .val sv18, .val sv33, .val (.int (((j3.toUInt32 >>> ((3 : Int32) &&& 31).toUInt32).toInt32) % (3 : Int32))), .unset, .unset, .unset, .unset, .unset, .unset] [(.int (((j3.toUInt32 >>> ((3 : Int32) &&& 31).toUInt32).toInt32) % (3 : Int32)))])) _
          refine XS.ifYes X33.here hx rfl (pc0 := 76) (pc' := 85) rfl (hb hby at_76) rfl ((if0 _ _).trans (feq hc49).2) (by decide) (by decide) ?_
          show Steps p.tables e below (T33.setTop (mkF m 85 #[.val (.long q0), .second, .val (.int j1), .val (.int j2), .val (.int j3), .val (.int j4), .val (.int j5), .val (.ref b_1), .val (.ref b_6), .val (.int aw), .val sv18, .val sv33, .val (.int (((j3.toUInt32 >>> ((3 : Int32) &&& 31).toUInt32).toInt32) % (3 : Int32))), .unset, .unset, .unset, .unset, .unset, .unset] [])) _
          refine XS.iload X33.here hx rfl (hb hby at_85) rfl ?_
          show Steps p.tables e below (T33.setTop (mkF m 87 #[.val (.long q0), .second, .val (.int j1), .val (.int j2), .val (.int j3), .val (.int j4), .val (.int j5), .val (.ref b_1), .val (.ref b_6), .val (.int aw), .val sv18, .val sv33, .val (.int (((j3.toUInt32 >>> ((3 : Int32) &&& 31).toUInt32).toInt32) % (3 : Int32))), .unset, .unset, .unset, .unset, .unset, .unset] [(.int (((j3.toUInt32 >>> ((3 : Int32) &&& 31).toUInt32).toInt32) % (3 : Int32)))])) _
          refine XS.iconst X33.here hx rfl (hb hby at_87) ?_
          show Steps p.tables e below (T33.setTop (mkF m 88 #[.val (.long q0), .second, .val (.int j1), .val (.int j2), .val (.int j3), .val (.int j4), .val (.int j5), .val (.ref b_1), .val (.ref b_6), .val (.int aw), .val sv18, .val sv33, .val (.int (((j3.toUInt32 >>> ((3 : Int32) &&& 31).toUInt32).toInt32) % (3 : Int32))), .unset, .unset, .unset, .unset, .unset, .unset] [(.int (1 : Int32)), (.int (((j3.toUInt32 >>> ((3 : Int32) &&& 31).toUInt32).toInt32) % (3 : Int32)))])) _
          exact kk_)
      by_cases hc53 : (((j3.toUInt32 >>> ((3 : Int32) &&& 31).toUInt32).toInt32) % (3 : Int32)) = (1 : Int32)
      · obtain ⟨T54, X54, e54, st54⟩ := getS2 X33 hx hZ hown (host := "") (Or.inl (hw _ (List.mem_of_getElem? (i := 311) rfl))) Via.refl e33 (hp1.ext (O0.keep K46 all0).2) (g := (mkF m 91 #[.val (.long q0), .second, .val (.int j1), .val (.int j2), .val (.int j3), .val (.int j4), .val (.int j5), .val (.ref b_1), .val (.ref b_6), .val (.int aw), .val sv18, .val sv33, .val (.int (((j3.toUInt32 >>> ((3 : Int32) &&& 31).toUInt32).toInt32) % (3 : Int32))), .unset, .unset, .unset, .unset, .unset, .unset] [])) rfl (hb hby at_91)
        have r55 : GoTo p.tables e below s₁ (own_F_own_law m q0 j1 j2 j3 j4 j5) T54 (mkF m 100 #[.val (.long q0), .second, .val (.int j1), .val (.int j2), .val (.int j3), .val (.int j4), .val (.int j5), .val (.ref b_1), .val (.ref b_6), .val (.int aw), .val sv18, .val sv33, .val (.int (((j3.toUInt32 >>> ((3 : Int32) &&& 31).toUInt32).toInt32) % (3 : Int32))), .unset, .unset, .unset, .unset, .unset, .unset] [(.ref u1)]) := fun tt_ kk_ => r52 tt_ (by
            show Steps p.tables e below (T33.setTop (mkF m 88 #[.val (.long q0), .second, .val (.int j1), .val (.int j2), .val (.int j3), .val (.int j4), .val (.int j5), .val (.ref b_1), .val (.ref b_6), .val (.int aw), .val sv18, .val sv33, .val (.int (((j3.toUInt32 >>> ((3 : Int32) &&& 31).toUInt32).toInt32) % (3 : Int32))), .unset, .unset, .unset, .unset, .unset, .unset] [(.int (1 : Int32)), (.int (((j3.toUInt32 >>> ((3 : Int32) &&& 31).toUInt32).toInt32) % (3 : Int32)))])) _
            refine XS.icmpNo X33.here hx rfl (hb hby at_88) rfl (teq hc53).2 ?_
            show Steps p.tables e below (T33.setTop (mkF m 91 #[.val (.long q0), .second, .val (.int j1), .val (.int j2), .val (.int j3), .val (.int j4), .val (.int j5), .val (.ref b_1), .val (.ref b_6), .val (.int aw), .val sv18, .val sv33, .val (.int (((j3.toUInt32 >>> ((3 : Int32) &&& 31).toUInt32).toInt32) % (3 : Int32))), .unset, .unset, .unset, .unset, .unset, .unset] [])) _
            refine st54 _ ?_
            show Steps p.tables e below (T54.setTop (mkF m 94 #[.val (.long q0), .second, .val (.int j1), .val (.int j2), .val (.int j3), .val (.int j4), .val (.int j5), .val (.ref b_1), .val (.ref b_6), .val (.int aw), .val sv18, .val sv33, .val (.int (((j3.toUInt32 >>> ((3 : Int32) &&& 31).toUInt32).toInt32) % (3 : Int32))), .unset, .unset, .unset, .unset, .unset, .unset] [(.ref u1)])) _
            refine XS.goto X54.here hx rfl (pc0 := 94) (pc' := 100) rfl (hb hby at_94) (by decide) (by decide) ?_
            show Steps p.tables e below (T54.setTop (mkF m 100 #[.val (.long q0), .second, .val (.int j1), .val (.int j2), .val (.int j3), .val (.int j4), .val (.int j5), .val (.ref b_1), .val (.ref b_6), .val (.int aw), .val sv18, .val sv33, .val (.int (((j3.toUInt32 >>> ((3 : Int32) &&& 31).toUInt32).toInt32) % (3 : Int32))), .unset, .unset, .unset, .unset, .unset, .unset] [(.ref u1)])) _
            exact kk_)
        exact ⟨T54, _, X54, N33, e54, by rw [show (if (((j3.toUInt32 >>> ((3 : Int32) &&& 31).toUInt32).toInt32) % (3 : Int32)) = (0 : Int32) then u0 else (if (((j3.toUInt32 >>> ((3 : Int32) &&& 31).toUInt32).toInt32) % (3 : Int32)) = (1 : Int32) then u1 else u2)) = u1 from ((if_neg hc49).trans (if_pos hc53))]; exact r55⟩
      · obtain ⟨T56, X56, e56, st56⟩ := getS2 X33 hx hZ hown (host := "") (Or.inl (hw _ (List.mem_of_getElem? (i := 313) rfl))) Via.refl e33 (hp2.ext (O0.keep K46 all0).2) (g := (mkF m 97 #[.val (.long q0), .second, .val (.int j1), .val (.int j2), .val (.int j3), .val (.int j4), .val (.int j5), .val (.ref b_1), .val (.ref b_6), .val (.int aw), .val sv18, .val sv33, .val (.int (((j3.toUInt32 >>> ((3 : Int32) &&& 31).toUInt32).toInt32) % (3 : Int32))), .unset, .unset, .unset, .unset, .unset, .unset] [])) rfl (hb hby at_97)
        have r57 : GoTo p.tables e below s₁ (own_F_own_law m q0 j1 j2 j3 j4 j5) T56 (mkF m 100 #[.val (.long q0), .second, .val (.int j1), .val (.int j2), .val (.int j3), .val (.int j4), .val (.int j5), .val (.ref b_1), .val (.ref b_6), .val (.int aw), .val sv18, .val sv33, .val (.int (((j3.toUInt32 >>> ((3 : Int32) &&& 31).toUInt32).toInt32) % (3 : Int32))), .unset, .unset, .unset, .unset, .unset, .unset] [(.ref u2)]) := fun tt_ kk_ => r52 tt_ (by
            show Steps p.tables e below (T33.setTop (mkF m 88 #[.val (.long q0), .second, .val (.int j1), .val (.int j2), .val (.int j3), .val (.int j4), .val (.int j5), .val (.ref b_1), .val (.ref b_6), .val (.int aw), .val sv18, .val sv33, .val (.int (((j3.toUInt32 >>> ((3 : Int32) &&& 31).toUInt32).toInt32) % (3 : Int32))), .unset, .unset, .unset, .unset, .unset, .unset] [(.int (1 : Int32)), (.int (((j3.toUInt32 >>> ((3 : Int32) &&& 31).toUInt32).toInt32) % (3 : Int32)))])) _
            refine XS.icmpYes X33.here hx rfl (pc0 := 88) (pc' := 97) rfl (hb hby at_88) rfl (feq hc53).2 (by decide) (by decide) ?_
            show Steps p.tables e below (T33.setTop (mkF m 97 #[.val (.long q0), .second, .val (.int j1), .val (.int j2), .val (.int j3), .val (.int j4), .val (.int j5), .val (.ref b_1), .val (.ref b_6), .val (.int aw), .val sv18, .val sv33, .val (.int (((j3.toUInt32 >>> ((3 : Int32) &&& 31).toUInt32).toInt32) % (3 : Int32))), .unset, .unset, .unset, .unset, .unset, .unset] [])) _
            refine st56 _ ?_
            show Steps p.tables e below (T56.setTop (mkF m 100 #[.val (.long q0), .second, .val (.int j1), .val (.int j2), .val (.int j3), .val (.int j4), .val (.int j5), .val (.ref b_1), .val (.ref b_6), .val (.int aw), .val sv18, .val sv33, .val (.int (((j3.toUInt32 >>> ((3 : Int32) &&& 31).toUInt32).toInt32) % (3 : Int32))), .unset, .unset, .unset, .unset, .unset, .unset] [(.ref u2)])) _
            exact kk_)
        exact ⟨T56, _, X56, N33, e56, by rw [show (if (((j3.toUInt32 >>> ((3 : Int32) &&& 31).toUInt32).toInt32) % (3 : Int32)) = (0 : Int32) then u0 else (if (((j3.toUInt32 >>> ((3 : Int32) &&& 31).toUInt32).toInt32) % (3 : Int32)) = (1 : Int32) then u1 else u2)) = u2 from ((if_neg hc49).trans (if_neg hc53))]; exact r57⟩
  obtain ⟨stt, h_stt⟩ : ∃ z : Addr, z = (if (((j3.toUInt32 >>> ((3 : Int32) &&& 31).toUInt32).toInt32) % (3 : Int32)) = (0 : Int32) then u0 else (if (((j3.toUInt32 >>> ((3 : Int32) &&& 31).toUInt32).toInt32) % (3 : Int32)) = (1 : Int32) then u1 else u2)) := ⟨_, rfl⟩
  have r58 : GoTo p.tables e below s₁ (own_F_own_law m q0 j1 j2 j3 j4 j5) T48 (mkF m 100 #[.val (.long q0), .second, .val (.int j1), .val (.int j2), .val (.int j3), .val (.int j4), .val (.int j5), .val (.ref b_1), .val (.ref b_6), .val (.int aw), .val sv18, .val sv33, .val (.int (((j3.toUInt32 >>> ((3 : Int32) &&& 31).toUInt32).toInt32) % (3 : Int32))), .unset, .unset, .unset, .unset, .unset, .unset] [(.ref stt)]) := by rw [h_stt]; exact r48
  obtain ⟨T59, h59, X59, e59, E59, A59, D59, -, st59⟩ := newO X48 hx hZ hown (hw _ (List.mem_of_getElem? (i := 37) rfl)) (hw _ (List.mem_of_getElem? (i := 38) rfl)) (hw _ (List.mem_of_getElem? (i := 39) rfl)) e48 (g := (mkF m 102 #[.val (.long q0), .second, .val (.int j1), .val (.int j2), .val (.int j3), .val (.int j4), .val (.int j5), .val (.ref b_1), .val (.ref b_6), .val (.int aw), .val sv18, .val sv33, .val (.int (((j3.toUInt32 >>> ((3 : Int32) &&& 31).toUInt32).toInt32) % (3 : Int32))), .val (.ref stt), .unset, .unset, .unset, .unset, .unset] [])) rfl (hb hby at_102) (by decide) (by decide)
  obtain ⟨b59, gg59⟩ : ∃ z, z = h33.size := ⟨_, rfl⟩
  rw [← gg59] at A59 D59 st59
  have ne60 : b_1 ≠ b59 := Nat.ne_of_lt (Nat.lt_of_lt_of_le (Nat.lt_of_lt_of_le po1_2.lt (Nat.le_trans (Nat.le_trans Kq6.1 Kj18.1) Kj33.1)) (Nat.le_of_eq gg59.symm))
  have ne61 : b_6 ≠ b59 := Nat.ne_of_lt (Nat.lt_of_lt_of_le (Nat.lt_of_lt_of_le po6_2.lt (Nat.le_trans Kj18.1 Kj33.1)) (Nat.le_of_eq gg59.symm))
  have g62 : n0 ≤ b59 := Nat.le_trans (Nat.le_trans (own_le O0) K46.1) (Nat.le_of_eq gg59.symm)
  have b63 : h0.size ≤ b59 := Nat.le_trans K46.1 (Nat.le_of_eq gg59.symm)
  have K64 : Keep h0 h59 [] := K46.ext E59
  obtain ⟨_, _, ⟨T65, L65, k65, n65⟩, -, X65, ⟨Lc65, hQ65, l65, y65, z65⟩, st65⟩ := X59.specialBack hx (y := (⟨"com/example/myna/myna/orders/OrderLine", "<init>", "(Lcom/example/myna/myna/catalog/Sku;II)V"⟩ : MethodName)) rfl hown (mvT hZ (hw _ (List.mem_of_getElem? (i := 40) rfl))) (mvT hZ (hw _ (List.mem_of_getElem? (i := 41) rfl))) (mvT hZ (hw _ (List.mem_of_getElem? (i := 42) rfl))) (by decide) (backOf (W := 1) (own_oln l Z a0 hw [] (b59) (j4) (j5) h59 n0 (O0.keep K64 all0) (A59) (g62) ((D59 (Or.inr (hw _ (List.mem_of_getElem? (i := 50) rfl))) (ty := (.object "com/example/myna/myna/catalog/Sku")) (by decide))) ((D59 (Or.inr (hw _ (List.mem_of_getElem? (i := 52) rfl))) (ty := .int) (by decide))) ((D59 (Or.inr (hw _ (List.mem_of_getElem? (i := 54) rfl))) (ty := .int) (by decide)))) hZ (hw _ (List.mem_of_getElem? (i := 42) rfl)) (hw _ (List.mem_of_getElem? (i := 39) rfl)) (by decide) (by decide)) (g := (mkF m 111 #[.val (.long q0), .second, .val (.int j1), .val (.int j2), .val (.int j3), .val (.int j4), .val (.int j5), .val (.ref b_1), .val (.ref b_6), .val (.int aw), .val sv18, .val sv33, .val (.int (((j3.toUInt32 >>> ((3 : Int32) &&& 31).toUInt32).toInt32) % (3 : Int32))), .val (.ref stt), .unset, .unset, .unset, .unset, .unset] [(.int j5), (.int j4), .null, (.ref b59), (.ref b59)])) rfl (by rw [hml]; rfl) (Steps.refl _) (a := b59) (argsL := [.null, (.int j4), (.int j5)]) (rest := [(.ref b59)]) (lenOf own_pd17 rfl) rfl (by show 2 * 0 + _ ≤ _; exact Nat.le_of_eq rfl) (hb hby at_111) (fun _ _ => ⟨rfl, e59, (by decide : 13 + 0 ≤ _), (by decide : 35 + 0 ≤ _)⟩)
  dsimp only [Pt.U, Pt.locs, Pt.cells, Pt.slots] at X65 l65 y65 z65 st65 hQ65
  subst l65 y65 z65
  obtain ⟨rfl, Nq65, Kq65, po65_0⟩ := hQ65
  have N65 := Fr.app N48 Nq65
  have K66 : Keep h0 T65.heap [] := K64.trans Kq65 (allS (Or.inr b63) all0)
  obtain ⟨T67, h67, X67, e67, E67, A67, D67, -, st67⟩ := newO X65 hx hZ hown (hw _ (List.mem_of_getElem? (i := 55) rfl)) (hw _ (List.mem_of_getElem? (i := 56) rfl)) (hw _ (List.mem_of_getElem? (i := 57) rfl)) rfl (g := (mkF m 116 #[.val (.long q0), .second, .val (.int j1), .val (.int j2), .val (.int j3), .val (.int j4), .val (.int j5), .val (.ref b_1), .val (.ref b_6), .val (.int aw), .val sv18, .val sv33, .val (.int (((j3.toUInt32 >>> ((3 : Int32) &&& 31).toUInt32).toInt32) % (3 : Int32))), .val (.ref stt), .val (.ref b59), .unset, .unset, .unset, .unset] [])) rfl (hb hby at_116) (by decide) (by decide)
  obtain ⟨b67, gg67⟩ : ∃ z, z = T65.heap.size := ⟨_, rfl⟩
  rw [← gg67] at A67 D67 st67
  have ne68 : b_1 ≠ b67 := Nat.ne_of_lt (Nat.lt_of_lt_of_le (Nat.lt_of_lt_of_le po1_2.lt (Nat.le_trans (Nat.le_trans (Nat.le_trans (Nat.le_trans Kq6.1 Kj18.1) Kj33.1) E59.1) Kq65.1)) (Nat.le_of_eq gg67.symm))
  have ne69 : b_6 ≠ b67 := Nat.ne_of_lt (Nat.lt_of_lt_of_le (Nat.lt_of_lt_of_le po6_2.lt (Nat.le_trans (Nat.le_trans (Nat.le_trans Kj18.1 Kj33.1) E59.1) Kq65.1)) (Nat.le_of_eq gg67.symm))
  have ne70 : b59 ≠ b67 := Nat.ne_of_lt (Nat.lt_of_lt_of_le (Nat.lt_of_lt_of_le A59.lt Kq65.1) (Nat.le_of_eq gg67.symm))
  have g71 : n0 ≤ b67 := Nat.le_trans (Nat.le_trans (own_le O0) K66.1) (Nat.le_of_eq gg67.symm)
  have b72 : h0.size ≤ b67 := Nat.le_trans K66.1 (Nat.le_of_eq gg67.symm)
  have K73 : Keep h0 h67 [] := K66.ext E67
  obtain ⟨Lg74, X74, N74⟩ : ∃ L' : List Loc, Stand p l e room_1 s m #[(.long q0), (.int j1), (.int j2), (.int j3), (.int j4), (.int j5)] below meth c T67 L' 14 38 ∧ Fr n0 L' := ⟨_, X67, N65⟩
  obtain ⟨_, _, ⟨T75, L75, k75, n75⟩, -, X75, ⟨Lc75, hQ75, l75, y75, z75⟩, st75⟩ := X74.specialBack hx (y := (⟨"java/util/ArrayList", "<init>", "()V"⟩ : MethodName)) rfl hown (mvT hZ (hw _ (List.mem_of_getElem? (i := 58) rfl))) (mvT hZ (hw _ (List.mem_of_getElem? (i := 59) rfl))) (mvT hZ (hw _ (List.mem_of_getElem? (i := 60) rfl))) (by decide) (backOf (W := 1) (own_alinit l Z a0 hw [] (b67) (dd) h67 n0 (O0.keep K73 all0) (A67) ((D67 (Or.inl (hw _ (List.mem_of_getElem? (i := 75) rfl))) (ty := .int) (by decide))) ((D67 (Or.inl (hw _ (List.mem_of_getElem? (i := 78) rfl))) (ty := (.array (.object "java/lang/Object"))) (by decide))) ((D67 (Or.inl (hw _ (List.mem_of_getElem? (i := 87) rfl))) (ty := .int) (by decide))) (g71) (hp6)) hZ (hw _ (List.mem_of_getElem? (i := 60) rfl)) (hw _ (List.mem_of_getElem? (i := 57) rfl)) (by decide) (by decide)) (g := (mkF m 120 #[.val (.long q0), .second, .val (.int j1), .val (.int j2), .val (.int j3), .val (.int j4), .val (.int j5), .val (.ref b_1), .val (.ref b_6), .val (.int aw), .val sv18, .val sv33, .val (.int (((j3.toUInt32 >>> ((3 : Int32) &&& 31).toUInt32).toInt32) % (3 : Int32))), .val (.ref stt), .val (.ref b59), .unset, .unset, .unset, .unset] [(.ref b67), (.ref b67)])) rfl (by rw [hml]; rfl) (Steps.refl _) (a := b67) (argsL := []) (rest := [(.ref b67)]) (lenOf own_pd0 rfl) rfl (by show 2 * 0 + _ ≤ _; exact Nat.le_of_eq rfl) (hb hby at_120) (fun _ _ => ⟨rfl, e67, (by decide : 14 + 0 ≤ _), (by decide : 38 + 0 ≤ _)⟩)
  dsimp only [Pt.U, Pt.locs, Pt.cells, Pt.slots] at X75 l75 y75 z75 st75 hQ75
  subst l75 y75 z75
  obtain ⟨rfl, Nq75, Kq75, po75_0, po75_1, po75_2, po75_3⟩ := hQ75
  have N75 := Fr.app N74 Nq75
  have K76 : Keep h0 T75.heap [] := K73.trans Kq75 (allS (Or.inr b72) all0)
  have f77 : Exa Z T75.heap b59 "com/example/myna/myna/orders/OrderLine" := ((po65_0.ext E67).keep Kq75)
  obtain ⟨cq78, kq78, qa78, qb78, qc78⟩ := isOf hZ rfl po75_0
  obtain ⟨_, _, ⟨T78, L78, k78, n78⟩, -, X78, ⟨Lc78, hQ78, l78, y78, z78⟩, st78⟩ := X75.virtualBack hx (y := (⟨"java/util/ArrayList", "add", "(Ljava/lang/Object;)Z"⟩ : MethodName)) (z := (⟨"java/util/ArrayList", "add", "(Ljava/lang/Object;)Z"⟩ : MethodName)) hown (mvT hZ (hw _ (List.mem_of_getElem? (i := 79) rfl))) (mvT hZ (hw _ (List.mem_of_getElem? (i := 80) rfl))) (notFace_of_selects (args := #[]) (mvT hZ (hw _ (List.mem_of_getElem? (i := 82) rfl)))) (mvT hZ (hw _ (List.mem_of_getElem? (i := 82) rfl))) (mvT hZ (hw _ (List.mem_of_getElem? (i := 81) rfl))) (by decide) (backOf (W := 0) (own_add l Z a0 hw [] (b67) (b59) ((0 : Int32)) (dd) (kd) T75.heap n0 (O0.keep K76 all0) (po75_0) (po75_1) (po75_2) (po75_3) (g71) (f77) (hp6) (hp7)) hZ (hw _ (List.mem_of_getElem? (i := 83) rfl)) (hw _ (List.mem_of_getElem? (i := 57) rfl)) (by decide) (by decide)) qa78 qc78 (g := (mkF m 129 #[.val (.long q0), .second, .val (.int j1), .val (.int j2), .val (.int j3), .val (.int j4), .val (.int j5), .val (.ref b_1), .val (.ref b_6), .val (.int aw), .val sv18, .val sv33, .val (.int (((j3.toUInt32 >>> ((3 : Int32) &&& 31).toUInt32).toInt32) % (3 : Int32))), .val (.ref stt), .val (.ref b59), .val (.ref b67), .unset, .unset, .unset] [(.ref b59), (.ref b67)])) rfl (by rw [hml]; rfl) (Steps.refl _) (argsL := [(.ref b59)]) (rest := []) (lenOf own_pd15 rfl) rfl (by show 2 * 0 + _ ≤ _; exact Nat.le_of_eq rfl) (hb hby at_129) (fun _ _ => ⟨rfl, rfl, (by decide : 14 + 1 ≤ _), (by decide : 38 + 10 ≤ _)⟩)
  dsimp only [Pt.U, Pt.locs, Pt.cells, Pt.slots] at X78 l78 y78 z78 st78 hQ78
  subst l78 y78 z78
  obtain ⟨b_78, kb_78, rfl, Nq78, Kq78, po78_0, po78_1, po78_2, po78_3, po78_4, po78_5, po78_6, po78_7, po78_8⟩ := hQ78
  have N78 := Fr.app N75 Nq78
  have ne79 : b_1 ≠ b_78 := Nat.ne_of_lt (Nat.lt_of_lt_of_le (Nat.lt_of_lt_of_le po1_2.lt (Nat.le_trans (Nat.le_trans (Nat.le_trans (Nat.le_trans (Nat.le_trans (Nat.le_trans Kq6.1 Kj18.1) Kj33.1) E59.1) Kq65.1) E67.1) Kq75.1)) po78_0)
  have ne80 : b_6 ≠ b_78 := Nat.ne_of_lt (Nat.lt_of_lt_of_le (Nat.lt_of_lt_of_le po6_2.lt (Nat.le_trans (Nat.le_trans (Nat.le_trans (Nat.le_trans (Nat.le_trans Kj18.1 Kj33.1) E59.1) Kq65.1) E67.1) Kq75.1)) po78_0)
  have ne81 : b59 ≠ b_78 := Nat.ne_of_lt (Nat.lt_of_lt_of_le (Nat.lt_of_lt_of_le A59.lt (Nat.le_trans (Nat.le_trans Kq65.1 E67.1) Kq75.1)) po78_0)
  have ne82 : b67 ≠ b_78 := Nat.ne_of_lt (Nat.lt_of_lt_of_le (Nat.lt_of_lt_of_le A67.lt Kq75.1) po78_0)
  have g83 : n0 ≤ b_78 := Nat.le_trans (Nat.le_trans (own_le O0) K76.1) po78_0
  have b84 : h0.size ≤ b_78 := Nat.le_trans K76.1 po78_0
  have K85 : Keep h0 T78.heap [] := K76.trans Kq78 (allS (Or.inr b72) all0)
  obtain ⟨T86, h86, X86, e86, E86, A86, D86, -, st86⟩ := newO X78 hx hZ hown (hw _ (List.mem_of_getElem? (i := 110) rfl)) (hw _ (List.mem_of_getElem? (i := 111) rfl)) (hw _ (List.mem_of_getElem? (i := 112) rfl)) rfl (g := (mkF m 133 #[.val (.long q0), .second, .val (.int j1), .val (.int j2), .val (.int j3), .val (.int j4), .val (.int j5), .val (.ref b_1), .val (.ref b_6), .val (.int aw), .val sv18, .val sv33, .val (.int (((j3.toUInt32 >>> ((3 : Int32) &&& 31).toUInt32).toInt32) % (3 : Int32))), .val (.ref stt), .val (.ref b59), .val (.ref b67), .unset, .unset, .unset] [])) rfl (hb hby at_133) (by decide) (by decide)
  obtain ⟨b86, gg86⟩ : ∃ z, z = T78.heap.size := ⟨_, rfl⟩
  rw [← gg86] at A86 D86 st86
  have ne87 : b_1 ≠ b86 := Nat.ne_of_lt (Nat.lt_of_lt_of_le (Nat.lt_of_lt_of_le po1_2.lt (Nat.le_trans (Nat.le_trans (Nat.le_trans (Nat.le_trans (Nat.le_trans (Nat.le_trans (Nat.le_trans Kq6.1 Kj18.1) Kj33.1) E59.1) Kq65.1) E67.1) Kq75.1) Kq78.1)) (Nat.le_of_eq gg86.symm))
  have ne88 : b_6 ≠ b86 := Nat.ne_of_lt (Nat.lt_of_lt_of_le (Nat.lt_of_lt_of_le po6_2.lt (Nat.le_trans (Nat.le_trans (Nat.le_trans (Nat.le_trans (Nat.le_trans (Nat.le_trans Kj18.1 Kj33.1) E59.1) Kq65.1) E67.1) Kq75.1) Kq78.1)) (Nat.le_of_eq gg86.symm))
  have ne89 : b59 ≠ b86 := Nat.ne_of_lt (Nat.lt_of_lt_of_le (Nat.lt_of_lt_of_le A59.lt (Nat.le_trans (Nat.le_trans (Nat.le_trans Kq65.1 E67.1) Kq75.1) Kq78.1)) (Nat.le_of_eq gg86.symm))
  have ne90 : b67 ≠ b86 := Nat.ne_of_lt (Nat.lt_of_lt_of_le (Nat.lt_of_lt_of_le A67.lt (Nat.le_trans Kq75.1 Kq78.1)) (Nat.le_of_eq gg86.symm))
  have ne91 : b_78 ≠ b86 := Nat.ne_of_lt (Nat.lt_of_lt_of_le po78_6.lt (Nat.le_of_eq gg86.symm))
  have g92 : n0 ≤ b86 := Nat.le_trans (Nat.le_trans (own_le O0) K85.1) (Nat.le_of_eq gg86.symm)
  have b93 : h0.size ≤ b86 := Nat.le_trans K85.1 (Nat.le_of_eq gg86.symm)
  have K94 : Keep h0 h86 [] := K85.ext E86
  obtain ⟨T95, h95, X95, e95, E95, A95, D95, -, st95⟩ := newO X86 hx hZ hown (hw _ (List.mem_of_getElem? (i := 55) rfl)) (hw _ (List.mem_of_getElem? (i := 56) rfl)) (hw _ (List.mem_of_getElem? (i := 57) rfl)) e86 (g := (mkF m 150 #[.val (.long q0), .second, .val (.int j1), .val (.int j2), .val (.int j3), .val (.int j4), .val (.int j5), .val (.ref b_1), .val (.ref b_6), .val (.int aw), .val sv18, .val sv33, .val (.int (((j3.toUInt32 >>> ((3 : Int32) &&& 31).toUInt32).toInt32) % (3 : Int32))), .val (.ref stt), .val (.ref b59), .val (.ref b67), .unset, .unset, .unset] [(.ref b67), (.int aw), sv18, (.ref stt), (.ref b_6), (.ref b_1), (.long q0), (.ref b86), (.ref b86)])) rfl (hb hby at_150) (by decide) (by decide)
  obtain ⟨b95, gg95⟩ : ∃ z, z = h86.size := ⟨_, rfl⟩
  rw [← gg95] at A95 D95 st95
  have ne96 : b_1 ≠ b95 := Nat.ne_of_lt (Nat.lt_of_lt_of_le (Nat.lt_of_lt_of_le po1_2.lt (Nat.le_trans (Nat.le_trans (Nat.le_trans (Nat.le_trans (Nat.le_trans (Nat.le_trans (Nat.le_trans (Nat.le_trans Kq6.1 Kj18.1) Kj33.1) E59.1) Kq65.1) E67.1) Kq75.1) Kq78.1) E86.1)) (Nat.le_of_eq gg95.symm))
  have ne97 : b_6 ≠ b95 := Nat.ne_of_lt (Nat.lt_of_lt_of_le (Nat.lt_of_lt_of_le po6_2.lt (Nat.le_trans (Nat.le_trans (Nat.le_trans (Nat.le_trans (Nat.le_trans (Nat.le_trans (Nat.le_trans Kj18.1 Kj33.1) E59.1) Kq65.1) E67.1) Kq75.1) Kq78.1) E86.1)) (Nat.le_of_eq gg95.symm))
  have ne98 : b59 ≠ b95 := Nat.ne_of_lt (Nat.lt_of_lt_of_le (Nat.lt_of_lt_of_le A59.lt (Nat.le_trans (Nat.le_trans (Nat.le_trans (Nat.le_trans Kq65.1 E67.1) Kq75.1) Kq78.1) E86.1)) (Nat.le_of_eq gg95.symm))
  have ne99 : b67 ≠ b95 := Nat.ne_of_lt (Nat.lt_of_lt_of_le (Nat.lt_of_lt_of_le A67.lt (Nat.le_trans (Nat.le_trans Kq75.1 Kq78.1) E86.1)) (Nat.le_of_eq gg95.symm))
  have ne100 : b_78 ≠ b95 := Nat.ne_of_lt (Nat.lt_of_lt_of_le (Nat.lt_of_lt_of_le po78_6.lt E86.1) (Nat.le_of_eq gg95.symm))
  have ne101 : b86 ≠ b95 := Nat.ne_of_lt (Nat.lt_of_lt_of_le A86.lt (Nat.le_of_eq gg95.symm))
  have g102 : n0 ≤ b95 := Nat.le_trans (Nat.le_trans (own_le O0) K94.1) (Nat.le_of_eq gg95.symm)
  have b103 : h0.size ≤ b95 := Nat.le_trans K94.1 (Nat.le_of_eq gg95.symm)
  have K104 : Keep h0 h95 [] := K94.ext E95
  obtain ⟨Lg105, X105, N105⟩ : ∃ L' : List Loc, Stand p l e room_1 s m #[(.long q0), (.int j1), (.int j2), (.int j3), (.int j4), (.int j5)] below meth c T95 L' 17 59 ∧ Fr n0 L' := ⟨_, X95, N78⟩
  obtain ⟨_, _, ⟨T106, L106, k106, n106⟩, -, X106, ⟨Lc106, hQ106, l106, y106, z106⟩, st106⟩ := X105.specialBack hx (y := (⟨"java/util/ArrayList", "<init>", "()V"⟩ : MethodName)) rfl hown (mvT hZ (hw _ (List.mem_of_getElem? (i := 58) rfl))) (mvT hZ (hw _ (List.mem_of_getElem? (i := 59) rfl))) (mvT hZ (hw _ (List.mem_of_getElem? (i := 60) rfl))) (by decide) (backOf (W := 11) (own_alinit l Z a0 hw [] (b95) (dd) h95 n0 (O0.keep K104 all0) (A95) ((D95 (Or.inl (hw _ (List.mem_of_getElem? (i := 75) rfl))) (ty := .int) (by decide))) ((D95 (Or.inl (hw _ (List.mem_of_getElem? (i := 78) rfl))) (ty := (.array (.object "java/lang/Object"))) (by decide))) ((D95 (Or.inl (hw _ (List.mem_of_getElem? (i := 87) rfl))) (ty := .int) (by decide))) (g102) (hp6)) hZ (hw _ (List.mem_of_getElem? (i := 60) rfl)) (hw _ (List.mem_of_getElem? (i := 57) rfl)) (by decide) (by decide)) (g := (mkF m 154 #[.val (.long q0), .second, .val (.int j1), .val (.int j2), .val (.int j3), .val (.int j4), .val (.int j5), .val (.ref b_1), .val (.ref b_6), .val (.int aw), .val sv18, .val sv33, .val (.int (((j3.toUInt32 >>> ((3 : Int32) &&& 31).toUInt32).toInt32) % (3 : Int32))), .val (.ref stt), .val (.ref b59), .val (.ref b67), .unset, .unset, .unset] [(.ref b95), (.ref b95), (.ref b67), (.int aw), sv18, (.ref stt), (.ref b_6), (.ref b_1), (.long q0), (.ref b86), (.ref b86)])) rfl (by rw [hml]; rfl) (Steps.refl _) (a := b95) (argsL := []) (rest := [(.ref b95), (.ref b67), (.int aw), sv18, (.ref stt), (.ref b_6), (.ref b_1), (.long q0), (.ref b86), (.ref b86)]) (lenOf own_pd0 rfl) rfl (by show 2 * 0 + _ ≤ _; simp [own_cI, own_cJ, own_cR, own_cN, (own_cat (own_NS.ref hs18))]) (hb hby at_154) (fun _ _ => ⟨rfl, e95, (by decide : 17 + 0 ≤ _), (by decide : 59 + 0 ≤ _)⟩)
  dsimp only [Pt.U, Pt.locs, Pt.cells, Pt.slots] at X106 l106 y106 z106 st106 hQ106
  subst l106 y106 z106
  obtain ⟨rfl, Nq106, Kq106, po106_0, po106_1, po106_2, po106_3⟩ := hQ106
  have N106 := Fr.app N105 Nq106
  have K107 : Keep h0 T106.heap [] := K104.trans Kq106 (allS (Or.inr b103) all0)
  have f108 : Exa Z T106.heap b86 "com/example/myna/myna/orders/Order" := ((A86.ext E95).keep Kq106)
  have f109 : Fld Z T106.heap b86 "com/example/myna/myna/orders/Order" "id" "J" (.long (0 : Int64)) := (((D86 (Or.inr (hw _ (List.mem_of_getElem? (i := 208) rfl))) (ty := .long) (by decide)).ext E95).keep Kq106 (ninS ne101 nin0))
  have f110 : Fld Z T106.heap b86 "com/example/myna/myna/orders/Order" "channel" "Ljava/lang/String;" .null := (((D86 (Or.inr (hw _ (List.mem_of_getElem? (i := 210) rfl))) (ty := (.object "java/lang/String")) (by decide)).ext E95).keep Kq106 (ninS ne101 nin0))
  have f111 : Fld Z T106.heap b86 "com/example/myna/myna/orders/Order" "externalId" "Ljava/lang/String;" .null := (((D86 (Or.inr (hw _ (List.mem_of_getElem? (i := 212) rfl))) (ty := (.object "java/lang/String")) (by decide)).ext E95).keep Kq106 (ninS ne101 nin0))
  have f112 : Fld Z T106.heap b86 "com/example/myna/myna/orders/Order" "state" "Lcom/example/myna/myna/orders/Order$State;" .null := (((D86 (Or.inr (hw _ (List.mem_of_getElem? (i := 214) rfl))) (ty := (.object "com/example/myna/myna/orders/Order$State")) (by decide)).ext E95).keep Kq106 (ninS ne101 nin0))
  have f113 : Fld Z T106.heap b86 "com/example/myna/myna/orders/Order" "externalState" "Ljava/lang/String;" .null := (((D86 (Or.inr (hw _ (List.mem_of_getElem? (i := 216) rfl))) (ty := (.object "java/lang/String")) (by decide)).ext E95).keep Kq106 (ninS ne101 nin0))
  have f114 : Fld Z T106.heap b86 "com/example/myna/myna/orders/Order" "awaitingAcknowledgement" "Z" (.int (0 : Int32)) := (((D86 (Or.inr (hw _ (List.mem_of_getElem? (i := 218) rfl))) (ty := .boolean) (by decide)).ext E95).keep Kq106 (ninS ne101 nin0))
  have f115 : Fld Z T106.heap b86 "com/example/myna/myna/orders/Order" "lines" "Ljava/util/List;" .null := (((D86 (Or.inr (hw _ (List.mem_of_getElem? (i := 220) rfl))) (ty := (.object "java/util/List")) (by decide)).ext E95).keep Kq106 (ninS ne101 nin0))
  have f116 : Fld Z T106.heap b86 "com/example/myna/myna/orders/Order" "payments" "Ljava/util/List;" .null := (((D86 (Or.inr (hw _ (List.mem_of_getElem? (i := 222) rfl))) (ty := (.object "java/util/List")) (by decide)).ext E95).keep Kq106 (ninS ne101 nin0))
  have f117 : Exa Z T106.heap b67 "java/util/ArrayList" := (((po78_2.ext E86).ext E95).keep Kq106)
  have f118 : Fld Z T106.heap b67 "java/util/ArrayList" "elementData" "[Ljava/lang/Object;" (.ref b_78) := (((po78_4.ext E86).ext E95).keep Kq106 (ninS ne99 nin0))
  have f119 : Fld Z T106.heap b67 "java/util/ArrayList" "size" "I" (.int (1 : Int32)) := (((po78_5.ext E86).ext E95).keep Kq106 (ninS ne99 nin0))
  have f120 : Arv Z T106.heap b_78 kb_78 (.object "java/lang/Object") (10 : Int32) [(.ref b59), .null, .null, .null, .null, .null, .null, .null, .null, .null] .null := (((po78_6.ext E86).ext E95).keep Kq106 (ninS ne100 nin0))
  have f121 : Exa Z T106.heap b_78 "[Ljava/lang/Object;" := (((po78_8.ext E86).ext E95).keep Kq106)
  have f122 : Exa Z T106.heap b59 "com/example/myna/myna/orders/OrderLine" := ((((f77.keep Kq78).ext E86).ext E95).keep Kq106)
  obtain ⟨_, _, ⟨T123, L123, k123, n123⟩, -, X123, ⟨Lc123, hQ123, l123, y123, z123⟩, st123⟩ := X106.specialBack hx (y := (⟨"com/example/myna/myna/orders/Order", "<init>", "(JLjava/lang/String;Ljava/lang/String;Lcom/example/myna/myna/orders/Order$State;Ljava/lang/String;ZLjava/util/List;Ljava/util/List;)V"⟩ : MethodName)) rfl hown (mvT hZ (hw _ (List.mem_of_getElem? (i := 113) rfl))) (mvT hZ (hw _ (List.mem_of_getElem? (i := 114) rfl))) (mvT hZ (hw _ (List.mem_of_getElem? (i := 115) rfl))) (by decide) (backOf (W := 1) (own_ord1 l Z a0 hw [] (b86) (q0) (b_1) (b_6) (stt) (sv18) (aw) (b67) (b95) (b_78) (kb_78) (b59) (mr) (em) (el) T106.heap n0 (O0.keep K107 all0) ((own_NS.ref hs18)) (hn_aw) (f108) (g92) ((Ne.symm ne91)) ((Ne.symm ne89)) (f109) (f110) (f111) (f112) (f113) (f114) (f115) (f116) (f117) (f118) (f119) (f120) (f121) (f122) (po106_0) (po106_3) (hMir) (hp8) (hp9)) hZ (hw _ (List.mem_of_getElem? (i := 115) rfl)) (hw _ (List.mem_of_getElem? (i := 112) rfl)) (by decide) (by decide)) (g := (mkF m 157 #[.val (.long q0), .second, .val (.int j1), .val (.int j2), .val (.int j3), .val (.int j4), .val (.int j5), .val (.ref b_1), .val (.ref b_6), .val (.int aw), .val sv18, .val sv33, .val (.int (((j3.toUInt32 >>> ((3 : Int32) &&& 31).toUInt32).toInt32) % (3 : Int32))), .val (.ref stt), .val (.ref b59), .val (.ref b67), .unset, .unset, .unset] [(.ref b95), (.ref b67), (.int aw), sv18, (.ref stt), (.ref b_6), (.ref b_1), (.long q0), (.ref b86), (.ref b86)])) rfl (by rw [hml]; rfl) (Steps.refl _) (a := b86) (argsL := [(.long q0), (.ref b_1), (.ref b_6), (.ref stt), sv18, (.int aw), (.ref b67), (.ref b95)]) (rest := [(.ref b86)]) (lenOf own_pd14 rfl) rfl (by show 2 * 0 + _ ≤ _; exact Nat.le_of_eq rfl) (hb hby at_157) (fun _ _ => ⟨rfl, rfl, (by decide : 17 + 2 ≤ _), (by decide : 59 + 3 ≤ _)⟩)
  dsimp only [Pt.U, Pt.locs, Pt.cells, Pt.slots] at X123 l123 y123 z123 st123 hQ123
  subst l123 y123 z123
  obtain ⟨b_123, rfl, Nq123, Kq123, po123_0, po123_1, po123_2, po123_3, po123_4, po123_5, po123_6, po123_7, po123_8, po123_9, po123_10, po123_11, po123_12, po123_13⟩ := hQ123
  have N123 := Fr.app N106 Nq123
  have ne124 : b_1 ≠ b_123 := Nat.ne_of_lt (Nat.lt_of_lt_of_le (Nat.lt_of_lt_of_le po1_2.lt (Nat.le_trans (Nat.le_trans (Nat.le_trans (Nat.le_trans (Nat.le_trans (Nat.le_trans (Nat.le_trans (Nat.le_trans (Nat.le_trans (Nat.le_trans Kq6.1 Kj18.1) Kj33.1) E59.1) Kq65.1) E67.1) Kq75.1) Kq78.1) E86.1) E95.1) Kq106.1)) po123_0)
  have ne125 : b_6 ≠ b_123 := Nat.ne_of_lt (Nat.lt_of_lt_of_le (Nat.lt_of_lt_of_le po6_2.lt (Nat.le_trans (Nat.le_trans (Nat.le_trans (Nat.le_trans (Nat.le_trans (Nat.le_trans (Nat.le_trans (Nat.le_trans (Nat.le_trans Kj18.1 Kj33.1) E59.1) Kq65.1) E67.1) Kq75.1) Kq78.1) E86.1) E95.1) Kq106.1)) po123_0)
  have ne126 : b59 ≠ b_123 := Nat.ne_of_lt (Nat.lt_of_lt_of_le (Nat.lt_of_lt_of_le A59.lt (Nat.le_trans (Nat.le_trans (Nat.le_trans (Nat.le_trans (Nat.le_trans (Nat.le_trans Kq65.1 E67.1) Kq75.1) Kq78.1) E86.1) E95.1) Kq106.1)) po123_0)
  have ne127 : b67 ≠ b_123 := Nat.ne_of_lt (Nat.lt_of_lt_of_le (Nat.lt_of_lt_of_le A67.lt (Nat.le_trans (Nat.le_trans (Nat.le_trans (Nat.le_trans Kq75.1 Kq78.1) E86.1) E95.1) Kq106.1)) po123_0)
  have ne128 : b_78 ≠ b_123 := Nat.ne_of_lt (Nat.lt_of_lt_of_le (Nat.lt_of_lt_of_le po78_6.lt (Nat.le_trans (Nat.le_trans E86.1 E95.1) Kq106.1)) po123_0)
  have ne129 : b86 ≠ b_123 := Nat.ne_of_lt (Nat.lt_of_lt_of_le (Nat.lt_of_lt_of_le A86.lt (Nat.le_trans E95.1 Kq106.1)) po123_0)
  have ne130 : b95 ≠ b_123 := Nat.ne_of_lt (Nat.lt_of_lt_of_le (Nat.lt_of_lt_of_le A95.lt Kq106.1) po123_0)
  have g131 : n0 ≤ b_123 := Nat.le_trans (Nat.le_trans (own_le O0) K107.1) po123_0
  have b132 : h0.size ≤ b_123 := Nat.le_trans K107.1 po123_0
  have K133 : Keep h0 T123.heap [] := K107.trans Kq123 (allS (Or.inr b93) all0)
  obtain ⟨Lg134, X134, N134⟩ : ∃ L' : List Loc, Stand p l e room_1 s m #[(.long q0), (.int j1), (.int j2), (.int j3), (.int j4), (.int j5)] below meth c T123 L' 19 62 ∧ Fr n0 L' := ⟨_, X123, N123⟩
  obtain ⟨cq135, kq135, qa135, qb135, qc135⟩ := isOf hZ rfl po123_5
  obtain ⟨_, _, ⟨T135, L135, k135, n135⟩, -, X135, ⟨Lc135, hQ135, l135, y135, z135⟩, st135⟩ := X134.virtualBack hx (y := (⟨"com/example/myna/myna/orders/Order", "withExternalState", "(Ljava/lang/String;)Lcom/example/myna/myna/orders/Order;"⟩ : MethodName)) (z := (⟨"com/example/myna/myna/orders/Order", "withExternalState", "(Ljava/lang/String;)Lcom/example/myna/myna/orders/Order;"⟩ : MethodName)) hown (mvT hZ (hw _ (List.mem_of_getElem? (i := 223) rfl))) (mvT hZ (hw _ (List.mem_of_getElem? (i := 224) rfl))) (notFace_of_selects (args := #[]) (mvT hZ (hw _ (List.mem_of_getElem? (i := 226) rfl)))) (mvT hZ (hw _ (List.mem_of_getElem? (i := 226) rfl))) (mvT hZ (hw _ (List.mem_of_getElem? (i := 225) rfl))) (by decide) (backOf (W := 0) (own_wes l Z a0 hw [] (b86) (sv33) (q0) (b_1) (b_6) (stt) (sv18) (aw) (b_123) (el) T123.heap n0 (O0.keep K133 all0) ((own_NS.ref hs33)) ((own_NS.ref hs18)) (hn_aw) (po123_6) (po123_7) (po123_8) (po123_9) (po123_10) (po123_11) (po123_12) (po123_13) (po123_2) (hp10) (hp11)) hZ (hw _ (List.mem_of_getElem? (i := 227) rfl)) (hw _ (List.mem_of_getElem? (i := 112) rfl)) (by decide) (by decide)) qa135 qc135 (g := (mkF m 166 #[.val (.long q0), .second, .val (.int j1), .val (.int j2), .val (.int j3), .val (.int j4), .val (.int j5), .val (.ref b_1), .val (.ref b_6), .val (.int aw), .val sv18, .val sv33, .val (.int (((j3.toUInt32 >>> ((3 : Int32) &&& 31).toUInt32).toInt32) % (3 : Int32))), .val (.ref stt), .val (.ref b59), .val (.ref b67), .val (.ref b86), .unset, .unset] [sv33, (.ref b86)])) rfl (by rw [hml]; rfl) (Steps.refl _) (argsL := [sv33]) (rest := []) (lenOf own_pd18 rfl) rfl (by show 2 * 0 + _ ≤ _; exact Nat.le_of_eq rfl) (hb hby at_166) (fun _ _ => ⟨rfl, rfl, (by decide : 19 + 1 ≤ _), (by decide : 62 + 8 ≤ _)⟩)
  dsimp only [Pt.U, Pt.locs, Pt.cells, Pt.slots] at X135 l135 y135 z135 st135 hQ135
  subst l135 y135 z135
  obtain ⟨b_135, rfl, Nq135, Kq135, po135_0, po135_1, po135_2, po135_3, po135_4, po135_5, po135_6, po135_7, po135_8, po135_9, po135_10⟩ := hQ135
  have N135 := Fr.app N134 Nq135
  have ne136 : b_1 ≠ b_135 := Nat.ne_of_lt (Nat.lt_of_lt_of_le (Nat.lt_of_lt_of_le po1_2.lt (Nat.le_trans (Nat.le_trans (Nat.le_trans (Nat.le_trans (Nat.le_trans (Nat.le_trans (Nat.le_trans (Nat.le_trans (Nat.le_trans (Nat.le_trans (Nat.le_trans Kq6.1 Kj18.1) Kj33.1) E59.1) Kq65.1) E67.1) Kq75.1) Kq78.1) E86.1) E95.1) Kq106.1) Kq123.1)) po135_0)
  have ne137 : b_6 ≠ b_135 := Nat.ne_of_lt (Nat.lt_of_lt_of_le (Nat.lt_of_lt_of_le po6_2.lt (Nat.le_trans (Nat.le_trans (Nat.le_trans (Nat.le_trans (Nat.le_trans (Nat.le_trans (Nat.le_trans (Nat.le_trans (Nat.le_trans (Nat.le_trans Kj18.1 Kj33.1) E59.1) Kq65.1) E67.1) Kq75.1) Kq78.1) E86.1) E95.1) Kq106.1) Kq123.1)) po135_0)
  have ne138 : b59 ≠ b_135 := Nat.ne_of_lt (Nat.lt_of_lt_of_le (Nat.lt_of_lt_of_le A59.lt (Nat.le_trans (Nat.le_trans (Nat.le_trans (Nat.le_trans (Nat.le_trans (Nat.le_trans (Nat.le_trans Kq65.1 E67.1) Kq75.1) Kq78.1) E86.1) E95.1) Kq106.1) Kq123.1)) po135_0)
  have ne139 : b67 ≠ b_135 := Nat.ne_of_lt (Nat.lt_of_lt_of_le (Nat.lt_of_lt_of_le A67.lt (Nat.le_trans (Nat.le_trans (Nat.le_trans (Nat.le_trans (Nat.le_trans Kq75.1 Kq78.1) E86.1) E95.1) Kq106.1) Kq123.1)) po135_0)
  have ne140 : b_78 ≠ b_135 := Nat.ne_of_lt (Nat.lt_of_lt_of_le (Nat.lt_of_lt_of_le po78_6.lt (Nat.le_trans (Nat.le_trans (Nat.le_trans E86.1 E95.1) Kq106.1) Kq123.1)) po135_0)
  have ne141 : b86 ≠ b_135 := Nat.ne_of_lt (Nat.lt_of_lt_of_le (Nat.lt_of_lt_of_le A86.lt (Nat.le_trans (Nat.le_trans E95.1 Kq106.1) Kq123.1)) po135_0)
  have ne142 : b95 ≠ b_135 := Nat.ne_of_lt (Nat.lt_of_lt_of_le (Nat.lt_of_lt_of_le A95.lt (Nat.le_trans Kq106.1 Kq123.1)) po135_0)
  have ne143 : b_123 ≠ b_135 := Nat.ne_of_lt (Nat.lt_of_lt_of_le po123_2.lt po135_0)
  have g144 : n0 ≤ b_135 := Nat.le_trans (Nat.le_trans (own_le O0) K133.1) po135_0
  have b145 : h0.size ≤ b_135 := Nat.le_trans K133.1 po135_0
  have K146 : Keep h0 T135.heap [] := K133.trans Kq135 all0
  obtain ⟨cq147, kq147, qa147, qb147, qc147⟩ := isOf hZ rfl po135_2
  obtain ⟨_, _, ⟨T147, L147, k147, n147⟩, -, X147, ⟨Lc147, hQ147, l147, y147, z147⟩, st147⟩ := X135.virtualBack hx (y := (⟨"com/example/myna/myna/orders/Order", "lines", "()Ljava/util/List;"⟩ : MethodName)) (z := (⟨"com/example/myna/myna/orders/Order", "lines", "()Ljava/util/List;"⟩ : MethodName)) hown (mvT hZ (hw _ (List.mem_of_getElem? (i := 239) rfl))) (mvT hZ (hw _ (List.mem_of_getElem? (i := 240) rfl))) (notFace_of_selects (args := #[]) (mvT hZ (hw _ (List.mem_of_getElem? (i := 242) rfl)))) (mvT hZ (hw _ (List.mem_of_getElem? (i := 242) rfl))) (mvT hZ (hw _ (List.mem_of_getElem? (i := 241) rfl))) (by decide) (backOf (W := 0) (own_g_lines l Z a0 hw [] (b_135) (b_123) T135.heap n0 (O0.keep K146 all0) (po135_9)) hZ (hw _ (List.mem_of_getElem? (i := 243) rfl)) (hw _ (List.mem_of_getElem? (i := 112) rfl)) (by decide) (by decide)) qa147 qc147 (g := (mkF m 173 #[.val (.long q0), .second, .val (.int j1), .val (.int j2), .val (.int j3), .val (.int j4), .val (.int j5), .val (.ref b_1), .val (.ref b_6), .val (.int aw), .val sv18, .val sv33, .val (.int (((j3.toUInt32 >>> ((3 : Int32) &&& 31).toUInt32).toInt32) % (3 : Int32))), .val (.ref stt), .val (.ref b59), .val (.ref b67), .val (.ref b86), .val (.ref b_135), .unset] [(.ref b_135)])) rfl (by rw [hml]; rfl) (Steps.refl _) (argsL := []) (rest := []) (lenOf own_pd12 rfl) rfl (by show 2 * 0 + _ ≤ _; exact Nat.le_of_eq rfl) (hb hby at_173) (fun _ _ => ⟨rfl, rfl, (by decide : 20 + 0 ≤ _), (by decide : 70 + 0 ≤ _)⟩)
  dsimp only [Pt.U, Pt.locs, Pt.cells, Pt.slots] at X147 l147 y147 z147 st147 hQ147
  subst l147 y147 z147
  obtain ⟨rfl, Nq147, hh147⟩ := hQ147
  have N147 := Fr.app N135 Nq147
  obtain ⟨Lg148, X148, N148⟩ : ∃ L' : List Loc, Stand p l e room_1 s m #[(.long q0), (.int j1), (.int j2), (.int j3), (.int j4), (.int j5)] below meth c T147 L' 20 70 ∧ Fr n0 L' := ⟨_, X147, N147⟩
  obtain ⟨cq149, kq149, qa149, qb149, qc149⟩ := isOf hZ hh147 po135_2
  obtain ⟨_, _, ⟨T149, L149, k149, n149⟩, -, X149, ⟨Lc149, hQ149, l149, y149, z149⟩, st149⟩ := X148.virtualBack hx (y := (⟨"com/example/myna/myna/orders/Order", "id", "()J"⟩ : MethodName)) (z := (⟨"com/example/myna/myna/orders/Order", "id", "()J"⟩ : MethodName)) hown (mvT hZ (hw _ (List.mem_of_getElem? (i := 244) rfl))) (mvT hZ (hw _ (List.mem_of_getElem? (i := 245) rfl))) (notFace_of_selects (args := #[]) (mvT hZ (hw _ (List.mem_of_getElem? (i := 247) rfl)))) (mvT hZ (hw _ (List.mem_of_getElem? (i := 247) rfl))) (mvT hZ (hw _ (List.mem_of_getElem? (i := 246) rfl))) (by decide) (backOf (W := 0) (own_g_id l Z a0 hw [] (b_135) (q0) T135.heap n0 (O0.keep K146 all0) (po135_3)) hZ (hw _ (List.mem_of_getElem? (i := 248) rfl)) (hw _ (List.mem_of_getElem? (i := 112) rfl)) (by decide) (by decide)) qa149 qc149 (g := (mkF m 180 #[.val (.long q0), .second, .val (.int j1), .val (.int j2), .val (.int j3), .val (.int j4), .val (.int j5), .val (.ref b_1), .val (.ref b_6), .val (.int aw), .val sv18, .val sv33, .val (.int (((j3.toUInt32 >>> ((3 : Int32) &&& 31).toUInt32).toInt32) % (3 : Int32))), .val (.ref stt), .val (.ref b59), .val (.ref b67), .val (.ref b86), .val (.ref b_135), .val (.ref b_123)] [(.ref b_135)])) rfl (by rw [hml]; rfl) (Steps.refl _) (argsL := []) (rest := []) (lenOf own_pd19 rfl) rfl (by show 2 * 0 + _ ≤ _; exact Nat.le_of_eq rfl) (hb hby at_180) (fun _ _ => ⟨rfl, hh147, (by decide : 20 + 0 ≤ _), (by decide : 70 + 0 ≤ _)⟩)
  dsimp only [Pt.U, Pt.locs, Pt.cells, Pt.slots] at X149 l149 y149 z149 st149 hQ149
  subst l149 y149 z149
  obtain ⟨rfl, Nq149, hh149⟩ := hQ149
  have N149 := Fr.app N148 Nq149
  obtain ⟨cq150, kq150, qa150, qb150, qc150⟩ := isOf hZ hh149 po135_2
  obtain ⟨_, _, ⟨T150, L150, k150, n150⟩, -, X150, ⟨Lc150, hQ150, l150, y150, z150⟩, st150⟩ := X149.virtualBack hx (y := (⟨"com/example/myna/myna/orders/Order", "channel", "()Ljava/lang/String;"⟩ : MethodName)) (z := (⟨"com/example/myna/myna/orders/Order", "channel", "()Ljava/lang/String;"⟩ : MethodName)) hown (mvT hZ (hw _ (List.mem_of_getElem? (i := 249) rfl))) (mvT hZ (hw _ (List.mem_of_getElem? (i := 250) rfl))) (notFace_of_selects (args := #[]) (mvT hZ (hw _ (List.mem_of_getElem? (i := 252) rfl)))) (mvT hZ (hw _ (List.mem_of_getElem? (i := 252) rfl))) (mvT hZ (hw _ (List.mem_of_getElem? (i := 251) rfl))) (by decide) (backOf (W := 0) (own_g_channel l Z a0 hw [] (b_135) (b_1) T135.heap n0 (O0.keep K146 all0) (po135_4)) hZ (hw _ (List.mem_of_getElem? (i := 253) rfl)) (hw _ (List.mem_of_getElem? (i := 112) rfl)) (by decide) (by decide)) qa150 qc150 (g := (mkF m 190 #[.val (.long q0), .second, .val (.int j1), .val (.int j2), .val (.int j3), .val (.int j4), .val (.int j5), .val (.ref b_1), .val (.ref b_6), .val (.int aw), .val sv18, .val sv33, .val (.int (((j3.toUInt32 >>> ((3 : Int32) &&& 31).toUInt32).toInt32) % (3 : Int32))), .val (.ref stt), .val (.ref b59), .val (.ref b67), .val (.ref b86), .val (.ref b_135), .val (.ref b_123)] [(.ref b_135)])) rfl (by rw [hml]; rfl) (Steps.refl _) (argsL := []) (rest := []) (lenOf own_pd20 rfl) rfl (by show 2 * 0 + _ ≤ _; exact Nat.le_of_eq rfl) (hb hby at_190) (fun _ _ => ⟨rfl, hh149, (by decide : 20 + 0 ≤ _), (by decide : 70 + 0 ≤ _)⟩)
  dsimp only [Pt.U, Pt.locs, Pt.cells, Pt.slots] at X150 l150 y150 z150 st150 hQ150
  subst l150 y150 z150
  obtain ⟨rfl, Nq150, hh150⟩ := hQ150
  have N150 := Fr.app N149 Nq150
  obtain ⟨Lg151, X151, N151⟩ : ∃ L' : List Loc, Stand p l e room_1 s m #[(.long q0), (.int j1), (.int j2), (.int j3), (.int j4), (.int j5)] below meth c T150 L' 20 70 ∧ Fr n0 L' := ⟨_, X150, N150⟩
  have f152 : Exa Z T135.heap b_1 "java/lang/String" := (((((((((((((po1_2.keep Kq6).keep Kj18).keep Kj33).ext E59).keep Kq65).ext E67).keep Kq75).keep Kq78).ext E86).ext E95).keep Kq106).keep Kq123).keep Kq135)
  obtain ⟨_, _, ⟨T153, L153, k153, n153⟩, -, X153, ⟨Lc153, hQ153, l153, y153, z153⟩, st153⟩ := Jvm.LawKit.callS X151 hx (y := (⟨"com/example/myna/myna/orders/OrderWithExternalStatePinLaw", "same", "(Ljava/lang/String;Ljava/lang/String;)Z"⟩ : MethodName)) hown (mvT hZ (hw _ (List.mem_of_getElem? (i := 254) rfl))) (mvT hZ (hw _ (List.mem_of_getElem? (i := 255) rfl))) (mvT hZ (hw _ (List.mem_of_getElem? (i := 2) rfl))) (mvT hZ (hw _ (List.mem_of_getElem? (i := 256) rfl))) (by decide) (backOf (W := 0) (own_same l Z a0 hw [] ((.ref b_1)) T135.heap n0 (O0.keep K146 all0) (rfl) ((Or.inr ⟨_, rfl, f152⟩))) hZ (hw _ (List.mem_of_getElem? (i := 256) rfl)) (hw _ (List.mem_of_getElem? (i := 2) rfl)) (by decide) (by decide)) (g := (mkF m 195 #[.val (.long q0), .second, .val (.int j1), .val (.int j2), .val (.int j3), .val (.int j4), .val (.int j5), .val (.ref b_1), .val (.ref b_6), .val (.int aw), .val sv18, .val sv33, .val (.int (((j3.toUInt32 >>> ((3 : Int32) &&& 31).toUInt32).toInt32) % (3 : Int32))), .val (.ref stt), .val (.ref b59), .val (.ref b67), .val (.ref b86), .val (.ref b_135), .val (.ref b_123)] [(.ref b_1), (.ref b_1)])) rfl (by rw [hml]; rfl) (argsL := [(.ref b_1), (.ref b_1)]) (rest := []) (lenOf own_pd21 rfl) rfl (by show 2 * 0 + _ ≤ _; exact Nat.le_of_eq rfl) (hb hby at_195) (fun _ _ => ⟨rfl, hh150, (by decide : 20 + 0 ≤ _), (by decide : 70 + 0 ≤ _)⟩)
  dsimp only [Pt.U, Pt.locs, Pt.cells, Pt.slots] at X153 l153 y153 z153 st153 hQ153
  subst l153 y153 z153
  obtain ⟨rfl, Nq153, hh153⟩ := hQ153
  have N153 := Fr.app N151 Nq153
  obtain ⟨cq154, kq154, qa154, qb154, qc154⟩ := isOf hZ hh153 po135_2
  obtain ⟨_, _, ⟨T154, L154, k154, n154⟩, -, X154, ⟨Lc154, hQ154, l154, y154, z154⟩, st154⟩ := X153.virtualBack hx (y := (⟨"com/example/myna/myna/orders/Order", "externalId", "()Ljava/lang/String;"⟩ : MethodName)) (z := (⟨"com/example/myna/myna/orders/Order", "externalId", "()Ljava/lang/String;"⟩ : MethodName)) hown (mvT hZ (hw _ (List.mem_of_getElem? (i := 262) rfl))) (mvT hZ (hw _ (List.mem_of_getElem? (i := 263) rfl))) (notFace_of_selects (args := #[]) (mvT hZ (hw _ (List.mem_of_getElem? (i := 265) rfl)))) (mvT hZ (hw _ (List.mem_of_getElem? (i := 265) rfl))) (mvT hZ (hw _ (List.mem_of_getElem? (i := 264) rfl))) (by decide) (backOf (W := 0) (own_g_externalId l Z a0 hw [] (b_135) (b_6) T135.heap n0 (O0.keep K146 all0) (po135_5)) hZ (hw _ (List.mem_of_getElem? (i := 266) rfl)) (hw _ (List.mem_of_getElem? (i := 112) rfl)) (by decide) (by decide)) qa154 qc154 (g := (mkF m 203 #[.val (.long q0), .second, .val (.int j1), .val (.int j2), .val (.int j3), .val (.int j4), .val (.int j5), .val (.ref b_1), .val (.ref b_6), .val (.int aw), .val sv18, .val sv33, .val (.int (((j3.toUInt32 >>> ((3 : Int32) &&& 31).toUInt32).toInt32) % (3 : Int32))), .val (.ref stt), .val (.ref b59), .val (.ref b67), .val (.ref b86), .val (.ref b_135), .val (.ref b_123)] [(.ref b_135)])) rfl (by rw [hml]; rfl) (Steps.refl _) (argsL := []) (rest := []) (lenOf own_pd20 rfl) rfl (by show 2 * 0 + _ ≤ _; exact Nat.le_of_eq rfl) (hb hby at_203) (fun _ _ => ⟨rfl, hh153, (by decide : 20 + 0 ≤ _), (by decide : 70 + 0 ≤ _)⟩)
  dsimp only [Pt.U, Pt.locs, Pt.cells, Pt.slots] at X154 l154 y154 z154 st154 hQ154
  subst l154 y154 z154
  obtain ⟨rfl, Nq154, hh154⟩ := hQ154
  have N154 := Fr.app N153 Nq154
  obtain ⟨Lg155, X155, N155⟩ : ∃ L' : List Loc, Stand p l e room_1 s m #[(.long q0), (.int j1), (.int j2), (.int j3), (.int j4), (.int j5)] below meth c T154 L' 20 70 ∧ Fr n0 L' := ⟨_, X154, N154⟩
  have f156 : Exa Z T135.heap b_6 "java/lang/String" := ((((((((((((po6_2.keep Kj18).keep Kj33).ext E59).keep Kq65).ext E67).keep Kq75).keep Kq78).ext E86).ext E95).keep Kq106).keep Kq123).keep Kq135)
  obtain ⟨_, _, ⟨T157, L157, k157, n157⟩, -, X157, ⟨Lc157, hQ157, l157, y157, z157⟩, st157⟩ := Jvm.LawKit.callS X155 hx (y := (⟨"com/example/myna/myna/orders/OrderWithExternalStatePinLaw", "same", "(Ljava/lang/String;Ljava/lang/String;)Z"⟩ : MethodName)) hown (mvT hZ (hw _ (List.mem_of_getElem? (i := 254) rfl))) (mvT hZ (hw _ (List.mem_of_getElem? (i := 255) rfl))) (mvT hZ (hw _ (List.mem_of_getElem? (i := 2) rfl))) (mvT hZ (hw _ (List.mem_of_getElem? (i := 256) rfl))) (by decide) (backOf (W := 0) (own_same l Z a0 hw [] ((.ref b_6)) T135.heap n0 (O0.keep K146 all0) (rfl) ((Or.inr ⟨_, rfl, f156⟩))) hZ (hw _ (List.mem_of_getElem? (i := 256) rfl)) (hw _ (List.mem_of_getElem? (i := 2) rfl)) (by decide) (by decide)) (g := (mkF m 208 #[.val (.long q0), .second, .val (.int j1), .val (.int j2), .val (.int j3), .val (.int j4), .val (.int j5), .val (.ref b_1), .val (.ref b_6), .val (.int aw), .val sv18, .val sv33, .val (.int (((j3.toUInt32 >>> ((3 : Int32) &&& 31).toUInt32).toInt32) % (3 : Int32))), .val (.ref stt), .val (.ref b59), .val (.ref b67), .val (.ref b86), .val (.ref b_135), .val (.ref b_123)] [(.ref b_6), (.ref b_6)])) rfl (by rw [hml]; rfl) (argsL := [(.ref b_6), (.ref b_6)]) (rest := []) (lenOf own_pd21 rfl) rfl (by show 2 * 0 + _ ≤ _; exact Nat.le_of_eq rfl) (hb hby at_208) (fun _ _ => ⟨rfl, hh154, (by decide : 20 + 0 ≤ _), (by decide : 70 + 0 ≤ _)⟩)
  dsimp only [Pt.U, Pt.locs, Pt.cells, Pt.slots] at X157 l157 y157 z157 st157 hQ157
  subst l157 y157 z157
  obtain ⟨rfl, Nq157, hh157⟩ := hQ157
  have N157 := Fr.app N155 Nq157
  obtain ⟨cq158, kq158, qa158, qb158, qc158⟩ := isOf hZ hh157 po135_2
  obtain ⟨_, _, ⟨T158, L158, k158, n158⟩, -, X158, ⟨Lc158, hQ158, l158, y158, z158⟩, st158⟩ := X157.virtualBack hx (y := (⟨"com/example/myna/myna/orders/Order", "state", "()Lcom/example/myna/myna/orders/Order$State;"⟩ : MethodName)) (z := (⟨"com/example/myna/myna/orders/Order", "state", "()Lcom/example/myna/myna/orders/Order$State;"⟩ : MethodName)) hown (mvT hZ (hw _ (List.mem_of_getElem? (i := 267) rfl))) (mvT hZ (hw _ (List.mem_of_getElem? (i := 268) rfl))) (notFace_of_selects (args := #[]) (mvT hZ (hw _ (List.mem_of_getElem? (i := 270) rfl)))) (mvT hZ (hw _ (List.mem_of_getElem? (i := 270) rfl))) (mvT hZ (hw _ (List.mem_of_getElem? (i := 269) rfl))) (by decide) (backOf (W := 0) (own_g_state l Z a0 hw [] (b_135) (stt) T135.heap n0 (O0.keep K146 all0) (po135_6)) hZ (hw _ (List.mem_of_getElem? (i := 271) rfl)) (hw _ (List.mem_of_getElem? (i := 112) rfl)) (by decide) (by decide)) qa158 qc158 (g := (mkF m 216 #[.val (.long q0), .second, .val (.int j1), .val (.int j2), .val (.int j3), .val (.int j4), .val (.int j5), .val (.ref b_1), .val (.ref b_6), .val (.int aw), .val sv18, .val sv33, .val (.int (((j3.toUInt32 >>> ((3 : Int32) &&& 31).toUInt32).toInt32) % (3 : Int32))), .val (.ref stt), .val (.ref b59), .val (.ref b67), .val (.ref b86), .val (.ref b_135), .val (.ref b_123)] [(.ref b_135)])) rfl (by rw [hml]; rfl) (Steps.refl _) (argsL := []) (rest := []) (lenOf own_pd22 rfl) rfl (by show 2 * 0 + _ ≤ _; exact Nat.le_of_eq rfl) (hb hby at_216) (fun _ _ => ⟨rfl, hh157, (by decide : 20 + 0 ≤ _), (by decide : 70 + 0 ≤ _)⟩)
  dsimp only [Pt.U, Pt.locs, Pt.cells, Pt.slots] at X158 l158 y158 z158 st158 hQ158
  subst l158 y158 z158
  obtain ⟨rfl, Nq158, hh158⟩ := hQ158
  have N158 := Fr.app N157 Nq158
  obtain ⟨Lg159, X159, N159⟩ : ∃ L' : List Loc, Stand p l e room_1 s m #[(.long q0), (.int j1), (.int j2), (.int j3), (.int j4), (.int j5)] below meth c T158 L' 20 70 ∧ Fr n0 L' := ⟨_, X158, N158⟩
  obtain ⟨cq160, kq160, qa160, qb160, qc160⟩ := isOf hZ hh158 po135_2
  obtain ⟨_, _, ⟨T160, L160, k160, n160⟩, -, X160, ⟨Lc160, hQ160, l160, y160, z160⟩, st160⟩ := X159.virtualBack hx (y := (⟨"com/example/myna/myna/orders/Order", "externalState", "()Ljava/lang/String;"⟩ : MethodName)) (z := (⟨"com/example/myna/myna/orders/Order", "externalState", "()Ljava/lang/String;"⟩ : MethodName)) hown (mvT hZ (hw _ (List.mem_of_getElem? (i := 272) rfl))) (mvT hZ (hw _ (List.mem_of_getElem? (i := 273) rfl))) (notFace_of_selects (args := #[]) (mvT hZ (hw _ (List.mem_of_getElem? (i := 275) rfl)))) (mvT hZ (hw _ (List.mem_of_getElem? (i := 275) rfl))) (mvT hZ (hw _ (List.mem_of_getElem? (i := 274) rfl))) (by decide) (backOf (W := 0) (own_g_externalState l Z a0 hw [] (b_135) (sv33) T135.heap n0 (O0.keep K146 all0) ((own_NS.ref hs33)) (po135_7)) hZ (hw _ (List.mem_of_getElem? (i := 276) rfl)) (hw _ (List.mem_of_getElem? (i := 112) rfl)) (by decide) (by decide)) qa160 qc160 (g := (mkF m 226 #[.val (.long q0), .second, .val (.int j1), .val (.int j2), .val (.int j3), .val (.int j4), .val (.int j5), .val (.ref b_1), .val (.ref b_6), .val (.int aw), .val sv18, .val sv33, .val (.int (((j3.toUInt32 >>> ((3 : Int32) &&& 31).toUInt32).toInt32) % (3 : Int32))), .val (.ref stt), .val (.ref b59), .val (.ref b67), .val (.ref b86), .val (.ref b_135), .val (.ref b_123)] [(.ref b_135)])) rfl (by rw [hml]; rfl) (Steps.refl _) (argsL := []) (rest := []) (lenOf own_pd20 rfl) rfl (by show 2 * 0 + _ ≤ _; exact Nat.le_of_eq rfl) (hb hby at_226) (fun _ _ => ⟨rfl, hh158, (by decide : 20 + 0 ≤ _), (by decide : 70 + 0 ≤ _)⟩)
  dsimp only [Pt.U, Pt.locs, Pt.cells, Pt.slots] at X160 l160 y160 z160 st160 hQ160
  subst l160 y160 z160
  obtain ⟨rfl, Nq160, hh160⟩ := hQ160
  have N160 := Fr.app N159 Nq160
  have f161 : own_NS Z T135.heap sv33 := ((((((((((hs33.ext E59).keep Kq65).ext E67).keep Kq75).keep Kq78).ext E86).ext E95).keep Kq106).keep Kq123).keep Kq135)
  obtain ⟨_, _, ⟨T162, L162, k162, n162⟩, -, X162, ⟨Lc162, hQ162, l162, y162, z162⟩, st162⟩ := Jvm.LawKit.callS X160 hx (y := (⟨"com/example/myna/myna/orders/OrderWithExternalStatePinLaw", "same", "(Ljava/lang/String;Ljava/lang/String;)Z"⟩ : MethodName)) hown (mvT hZ (hw _ (List.mem_of_getElem? (i := 254) rfl))) (mvT hZ (hw _ (List.mem_of_getElem? (i := 255) rfl))) (mvT hZ (hw _ (List.mem_of_getElem? (i := 2) rfl))) (mvT hZ (hw _ (List.mem_of_getElem? (i := 256) rfl))) (by decide) (backOf (W := 0) (own_same l Z a0 hw [] (sv33) T135.heap n0 (O0.keep K146 all0) ((own_NS.ref hs33)) (f161)) hZ (hw _ (List.mem_of_getElem? (i := 256) rfl)) (hw _ (List.mem_of_getElem? (i := 2) rfl)) (by decide) (by decide)) (g := (mkF m 231 #[.val (.long q0), .second, .val (.int j1), .val (.int j2), .val (.int j3), .val (.int j4), .val (.int j5), .val (.ref b_1), .val (.ref b_6), .val (.int aw), .val sv18, .val sv33, .val (.int (((j3.toUInt32 >>> ((3 : Int32) &&& 31).toUInt32).toInt32) % (3 : Int32))), .val (.ref stt), .val (.ref b59), .val (.ref b67), .val (.ref b86), .val (.ref b_135), .val (.ref b_123)] [sv33, sv33])) rfl (by rw [hml]; rfl) (argsL := [sv33, sv33]) (rest := []) (lenOf own_pd21 rfl) rfl (by show 2 * 0 + _ ≤ _; exact Nat.le_of_eq rfl) (hb hby at_231) (fun _ _ => ⟨rfl, hh160, (by decide : 20 + 0 ≤ _), (by decide : 70 + 0 ≤ _)⟩)
  dsimp only [Pt.U, Pt.locs, Pt.cells, Pt.slots] at X162 l162 y162 z162 st162 hQ162
  subst l162 y162 z162
  obtain ⟨rfl, Nq162, hh162⟩ := hQ162
  have N162 := Fr.app N160 Nq162
  obtain ⟨Lg163, X163, N163⟩ : ∃ L' : List Loc, Stand p l e room_1 s m #[(.long q0), (.int j1), (.int j2), (.int j3), (.int j4), (.int j5)] below meth c T162 L' 20 70 ∧ Fr n0 L' := ⟨_, X162, N162⟩
  obtain ⟨cq164, kq164, qa164, qb164, qc164⟩ := isOf hZ hh162 po135_2
  obtain ⟨_, _, ⟨T164, L164, k164, n164⟩, -, X164, ⟨Lc164, hQ164, l164, y164, z164⟩, st164⟩ := X163.virtualBack hx (y := (⟨"com/example/myna/myna/orders/Order", "awaitingAcknowledgement", "()Z"⟩ : MethodName)) (z := (⟨"com/example/myna/myna/orders/Order", "awaitingAcknowledgement", "()Z"⟩ : MethodName)) hown (mvT hZ (hw _ (List.mem_of_getElem? (i := 277) rfl))) (mvT hZ (hw _ (List.mem_of_getElem? (i := 278) rfl))) (notFace_of_selects (args := #[]) (mvT hZ (hw _ (List.mem_of_getElem? (i := 280) rfl)))) (mvT hZ (hw _ (List.mem_of_getElem? (i := 280) rfl))) (mvT hZ (hw _ (List.mem_of_getElem? (i := 279) rfl))) (by decide) (backOf (W := 0) (own_g_awaitingAcknowledgement l Z a0 hw [] (b_135) (aw) T135.heap n0 (O0.keep K146 all0) (hn_aw) (po135_8)) hZ (hw _ (List.mem_of_getElem? (i := 281) rfl)) (hw _ (List.mem_of_getElem? (i := 112) rfl)) (by decide) (by decide)) qa164 qc164 (g := (mkF m 239 #[.val (.long q0), .second, .val (.int j1), .val (.int j2), .val (.int j3), .val (.int j4), .val (.int j5), .val (.ref b_1), .val (.ref b_6), .val (.int aw), .val sv18, .val sv33, .val (.int (((j3.toUInt32 >>> ((3 : Int32) &&& 31).toUInt32).toInt32) % (3 : Int32))), .val (.ref stt), .val (.ref b59), .val (.ref b67), .val (.ref b86), .val (.ref b_135), .val (.ref b_123)] [(.ref b_135)])) rfl (by rw [hml]; rfl) (Steps.refl _) (argsL := []) (rest := []) (lenOf own_pd9 rfl) rfl (by show 2 * 0 + _ ≤ _; exact Nat.le_of_eq rfl) (hb hby at_239) (fun _ _ => ⟨rfl, hh162, (by decide : 20 + 0 ≤ _), (by decide : 70 + 0 ≤ _)⟩)
  dsimp only [Pt.U, Pt.locs, Pt.cells, Pt.slots] at X164 l164 y164 z164 st164 hQ164
  subst l164 y164 z164
  obtain ⟨rfl, Nq164, hh164⟩ := hQ164
  have N164 := Fr.app N163 Nq164
  have f165 : Fld Z T135.heap b_123 "java/util/ImmutableCollections$List12" "e1" "Ljava/lang/Object;" (.ref em) := (po123_4.keep Kq135 nin0)
  have f167 : Exa Z T135.heap b_123 "java/util/ImmutableCollections$List12" := (po123_2.keep Kq135)
  obtain ⟨cq166, kq166, qa166, qb166, qc166⟩ := isOf hZ hh164 f167
  obtain ⟨_, _, ⟨T166, L166, k166, n166⟩, -, X166, ⟨Lc166, hQ166, l166, y166, z166⟩, st166⟩ := X164.interfaceBack hx (xi := (⟨"java/util/List", "size", "()I"⟩ : MethodName)) (y := (⟨"java/util/ImmutableCollections$List12", "size", "()I"⟩ : MethodName)) hown (mvT hZ (hw _ (List.mem_of_getElem? (i := 282) rfl))) (mvT hZ (hw _ (List.mem_of_getElem? (i := 283) rfl))) (mvT hZ (hw _ (List.mem_of_getElem? (i := 284) rfl))) (mvT hZ (hw _ (List.mem_of_getElem? (i := 285) rfl))) (mvT hZ (hw _ (List.mem_of_getElem? (i := 286) rfl))) (mvT hZ (hw _ (List.mem_of_getElem? (i := 287) rfl))) (mvT hZ (hw _ (List.mem_of_getElem? (i := 288) rfl))) (mvT hZ (hw _ (List.mem_of_getElem? (i := 231) rfl))) (by decide) (backOf (W := 0) (own_sz12 l Z a0 hw [] (b_123) (em) T135.heap n0 (O0.keep K146 all0) (f165) (hp8)) hZ (hw _ (List.mem_of_getElem? (i := 289) rfl)) (hw _ (List.mem_of_getElem? (i := 175) rfl)) (by decide) (by decide)) qa166 qb166 qc166 (g := (mkF m 249 #[.val (.long q0), .second, .val (.int j1), .val (.int j2), .val (.int j3), .val (.int j4), .val (.int j5), .val (.ref b_1), .val (.ref b_6), .val (.int aw), .val sv18, .val sv33, .val (.int (((j3.toUInt32 >>> ((3 : Int32) &&& 31).toUInt32).toInt32) % (3 : Int32))), .val (.ref stt), .val (.ref b59), .val (.ref b67), .val (.ref b86), .val (.ref b_135), .val (.ref b_123)] [(.ref b_123)])) rfl (by rw [hml]; rfl) (Steps.refl _) (argsL := []) (rest := []) (lenOf own_pd23 rfl) rfl (by show 2 * 0 + _ ≤ _; exact Nat.le_of_eq rfl) (hb hby at_249) (fun _ _ => ⟨rfl, hh164, (by decide : 20 + 0 ≤ _), (by decide : 70 + 0 ≤ _)⟩)
  dsimp only [Pt.U, Pt.locs, Pt.cells, Pt.slots] at X166 l166 y166 z166 st166 hQ166
  subst l166 y166 z166
  obtain ⟨rfl, Nq166, hh166⟩ := hQ166
  have N166 := Fr.app N164 Nq166
  obtain ⟨Lg168, X168, N168⟩ : ∃ L' : List Loc, Stand p l e room_1 s m #[(.long q0), (.int j1), (.int j2), (.int j3), (.int j4), (.int j5)] below meth c T166 L' 20 70 ∧ Fr n0 L' := ⟨_, X166, N166⟩
  have f169 : Fld Z T135.heap b_123 "java/util/ImmutableCollections$List12" "e0" "Ljava/lang/Object;" (.ref b59) := (po123_3.keep Kq135 nin0)
  obtain ⟨cq170, kq170, qa170, qb170, qc170⟩ := isOf hZ hh166 f167
  obtain ⟨_, _, ⟨T170, L170, k170, n170⟩, -, X170, ⟨Lc170, hQ170, l170, y170, z170⟩, st170⟩ := X168.interfaceBack hx (xi := (⟨"java/util/List", "get", "(I)Ljava/lang/Object;"⟩ : MethodName)) (y := (⟨"java/util/ImmutableCollections$List12", "get", "(I)Ljava/lang/Object;"⟩ : MethodName)) hown (mvT hZ (hw _ (List.mem_of_getElem? (i := 290) rfl))) (mvT hZ (hw _ (List.mem_of_getElem? (i := 291) rfl))) (mvT hZ (hw _ (List.mem_of_getElem? (i := 292) rfl))) (mvT hZ (hw _ (List.mem_of_getElem? (i := 293) rfl))) (mvT hZ (hw _ (List.mem_of_getElem? (i := 294) rfl))) (mvT hZ (hw _ (List.mem_of_getElem? (i := 295) rfl))) (mvT hZ (hw _ (List.mem_of_getElem? (i := 296) rfl))) (mvT hZ (hw _ (List.mem_of_getElem? (i := 231) rfl))) (by decide) (backOf (W := 0) (own_get12 l Z a0 hw [] (b_123) (b59) T135.heap n0 (O0.keep K146 all0) (f169)) hZ (hw _ (List.mem_of_getElem? (i := 297) rfl)) (hw _ (List.mem_of_getElem? (i := 175) rfl)) (by decide) (by decide)) qa170 qb170 qc170 (g := (mkF m 261 #[.val (.long q0), .second, .val (.int j1), .val (.int j2), .val (.int j3), .val (.int j4), .val (.int j5), .val (.ref b_1), .val (.ref b_6), .val (.int aw), .val sv18, .val sv33, .val (.int (((j3.toUInt32 >>> ((3 : Int32) &&& 31).toUInt32).toInt32) % (3 : Int32))), .val (.ref stt), .val (.ref b59), .val (.ref b67), .val (.ref b86), .val (.ref b_135), .val (.ref b_123)] [(.int (0 : Int32)), (.ref b_123)])) rfl (by rw [hml]; rfl) (Steps.refl _) (argsL := [(.int (0 : Int32))]) (rest := []) (lenOf own_pd24 rfl) rfl (by show 2 * 0 + _ ≤ _; exact Nat.le_of_eq rfl) (hb hby at_261) (fun _ _ => ⟨rfl, hh166, (by decide : 20 + 0 ≤ _), (by decide : 70 + 0 ≤ _)⟩)
  dsimp only [Pt.U, Pt.locs, Pt.cells, Pt.slots] at X170 l170 y170 z170 st170 hQ170
  subst l170 y170 z170
  obtain ⟨rfl, Nq170, hh170⟩ := hQ170
  have N170 := Fr.app N168 Nq170
  obtain ⟨cq171, kq171, qa171, qb171, qc171⟩ := isOf hZ hh170 po135_2
  obtain ⟨_, _, ⟨T171, L171, k171, n171⟩, -, X171, ⟨Lc171, hQ171, l171, y171, z171⟩, st171⟩ := X170.virtualBack hx (y := (⟨"com/example/myna/myna/orders/Order", "payments", "()Ljava/util/List;"⟩ : MethodName)) (z := (⟨"com/example/myna/myna/orders/Order", "payments", "()Ljava/util/List;"⟩ : MethodName)) hown (mvT hZ (hw _ (List.mem_of_getElem? (i := 298) rfl))) (mvT hZ (hw _ (List.mem_of_getElem? (i := 299) rfl))) (notFace_of_selects (args := #[]) (mvT hZ (hw _ (List.mem_of_getElem? (i := 301) rfl)))) (mvT hZ (hw _ (List.mem_of_getElem? (i := 301) rfl))) (mvT hZ (hw _ (List.mem_of_getElem? (i := 300) rfl))) (by decide) (backOf (W := 0) (own_g_payments l Z a0 hw [] (b_135) (el) T135.heap n0 (O0.keep K146 all0) (po135_10)) hZ (hw _ (List.mem_of_getElem? (i := 302) rfl)) (hw _ (List.mem_of_getElem? (i := 112) rfl)) (by decide) (by decide)) qa171 qc171 (g := (mkF m 273 #[.val (.long q0), .second, .val (.int j1), .val (.int j2), .val (.int j3), .val (.int j4), .val (.int j5), .val (.ref b_1), .val (.ref b_6), .val (.int aw), .val sv18, .val sv33, .val (.int (((j3.toUInt32 >>> ((3 : Int32) &&& 31).toUInt32).toInt32) % (3 : Int32))), .val (.ref stt), .val (.ref b59), .val (.ref b67), .val (.ref b86), .val (.ref b_135), .val (.ref b_123)] [(.ref b_135)])) rfl (by rw [hml]; rfl) (Steps.refl _) (argsL := []) (rest := []) (lenOf own_pd12 rfl) rfl (by show 2 * 0 + _ ≤ _; exact Nat.le_of_eq rfl) (hb hby at_273) (fun _ _ => ⟨rfl, hh170, (by decide : 20 + 0 ≤ _), (by decide : 70 + 0 ≤ _)⟩)
  dsimp only [Pt.U, Pt.locs, Pt.cells, Pt.slots] at X171 l171 y171 z171 st171 hQ171
  subst l171 y171 z171
  obtain ⟨rfl, Nq171, hh171⟩ := hQ171
  have N171 := Fr.app N170 Nq171
  obtain ⟨Lg172, X172, N172⟩ : ∃ L' : List Loc, Stand p l e room_1 s m #[(.long q0), (.int j1), (.int j2), (.int j3), (.int j4), (.int j5)] below meth c T171 L' 20 70 ∧ Fr n0 L' := ⟨_, X171, N171⟩
  obtain ⟨cq173, kq173, qa173, qb173, qc173⟩ := isOf hZ hh171 (hp10.ext (O0.keep K146 all0).2)
  obtain ⟨_, _, ⟨T173, L173, k173, n173⟩, -, X173, ⟨Lc173, hQ173, l173, y173, z173⟩, st173⟩ := X172.interfaceBack hx (xi := (⟨"java/util/List", "size", "()I"⟩ : MethodName)) (y := (⟨"java/util/ImmutableCollections$ListN", "size", "()I"⟩ : MethodName)) hown (mvT hZ (hw _ (List.mem_of_getElem? (i := 282) rfl))) (mvT hZ (hw _ (List.mem_of_getElem? (i := 283) rfl))) (mvT hZ (hw _ (List.mem_of_getElem? (i := 284) rfl))) (mvT hZ (hw _ (List.mem_of_getElem? (i := 303) rfl))) (mvT hZ (hw _ (List.mem_of_getElem? (i := 304) rfl))) (mvT hZ (hw _ (List.mem_of_getElem? (i := 305) rfl))) (mvT hZ (hw _ (List.mem_of_getElem? (i := 306) rfl))) (mvT hZ (hw _ (List.mem_of_getElem? (i := 238) rfl))) (by decide) (backOf (W := 0) (own_szN l Z a0 hw [] (el) (ea) (ke) T135.heap n0 (O0.keep K146 all0) (hp12) (hp13)) hZ (hw _ (List.mem_of_getElem? (i := 308) rfl)) (hw _ (List.mem_of_getElem? (i := 307) rfl)) (by decide) (by decide)) qa173 qb173 qc173 (g := (mkF m 276 #[.val (.long q0), .second, .val (.int j1), .val (.int j2), .val (.int j3), .val (.int j4), .val (.int j5), .val (.ref b_1), .val (.ref b_6), .val (.int aw), .val sv18, .val sv33, .val (.int (((j3.toUInt32 >>> ((3 : Int32) &&& 31).toUInt32).toInt32) % (3 : Int32))), .val (.ref stt), .val (.ref b59), .val (.ref b67), .val (.ref b86), .val (.ref b_135), .val (.ref b_123)] [(.ref el)])) rfl (by rw [hml]; rfl) (Steps.refl _) (argsL := []) (rest := []) (lenOf own_pd23 rfl) rfl (by show 2 * 0 + _ ≤ _; exact Nat.le_of_eq rfl) (hb hby at_276) (fun _ _ => ⟨rfl, hh171, (by decide : 20 + 0 ≤ _), (by decide : 70 + 0 ≤ _)⟩)
  dsimp only [Pt.U, Pt.locs, Pt.cells, Pt.slots] at X173 l173 y173 z173 st173 hQ173
  subst l173 y173 z173
  obtain ⟨rfl, Nq173, hh173⟩ := hQ173
  have N173 := Fr.app N172 Nq173
  have f174 : Fld Z T135.heap b86 "com/example/myna/myna/orders/Order" "externalState" "Ljava/lang/String;" sv18 := (po123_10.keep Kq135 nin0)
  have f176 : Exa Z T135.heap b86 "com/example/myna/myna/orders/Order" := (po123_5.keep Kq135)
  obtain ⟨cq175, kq175, qa175, qb175, qc175⟩ := isOf hZ hh173 f176
  obtain ⟨_, _, ⟨T175, L175, k175, n175⟩, -, X175, ⟨Lc175, hQ175, l175, y175, z175⟩, st175⟩ := X173.virtualBack hx (y := (⟨"com/example/myna/myna/orders/Order", "externalState", "()Ljava/lang/String;"⟩ : MethodName)) (z := (⟨"com/example/myna/myna/orders/Order", "externalState", "()Ljava/lang/String;"⟩ : MethodName)) hown (mvT hZ (hw _ (List.mem_of_getElem? (i := 272) rfl))) (mvT hZ (hw _ (List.mem_of_getElem? (i := 273) rfl))) (notFace_of_selects (args := #[]) (mvT hZ (hw _ (List.mem_of_getElem? (i := 275) rfl)))) (mvT hZ (hw _ (List.mem_of_getElem? (i := 275) rfl))) (mvT hZ (hw _ (List.mem_of_getElem? (i := 274) rfl))) (by decide) (backOf (W := 0) (own_g_externalState l Z a0 hw [] (b86) (sv18) T135.heap n0 (O0.keep K146 all0) ((own_NS.ref hs18)) (f174)) hZ (hw _ (List.mem_of_getElem? (i := 276) rfl)) (hw _ (List.mem_of_getElem? (i := 112) rfl)) (by decide) (by decide)) qa175 qc175 (g := (mkF m 286 #[.val (.long q0), .second, .val (.int j1), .val (.int j2), .val (.int j3), .val (.int j4), .val (.int j5), .val (.ref b_1), .val (.ref b_6), .val (.int aw), .val sv18, .val sv33, .val (.int (((j3.toUInt32 >>> ((3 : Int32) &&& 31).toUInt32).toInt32) % (3 : Int32))), .val (.ref stt), .val (.ref b59), .val (.ref b67), .val (.ref b86), .val (.ref b_135), .val (.ref b_123)] [(.ref b86)])) rfl (by rw [hml]; rfl) (Steps.refl _) (argsL := []) (rest := []) (lenOf own_pd20 rfl) rfl (by show 2 * 0 + _ ≤ _; exact Nat.le_of_eq rfl) (hb hby at_286) (fun _ _ => ⟨rfl, hh173, (by decide : 20 + 0 ≤ _), (by decide : 70 + 0 ≤ _)⟩)
  dsimp only [Pt.U, Pt.locs, Pt.cells, Pt.slots] at X175 l175 y175 z175 st175 hQ175
  subst l175 y175 z175
  obtain ⟨rfl, Nq175, hh175⟩ := hQ175
  have N175 := Fr.app N173 Nq175
  obtain ⟨Lg177, X177, N177⟩ : ∃ L' : List Loc, Stand p l e room_1 s m #[(.long q0), (.int j1), (.int j2), (.int j3), (.int j4), (.int j5)] below meth c T175 L' 20 70 ∧ Fr n0 L' := ⟨_, X175, N175⟩
  have f178 : own_NS Z T135.heap sv18 := (((((((((((hs18.keep Kj33).ext E59).keep Kq65).ext E67).keep Kq75).keep Kq78).ext E86).ext E95).keep Kq106).keep Kq123).keep Kq135)
  obtain ⟨_, _, ⟨T179, L179, k179, n179⟩, -, X179, ⟨Lc179, hQ179, l179, y179, z179⟩, st179⟩ := Jvm.LawKit.callS X177 hx (y := (⟨"com/example/myna/myna/orders/OrderWithExternalStatePinLaw", "same", "(Ljava/lang/String;Ljava/lang/String;)Z"⟩ : MethodName)) hown (mvT hZ (hw _ (List.mem_of_getElem? (i := 254) rfl))) (mvT hZ (hw _ (List.mem_of_getElem? (i := 255) rfl))) (mvT hZ (hw _ (List.mem_of_getElem? (i := 2) rfl))) (mvT hZ (hw _ (List.mem_of_getElem? (i := 256) rfl))) (by decide) (backOf (W := 0) (own_same l Z a0 hw [] (sv18) T135.heap n0 (O0.keep K146 all0) ((own_NS.ref hs18)) (f178)) hZ (hw _ (List.mem_of_getElem? (i := 256) rfl)) (hw _ (List.mem_of_getElem? (i := 2) rfl)) (by decide) (by decide)) (g := (mkF m 291 #[.val (.long q0), .second, .val (.int j1), .val (.int j2), .val (.int j3), .val (.int j4), .val (.int j5), .val (.ref b_1), .val (.ref b_6), .val (.int aw), .val sv18, .val sv33, .val (.int (((j3.toUInt32 >>> ((3 : Int32) &&& 31).toUInt32).toInt32) % (3 : Int32))), .val (.ref stt), .val (.ref b59), .val (.ref b67), .val (.ref b86), .val (.ref b_135), .val (.ref b_123)] [sv18, sv18])) rfl (by rw [hml]; rfl) (argsL := [sv18, sv18]) (rest := []) (lenOf own_pd21 rfl) rfl (by show 2 * 0 + _ ≤ _; exact Nat.le_of_eq rfl) (hb hby at_291) (fun _ _ => ⟨rfl, hh175, (by decide : 20 + 0 ≤ _), (by decide : 70 + 0 ≤ _)⟩)
  dsimp only [Pt.U, Pt.locs, Pt.cells, Pt.slots] at X179 l179 y179 z179 st179 hQ179
  subst l179 y179 z179
  obtain ⟨rfl, Nq179, hh179⟩ := hQ179
  have N179 := Fr.app N177 Nq179
  obtain ⟨fs, hr, hrun, hended, hW, hsame⟩ := X179.leave (v := some (.int (nar .boolean (1 : Int32)))) (fun h => by rw [Bd.returns] at h; cases h)
  refine ⟨_, _, r58 _ ?_, hrun, hended, _, _, rfl, ?_, ⟨_, rfl⟩, hW, hsame.mono (by decide) (by decide)⟩
  · show Steps p.tables e below (T48.setTop (mkF m 100 #[.val (.long q0), .second, .val (.int j1), .val (.int j2), .val (.int j3), .val (.int j4), .val (.int j5), .val (.ref b_1), .val (.ref b_6), .val (.int aw), .val sv18, .val sv33, .val (.int (((j3.toUInt32 >>> ((3 : Int32) &&& 31).toUInt32).toInt32) % (3 : Int32))), .unset, .unset, .unset, .unset, .unset, .unset] [(.ref stt)])) _
    refine XS.astore X48.here hx rfl (hb hby at_100) rfl rfl (l' := #[.val (.long q0), .second, .val (.int j1), .val (.int j2), .val (.int j3), .val (.int j4), .val (.int j5), .val (.ref b_1), .val (.ref b_6), .val (.int aw), .val sv18, .val sv33, .val (.int (((j3.toUInt32 >>> ((3 : Int32) &&& 31).toUInt32).toInt32) % (3 : Int32))), .val (.ref stt), .unset, .unset, .unset, .unset, .unset]) rfl ?_
    show Steps p.tables e below (T48.setTop (mkF m 102 #[.val (.long q0), .second, .val (.int j1), .val (.int j2), .val (.int j3), .val (.int j4), .val (.int j5), .val (.ref b_1), .val (.ref b_6), .val (.int aw), .val sv18, .val sv33, .val (.int (((j3.toUInt32 >>> ((3 : Int32) &&& 31).toUInt32).toInt32) % (3 : Int32))), .val (.ref stt), .unset, .unset, .unset, .unset, .unset] [])) _
    refine st59 _ ?_
    show Steps p.tables e below (T59.setTop (mkF m 105 #[.val (.long q0), .second, .val (.int j1), .val (.int j2), .val (.int j3), .val (.int j4), .val (.int j5), .val (.ref b_1), .val (.ref b_6), .val (.int aw), .val sv18, .val sv33, .val (.int (((j3.toUInt32 >>> ((3 : Int32) &&& 31).toUInt32).toInt32) % (3 : Int32))), .val (.ref stt), .unset, .unset, .unset, .unset, .unset] [(.ref b59)])) _
    refine XS.dup X59.here hx rfl (hb hby at_105) rfl rfl ?_
    show Steps p.tables e below (T59.setTop (mkF m 106 #[.val (.long q0), .second, .val (.int j1), .val (.int j2), .val (.int j3), .val (.int j4), .val (.int j5), .val (.ref b_1), .val (.ref b_6), .val (.int aw), .val sv18, .val sv33, .val (.int (((j3.toUInt32 >>> ((3 : Int32) &&& 31).toUInt32).toInt32) % (3 : Int32))), .val (.ref stt), .unset, .unset, .unset, .unset, .unset] [(.ref b59), (.ref b59)])) _
    refine XS.aconstNull X59.here hx rfl (hb hby at_106) ?_
    show Steps p.tables e below (T59.setTop (mkF m 107 #[.val (.long q0), .second, .val (.int j1), .val (.int j2), .val (.int j3), .val (.int j4), .val (.int j5), .val (.ref b_1), .val (.ref b_6), .val (.int aw), .val sv18, .val sv33, .val (.int (((j3.toUInt32 >>> ((3 : Int32) &&& 31).toUInt32).toInt32) % (3 : Int32))), .val (.ref stt), .unset, .unset, .unset, .unset, .unset] [.null, (.ref b59), (.ref b59)])) _
    refine XS.iload X59.here hx rfl (hb hby at_107) rfl ?_
    show Steps p.tables e below (T59.setTop (mkF m 109 #[.val (.long q0), .second, .val (.int j1), .val (.int j2), .val (.int j3), .val (.int j4), .val (.int j5), .val (.ref b_1), .val (.ref b_6), .val (.int aw), .val sv18, .val sv33, .val (.int (((j3.toUInt32 >>> ((3 : Int32) &&& 31).toUInt32).toInt32) % (3 : Int32))), .val (.ref stt), .unset, .unset, .unset, .unset, .unset] [(.int j4), .null, (.ref b59), (.ref b59)])) _
    refine XS.iload X59.here hx rfl (hb hby at_109) rfl ?_
    show Steps p.tables e below (T59.setTop (mkF m 111 #[.val (.long q0), .second, .val (.int j1), .val (.int j2), .val (.int j3), .val (.int j4), .val (.int j5), .val (.ref b_1), .val (.ref b_6), .val (.int aw), .val sv18, .val sv33, .val (.int (((j3.toUInt32 >>> ((3 : Int32) &&& 31).toUInt32).toInt32) % (3 : Int32))), .val (.ref stt), .unset, .unset, .unset, .unset, .unset] [(.int j5), (.int j4), .null, (.ref b59), (.ref b59)])) _
    refine st65.trans ?_
    show Steps p.tables e below (T65.setTop (mkF m 114 #[.val (.long q0), .second, .val (.int j1), .val (.int j2), .val (.int j3), .val (.int j4), .val (.int j5), .val (.ref b_1), .val (.ref b_6), .val (.int aw), .val sv18, .val sv33, .val (.int (((j3.toUInt32 >>> ((3 : Int32) &&& 31).toUInt32).toInt32) % (3 : Int32))), .val (.ref stt), .unset, .unset, .unset, .unset, .unset] [(.ref b59)])) _
    refine XS.astore X65.here hx rfl (hb hby at_114) rfl rfl (l' := #[.val (.long q0), .second, .val (.int j1), .val (.int j2), .val (.int j3), .val (.int j4), .val (.int j5), .val (.ref b_1), .val (.ref b_6), .val (.int aw), .val sv18, .val sv33, .val (.int (((j3.toUInt32 >>> ((3 : Int32) &&& 31).toUInt32).toInt32) % (3 : Int32))), .val (.ref stt), .val (.ref b59), .unset, .unset, .unset, .unset]) rfl ?_
    show Steps p.tables e below (T65.setTop (mkF m 116 #[.val (.long q0), .second, .val (.int j1), .val (.int j2), .val (.int j3), .val (.int j4), .val (.int j5), .val (.ref b_1), .val (.ref b_6), .val (.int aw), .val sv18, .val sv33, .val (.int (((j3.toUInt32 >>> ((3 : Int32) &&& 31).toUInt32).toInt32) % (3 : Int32))), .val (.ref stt), .val (.ref b59), .unset, .unset, .unset, .unset] [])) _
    refine st67 _ ?_
    show Steps p.tables e below (T67.setTop (mkF m 119 #[.val (.long q0), .second, .val (.int j1), .val (.int j2), .val (.int j3), .val (.int j4), .val (.int j5), .val (.ref b_1), .val (.ref b_6), .val (.int aw), .val sv18, .val sv33, .val (.int (((j3.toUInt32 >>> ((3 : Int32) &&& 31).toUInt32).toInt32) % (3 : Int32))), .val (.ref stt), .val (.ref b59), .unset, .unset, .unset, .unset] [(.ref b67)])) _
    refine XS.dup X67.here hx rfl (hb hby at_119) rfl rfl ?_
    show Steps p.tables e below (T67.setTop (mkF m 120 #[.val (.long q0), .second, .val (.int j1), .val (.int j2), .val (.int j3), .val (.int j4), .val (.int j5), .val (.ref b_1), .val (.ref b_6), .val (.int aw), .val sv18, .val sv33, .val (.int (((j3.toUInt32 >>> ((3 : Int32) &&& 31).toUInt32).toInt32) % (3 : Int32))), .val (.ref stt), .val (.ref b59), .unset, .unset, .unset, .unset] [(.ref b67), (.ref b67)])) _
    refine st75.trans ?_
    show Steps p.tables e below (T75.setTop (mkF m 123 #[.val (.long q0), .second, .val (.int j1), .val (.int j2), .val (.int j3), .val (.int j4), .val (.int j5), .val (.ref b_1), .val (.ref b_6), .val (.int aw), .val sv18, .val sv33, .val (.int (((j3.toUInt32 >>> ((3 : Int32) &&& 31).toUInt32).toInt32) % (3 : Int32))), .val (.ref stt), .val (.ref b59), .unset, .unset, .unset, .unset] [(.ref b67)])) _
    refine XS.astore X75.here hx rfl (hb hby at_123) rfl rfl (l' := #[.val (.long q0), .second, .val (.int j1), .val (.int j2), .val (.int j3), .val (.int j4), .val (.int j5), .val (.ref b_1), .val (.ref b_6), .val (.int aw), .val sv18, .val sv33, .val (.int (((j3.toUInt32 >>> ((3 : Int32) &&& 31).toUInt32).toInt32) % (3 : Int32))), .val (.ref stt), .val (.ref b59), .val (.ref b67), .unset, .unset, .unset]) rfl ?_
    show Steps p.tables e below (T75.setTop (mkF m 125 #[.val (.long q0), .second, .val (.int j1), .val (.int j2), .val (.int j3), .val (.int j4), .val (.int j5), .val (.ref b_1), .val (.ref b_6), .val (.int aw), .val sv18, .val sv33, .val (.int (((j3.toUInt32 >>> ((3 : Int32) &&& 31).toUInt32).toInt32) % (3 : Int32))), .val (.ref stt), .val (.ref b59), .val (.ref b67), .unset, .unset, .unset] [])) _
    refine XS.aload X75.here hx rfl (hb hby at_125) rfl rfl ?_
    show Steps p.tables e below (T75.setTop (mkF m 127 #[.val (.long q0), .second, .val (.int j1), .val (.int j2), .val (.int j3), .val (.int j4), .val (.int j5), .val (.ref b_1), .val (.ref b_6), .val (.int aw), .val sv18, .val sv33, .val (.int (((j3.toUInt32 >>> ((3 : Int32) &&& 31).toUInt32).toInt32) % (3 : Int32))), .val (.ref stt), .val (.ref b59), .val (.ref b67), .unset, .unset, .unset] [(.ref b67)])) _
    refine XS.aload X75.here hx rfl (hb hby at_127) rfl rfl ?_
    show Steps p.tables e below (T75.setTop (mkF m 129 #[.val (.long q0), .second, .val (.int j1), .val (.int j2), .val (.int j3), .val (.int j4), .val (.int j5), .val (.ref b_1), .val (.ref b_6), .val (.int aw), .val sv18, .val sv33, .val (.int (((j3.toUInt32 >>> ((3 : Int32) &&& 31).toUInt32).toInt32) % (3 : Int32))), .val (.ref stt), .val (.ref b59), .val (.ref b67), .unset, .unset, .unset] [(.ref b59), (.ref b67)])) _
    refine st78.trans ?_
    show Steps p.tables e below (T78.setTop (mkF m 132 #[.val (.long q0), .second, .val (.int j1), .val (.int j2), .val (.int j3), .val (.int j4), .val (.int j5), .val (.ref b_1), .val (.ref b_6), .val (.int aw), .val sv18, .val sv33, .val (.int (((j3.toUInt32 >>> ((3 : Int32) &&& 31).toUInt32).toInt32) % (3 : Int32))), .val (.ref stt), .val (.ref b59), .val (.ref b67), .unset, .unset, .unset] [(.int (1 : Int32))])) _
    refine XS.pop X78.here hx rfl (hb hby at_132) rfl rfl ?_
    show Steps p.tables e below (T78.setTop (mkF m 133 #[.val (.long q0), .second, .val (.int j1), .val (.int j2), .val (.int j3), .val (.int j4), .val (.int j5), .val (.ref b_1), .val (.ref b_6), .val (.int aw), .val sv18, .val sv33, .val (.int (((j3.toUInt32 >>> ((3 : Int32) &&& 31).toUInt32).toInt32) % (3 : Int32))), .val (.ref stt), .val (.ref b59), .val (.ref b67), .unset, .unset, .unset] [])) _
    refine st86 _ ?_
    show Steps p.tables e below (T86.setTop (mkF m 136 #[.val (.long q0), .second, .val (.int j1), .val (.int j2), .val (.int j3), .val (.int j4), .val (.int j5), .val (.ref b_1), .val (.ref b_6), .val (.int aw), .val sv18, .val sv33, .val (.int (((j3.toUInt32 >>> ((3 : Int32) &&& 31).toUInt32).toInt32) % (3 : Int32))), .val (.ref stt), .val (.ref b59), .val (.ref b67), .unset, .unset, .unset] [(.ref b86)])) _
    refine XS.dup X86.here hx rfl (hb hby at_136) rfl rfl ?_
    show Steps p.tables e below (T86.setTop (mkF m 137 #[.val (.long q0), .second, .val (.int j1), .val (.int j2), .val (.int j3), .val (.int j4), .val (.int j5), .val (.ref b_1), .val (.ref b_6), .val (.int aw), .val sv18, .val sv33, .val (.int (((j3.toUInt32 >>> ((3 : Int32) &&& 31).toUInt32).toInt32) % (3 : Int32))), .val (.ref stt), .val (.ref b59), .val (.ref b67), .unset, .unset, .unset] [(.ref b86), (.ref b86)])) _
    refine XS.lloadN X86.here hx rfl (hb hby at_137) rfl ?_
    show Steps p.tables e below (T86.setTop (mkF m 138 #[.val (.long q0), .second, .val (.int j1), .val (.int j2), .val (.int j3), .val (.int j4), .val (.int j5), .val (.ref b_1), .val (.ref b_6), .val (.int aw), .val sv18, .val sv33, .val (.int (((j3.toUInt32 >>> ((3 : Int32) &&& 31).toUInt32).toInt32) % (3 : Int32))), .val (.ref stt), .val (.ref b59), .val (.ref b67), .unset, .unset, .unset] [(.long q0), (.ref b86), (.ref b86)])) _
    refine XS.aload X86.here hx rfl (hb hby at_138) rfl rfl ?_
    show Steps p.tables e below (T86.setTop (mkF m 140 #[.val (.long q0), .second, .val (.int j1), .val (.int j2), .val (.int j3), .val (.int j4), .val (.int j5), .val (.ref b_1), .val (.ref b_6), .val (.int aw), .val sv18, .val sv33, .val (.int (((j3.toUInt32 >>> ((3 : Int32) &&& 31).toUInt32).toInt32) % (3 : Int32))), .val (.ref stt), .val (.ref b59), .val (.ref b67), .unset, .unset, .unset] [(.ref b_1), (.long q0), (.ref b86), (.ref b86)])) _
    refine XS.aload X86.here hx rfl (hb hby at_140) rfl rfl ?_
    show Steps p.tables e below (T86.setTop (mkF m 142 #[.val (.long q0), .second, .val (.int j1), .val (.int j2), .val (.int j3), .val (.int j4), .val (.int j5), .val (.ref b_1), .val (.ref b_6), .val (.int aw), .val sv18, .val sv33, .val (.int (((j3.toUInt32 >>> ((3 : Int32) &&& 31).toUInt32).toInt32) % (3 : Int32))), .val (.ref stt), .val (.ref b59), .val (.ref b67), .unset, .unset, .unset] [(.ref b_6), (.ref b_1), (.long q0), (.ref b86), (.ref b86)])) _
    refine XS.aload X86.here hx rfl (hb hby at_142) rfl rfl ?_
    show Steps p.tables e below (T86.setTop (mkF m 144 #[.val (.long q0), .second, .val (.int j1), .val (.int j2), .val (.int j3), .val (.int j4), .val (.int j5), .val (.ref b_1), .val (.ref b_6), .val (.int aw), .val sv18, .val sv33, .val (.int (((j3.toUInt32 >>> ((3 : Int32) &&& 31).toUInt32).toInt32) % (3 : Int32))), .val (.ref stt), .val (.ref b59), .val (.ref b67), .unset, .unset, .unset] [(.ref stt), (.ref b_6), (.ref b_1), (.long q0), (.ref b86), (.ref b86)])) _
    refine XS.aload X86.here hx rfl (hb hby at_144) rfl (own_NS.ref hs18) ?_
    show Steps p.tables e below (T86.setTop (mkF m 146 #[.val (.long q0), .second, .val (.int j1), .val (.int j2), .val (.int j3), .val (.int j4), .val (.int j5), .val (.ref b_1), .val (.ref b_6), .val (.int aw), .val sv18, .val sv33, .val (.int (((j3.toUInt32 >>> ((3 : Int32) &&& 31).toUInt32).toInt32) % (3 : Int32))), .val (.ref stt), .val (.ref b59), .val (.ref b67), .unset, .unset, .unset] [sv18, (.ref stt), (.ref b_6), (.ref b_1), (.long q0), (.ref b86), (.ref b86)])) _
    refine XS.iload X86.here hx rfl (hb hby at_146) rfl ?_
    show Steps p.tables e below (T86.setTop (mkF m 148 #[.val (.long q0), .second, .val (.int j1), .val (.int j2), .val (.int j3), .val (.int j4), .val (.int j5), .val (.ref b_1), .val (.ref b_6), .val (.int aw), .val sv18, .val sv33, .val (.int (((j3.toUInt32 >>> ((3 : Int32) &&& 31).toUInt32).toInt32) % (3 : Int32))), .val (.ref stt), .val (.ref b59), .val (.ref b67), .unset, .unset, .unset] [(.int aw), sv18, (.ref stt), (.ref b_6), (.ref b_1), (.long q0), (.ref b86), (.ref b86)])) _
    refine XS.aload X86.here hx rfl (hb hby at_148) rfl rfl ?_
    show Steps p.tables e below (T86.setTop (mkF m 150 #[.val (.long q0), .second, .val (.int j1), .val (.int j2), .val (.int j3), .val (.int j4), .val (.int j5), .val (.ref b_1), .val (.ref b_6), .val (.int aw), .val sv18, .val sv33, .val (.int (((j3.toUInt32 >>> ((3 : Int32) &&& 31).toUInt32).toInt32) % (3 : Int32))), .val (.ref stt), .val (.ref b59), .val (.ref b67), .unset, .unset, .unset] [(.ref b67), (.int aw), sv18, (.ref stt), (.ref b_6), (.ref b_1), (.long q0), (.ref b86), (.ref b86)])) _
    refine st95 _ ?_
    show Steps p.tables e below (T95.setTop (mkF m 153 #[.val (.long q0), .second, .val (.int j1), .val (.int j2), .val (.int j3), .val (.int j4), .val (.int j5), .val (.ref b_1), .val (.ref b_6), .val (.int aw), .val sv18, .val sv33, .val (.int (((j3.toUInt32 >>> ((3 : Int32) &&& 31).toUInt32).toInt32) % (3 : Int32))), .val (.ref stt), .val (.ref b59), .val (.ref b67), .unset, .unset, .unset] [(.ref b95), (.ref b67), (.int aw), sv18, (.ref stt), (.ref b_6), (.ref b_1), (.long q0), (.ref b86), (.ref b86)])) _
    refine XS.dup X95.here hx rfl (hb hby at_153) rfl rfl ?_
    show Steps p.tables e below (T95.setTop (mkF m 154 #[.val (.long q0), .second, .val (.int j1), .val (.int j2), .val (.int j3), .val (.int j4), .val (.int j5), .val (.ref b_1), .val (.ref b_6), .val (.int aw), .val sv18, .val sv33, .val (.int (((j3.toUInt32 >>> ((3 : Int32) &&& 31).toUInt32).toInt32) % (3 : Int32))), .val (.ref stt), .val (.ref b59), .val (.ref b67), .unset, .unset, .unset] [(.ref b95), (.ref b95), (.ref b67), (.int aw), sv18, (.ref stt), (.ref b_6), (.ref b_1), (.long q0), (.ref b86), (.ref b86)])) _
    refine st106.trans ?_
    show Steps p.tables e below (T106.setTop (mkF m 157 #[.val (.long q0), .second, .val (.int j1), .val (.int j2), .val (.int j3), .val (.int j4), .val (.int j5), .val (.ref b_1), .val (.ref b_6), .val (.int aw), .val sv18, .val sv33, .val (.int (((j3.toUInt32 >>> ((3 : Int32) &&& 31).toUInt32).toInt32) % (3 : Int32))), .val (.ref stt), .val (.ref b59), .val (.ref b67), .unset, .unset, .unset] [(.ref b95), (.ref b67), (.int aw), sv18, (.ref stt), (.ref b_6), (.ref b_1), (.long q0), (.ref b86), (.ref b86)])) _
    refine st123.trans ?_
    show Steps p.tables e below (T123.setTop (mkF m 160 #[.val (.long q0), .second, .val (.int j1), .val (.int j2), .val (.int j3), .val (.int j4), .val (.int j5), .val (.ref b_1), .val (.ref b_6), .val (.int aw), .val sv18, .val sv33, .val (.int (((j3.toUInt32 >>> ((3 : Int32) &&& 31).toUInt32).toInt32) % (3 : Int32))), .val (.ref stt), .val (.ref b59), .val (.ref b67), .unset, .unset, .unset] [(.ref b86)])) _
    refine XS.astore X123.here hx rfl (hb hby at_160) rfl rfl (l' := #[.val (.long q0), .second, .val (.int j1), .val (.int j2), .val (.int j3), .val (.int j4), .val (.int j5), .val (.ref b_1), .val (.ref b_6), .val (.int aw), .val sv18, .val sv33, .val (.int (((j3.toUInt32 >>> ((3 : Int32) &&& 31).toUInt32).toInt32) % (3 : Int32))), .val (.ref stt), .val (.ref b59), .val (.ref b67), .val (.ref b86), .unset, .unset]) rfl ?_
    show Steps p.tables e below (T123.setTop (mkF m 162 #[.val (.long q0), .second, .val (.int j1), .val (.int j2), .val (.int j3), .val (.int j4), .val (.int j5), .val (.ref b_1), .val (.ref b_6), .val (.int aw), .val sv18, .val sv33, .val (.int (((j3.toUInt32 >>> ((3 : Int32) &&& 31).toUInt32).toInt32) % (3 : Int32))), .val (.ref stt), .val (.ref b59), .val (.ref b67), .val (.ref b86), .unset, .unset] [])) _
    refine XS.aload X123.here hx rfl (hb hby at_162) rfl rfl ?_
    show Steps p.tables e below (T123.setTop (mkF m 164 #[.val (.long q0), .second, .val (.int j1), .val (.int j2), .val (.int j3), .val (.int j4), .val (.int j5), .val (.ref b_1), .val (.ref b_6), .val (.int aw), .val sv18, .val sv33, .val (.int (((j3.toUInt32 >>> ((3 : Int32) &&& 31).toUInt32).toInt32) % (3 : Int32))), .val (.ref stt), .val (.ref b59), .val (.ref b67), .val (.ref b86), .unset, .unset] [(.ref b86)])) _
    refine XS.aload X123.here hx rfl (hb hby at_164) rfl (own_NS.ref hs33) ?_
    show Steps p.tables e below (T123.setTop (mkF m 166 #[.val (.long q0), .second, .val (.int j1), .val (.int j2), .val (.int j3), .val (.int j4), .val (.int j5), .val (.ref b_1), .val (.ref b_6), .val (.int aw), .val sv18, .val sv33, .val (.int (((j3.toUInt32 >>> ((3 : Int32) &&& 31).toUInt32).toInt32) % (3 : Int32))), .val (.ref stt), .val (.ref b59), .val (.ref b67), .val (.ref b86), .unset, .unset] [sv33, (.ref b86)])) _
    refine st135.trans ?_
    show Steps p.tables e below (T135.setTop (mkF m 169 #[.val (.long q0), .second, .val (.int j1), .val (.int j2), .val (.int j3), .val (.int j4), .val (.int j5), .val (.ref b_1), .val (.ref b_6), .val (.int aw), .val sv18, .val sv33, .val (.int (((j3.toUInt32 >>> ((3 : Int32) &&& 31).toUInt32).toInt32) % (3 : Int32))), .val (.ref stt), .val (.ref b59), .val (.ref b67), .val (.ref b86), .unset, .unset] [(.ref b_135)])) _
    refine XS.astore X135.here hx rfl (hb hby at_169) rfl rfl (l' := #[.val (.long q0), .second, .val (.int j1), .val (.int j2), .val (.int j3), .val (.int j4), .val (.int j5), .val (.ref b_1), .val (.ref b_6), .val (.int aw), .val sv18, .val sv33, .val (.int (((j3.toUInt32 >>> ((3 : Int32) &&& 31).toUInt32).toInt32) % (3 : Int32))), .val (.ref stt), .val (.ref b59), .val (.ref b67), .val (.ref b86), .val (.ref b_135), .unset]) rfl ?_
    show Steps p.tables e below (T135.setTop (mkF m 171 #[.val (.long q0), .second, .val (.int j1), .val (.int j2), .val (.int j3), .val (.int j4), .val (.int j5), .val (.ref b_1), .val (.ref b_6), .val (.int aw), .val sv18, .val sv33, .val (.int (((j3.toUInt32 >>> ((3 : Int32) &&& 31).toUInt32).toInt32) % (3 : Int32))), .val (.ref stt), .val (.ref b59), .val (.ref b67), .val (.ref b86), .val (.ref b_135), .unset] [])) _
    refine XS.aload X135.here hx rfl (hb hby at_171) rfl rfl ?_
    show Steps p.tables e below (T135.setTop (mkF m 173 #[.val (.long q0), .second, .val (.int j1), .val (.int j2), .val (.int j3), .val (.int j4), .val (.int j5), .val (.ref b_1), .val (.ref b_6), .val (.int aw), .val sv18, .val sv33, .val (.int (((j3.toUInt32 >>> ((3 : Int32) &&& 31).toUInt32).toInt32) % (3 : Int32))), .val (.ref stt), .val (.ref b59), .val (.ref b67), .val (.ref b86), .val (.ref b_135), .unset] [(.ref b_135)])) _
    refine st147.trans ?_
    show Steps p.tables e below (T147.setTop (mkF m 176 #[.val (.long q0), .second, .val (.int j1), .val (.int j2), .val (.int j3), .val (.int j4), .val (.int j5), .val (.ref b_1), .val (.ref b_6), .val (.int aw), .val sv18, .val sv33, .val (.int (((j3.toUInt32 >>> ((3 : Int32) &&& 31).toUInt32).toInt32) % (3 : Int32))), .val (.ref stt), .val (.ref b59), .val (.ref b67), .val (.ref b86), .val (.ref b_135), .unset] [(.ref b_123)])) _
    refine XS.astore X147.here hx rfl (hb hby at_176) rfl rfl (l' := #[.val (.long q0), .second, .val (.int j1), .val (.int j2), .val (.int j3), .val (.int j4), .val (.int j5), .val (.ref b_1), .val (.ref b_6), .val (.int aw), .val sv18, .val sv33, .val (.int (((j3.toUInt32 >>> ((3 : Int32) &&& 31).toUInt32).toInt32) % (3 : Int32))), .val (.ref stt), .val (.ref b59), .val (.ref b67), .val (.ref b86), .val (.ref b_135), .val (.ref b_123)]) rfl ?_
    show Steps p.tables e below (T147.setTop (mkF m 178 #[.val (.long q0), .second, .val (.int j1), .val (.int j2), .val (.int j3), .val (.int j4), .val (.int j5), .val (.ref b_1), .val (.ref b_6), .val (.int aw), .val sv18, .val sv33, .val (.int (((j3.toUInt32 >>> ((3 : Int32) &&& 31).toUInt32).toInt32) % (3 : Int32))), .val (.ref stt), .val (.ref b59), .val (.ref b67), .val (.ref b86), .val (.ref b_135), .val (.ref b_123)] [])) _
    refine XS.aload X147.here hx rfl (hb hby at_178) rfl rfl ?_
    show Steps p.tables e below (T147.setTop (mkF m 180 #[.val (.long q0), .second, .val (.int j1), .val (.int j2), .val (.int j3), .val (.int j4), .val (.int j5), .val (.ref b_1), .val (.ref b_6), .val (.int aw), .val sv18, .val sv33, .val (.int (((j3.toUInt32 >>> ((3 : Int32) &&& 31).toUInt32).toInt32) % (3 : Int32))), .val (.ref stt), .val (.ref b59), .val (.ref b67), .val (.ref b86), .val (.ref b_135), .val (.ref b_123)] [(.ref b_135)])) _
    refine st149.trans ?_
    show Steps p.tables e below (T149.setTop (mkF m 183 #[.val (.long q0), .second, .val (.int j1), .val (.int j2), .val (.int j3), .val (.int j4), .val (.int j5), .val (.ref b_1), .val (.ref b_6), .val (.int aw), .val sv18, .val sv33, .val (.int (((j3.toUInt32 >>> ((3 : Int32) &&& 31).toUInt32).toInt32) % (3 : Int32))), .val (.ref stt), .val (.ref b59), .val (.ref b67), .val (.ref b86), .val (.ref b_135), .val (.ref b_123)] [(.long q0)])) _
    refine XS.lloadN X149.here hx rfl (hb hby at_183) rfl ?_
    show Steps p.tables e below (T149.setTop (mkF m 184 #[.val (.long q0), .second, .val (.int j1), .val (.int j2), .val (.int j3), .val (.int j4), .val (.int j5), .val (.ref b_1), .val (.ref b_6), .val (.int aw), .val sv18, .val sv33, .val (.int (((j3.toUInt32 >>> ((3 : Int32) &&& 31).toUInt32).toInt32) % (3 : Int32))), .val (.ref stt), .val (.ref b59), .val (.ref b67), .val (.ref b86), .val (.ref b_135), .val (.ref b_123)] [(.long q0), (.long q0)])) _
    refine XS.lcmp X149.here hx rfl (hb hby at_184) rfl ?_
    show Steps p.tables e below (T149.setTop (mkF m 185 #[.val (.long q0), .second, .val (.int j1), .val (.int j2), .val (.int j3), .val (.int j4), .val (.int j5), .val (.ref b_1), .val (.ref b_6), .val (.int aw), .val sv18, .val sv33, .val (.int (((j3.toUInt32 >>> ((3 : Int32) &&& 31).toUInt32).toInt32) % (3 : Int32))), .val (.ref stt), .val (.ref b59), .val (.ref b67), .val (.ref b86), .val (.ref b_135), .val (.ref b_123)] [(.int (lcmpW q0 q0))])) _
    refine XS.ifNo X149.here hx rfl (hb hby at_185) rfl ((if0 _ _).trans (teq ((lw_eq _ _).mpr rfl)).2) ?_
    show Steps p.tables e below (T149.setTop (mkF m 188 #[.val (.long q0), .second, .val (.int j1), .val (.int j2), .val (.int j3), .val (.int j4), .val (.int j5), .val (.ref b_1), .val (.ref b_6), .val (.int aw), .val sv18, .val sv33, .val (.int (((j3.toUInt32 >>> ((3 : Int32) &&& 31).toUInt32).toInt32) % (3 : Int32))), .val (.ref stt), .val (.ref b59), .val (.ref b67), .val (.ref b86), .val (.ref b_135), .val (.ref b_123)] [])) _
    refine XS.aload X149.here hx rfl (hb hby at_188) rfl rfl ?_
    show Steps p.tables e below (T149.setTop (mkF m 190 #[.val (.long q0), .second, .val (.int j1), .val (.int j2), .val (.int j3), .val (.int j4), .val (.int j5), .val (.ref b_1), .val (.ref b_6), .val (.int aw), .val sv18, .val sv33, .val (.int (((j3.toUInt32 >>> ((3 : Int32) &&& 31).toUInt32).toInt32) % (3 : Int32))), .val (.ref stt), .val (.ref b59), .val (.ref b67), .val (.ref b86), .val (.ref b_135), .val (.ref b_123)] [(.ref b_135)])) _
    refine st150.trans ?_
    show Steps p.tables e below (T150.setTop (mkF m 193 #[.val (.long q0), .second, .val (.int j1), .val (.int j2), .val (.int j3), .val (.int j4), .val (.int j5), .val (.ref b_1), .val (.ref b_6), .val (.int aw), .val sv18, .val sv33, .val (.int (((j3.toUInt32 >>> ((3 : Int32) &&& 31).toUInt32).toInt32) % (3 : Int32))), .val (.ref stt), .val (.ref b59), .val (.ref b67), .val (.ref b86), .val (.ref b_135), .val (.ref b_123)] [(.ref b_1)])) _
    refine XS.aload X150.here hx rfl (hb hby at_193) rfl rfl ?_
    show Steps p.tables e below (T150.setTop (mkF m 195 #[.val (.long q0), .second, .val (.int j1), .val (.int j2), .val (.int j3), .val (.int j4), .val (.int j5), .val (.ref b_1), .val (.ref b_6), .val (.int aw), .val sv18, .val sv33, .val (.int (((j3.toUInt32 >>> ((3 : Int32) &&& 31).toUInt32).toInt32) % (3 : Int32))), .val (.ref stt), .val (.ref b59), .val (.ref b67), .val (.ref b86), .val (.ref b_135), .val (.ref b_123)] [(.ref b_1), (.ref b_1)])) _
    refine st153 _ ?_
    show Steps p.tables e below (T153.setTop (mkF m 198 #[.val (.long q0), .second, .val (.int j1), .val (.int j2), .val (.int j3), .val (.int j4), .val (.int j5), .val (.ref b_1), .val (.ref b_6), .val (.int aw), .val sv18, .val sv33, .val (.int (((j3.toUInt32 >>> ((3 : Int32) &&& 31).toUInt32).toInt32) % (3 : Int32))), .val (.ref stt), .val (.ref b59), .val (.ref b67), .val (.ref b86), .val (.ref b_135), .val (.ref b_123)] [(.int (1 : Int32))])) _
    refine XS.ifNo X153.here hx rfl (hb hby at_198) rfl ((if0 _ _).trans (feq (by decide)).1) ?_
    show Steps p.tables e below (T153.setTop (mkF m 201 #[.val (.long q0), .second, .val (.int j1), .val (.int j2), .val (.int j3), .val (.int j4), .val (.int j5), .val (.ref b_1), .val (.ref b_6), .val (.int aw), .val sv18, .val sv33, .val (.int (((j3.toUInt32 >>> ((3 : Int32) &&& 31).toUInt32).toInt32) % (3 : Int32))), .val (.ref stt), .val (.ref b59), .val (.ref b67), .val (.ref b86), .val (.ref b_135), .val (.ref b_123)] [])) _
    refine XS.aload X153.here hx rfl (hb hby at_201) rfl rfl ?_
    show Steps p.tables e below (T153.setTop (mkF m 203 #[.val (.long q0), .second, .val (.int j1), .val (.int j2), .val (.int j3), .val (.int j4), .val (.int j5), .val (.ref b_1), .val (.ref b_6), .val (.int aw), .val sv18, .val sv33, .val (.int (((j3.toUInt32 >>> ((3 : Int32) &&& 31).toUInt32).toInt32) % (3 : Int32))), .val (.ref stt), .val (.ref b59), .val (.ref b67), .val (.ref b86), .val (.ref b_135), .val (.ref b_123)] [(.ref b_135)])) _
    refine st154.trans ?_
    show Steps p.tables e below (T154.setTop (mkF m 206 #[.val (.long q0), .second, .val (.int j1), .val (.int j2), .val (.int j3), .val (.int j4), .val (.int j5), .val (.ref b_1), .val (.ref b_6), .val (.int aw), .val sv18, .val sv33, .val (.int (((j3.toUInt32 >>> ((3 : Int32) &&& 31).toUInt32).toInt32) % (3 : Int32))), .val (.ref stt), .val (.ref b59), .val (.ref b67), .val (.ref b86), .val (.ref b_135), .val (.ref b_123)] [(.ref b_6)])) _
    refine XS.aload X154.here hx rfl (hb hby at_206) rfl rfl ?_
    show Steps p.tables e below (T154.setTop (mkF m 208 #[.val (.long q0), .second, .val (.int j1), .val (.int j2), .val (.int j3), .val (.int j4), .val (.int j5), .val (.ref b_1), .val (.ref b_6), .val (.int aw), .val sv18, .val sv33, .val (.int (((j3.toUInt32 >>> ((3 : Int32) &&& 31).toUInt32).toInt32) % (3 : Int32))), .val (.ref stt), .val (.ref b59), .val (.ref b67), .val (.ref b86), .val (.ref b_135), .val (.ref b_123)] [(.ref b_6), (.ref b_6)])) _
    refine st157 _ ?_
    show Steps p.tables e below (T157.setTop (mkF m 211 #[.val (.long q0), .second, .val (.int j1), .val (.int j2), .val (.int j3), .val (.int j4), .val (.int j5), .val (.ref b_1), .val (.ref b_6), .val (.int aw), .val sv18, .val sv33, .val (.int (((j3.toUInt32 >>> ((3 : Int32) &&& 31).toUInt32).toInt32) % (3 : Int32))), .val (.ref stt), .val (.ref b59), .val (.ref b67), .val (.ref b86), .val (.ref b_135), .val (.ref b_123)] [(.int (1 : Int32))])) _
    refine XS.ifNo X157.here hx rfl (hb hby at_211) rfl ((if0 _ _).trans (feq (by decide)).1) ?_
    show Steps p.tables e below (T157.setTop (mkF m 214 #[.val (.long q0), .second, .val (.int j1), .val (.int j2), .val (.int j3), .val (.int j4), .val (.int j5), .val (.ref b_1), .val (.ref b_6), .val (.int aw), .val sv18, .val sv33, .val (.int (((j3.toUInt32 >>> ((3 : Int32) &&& 31).toUInt32).toInt32) % (3 : Int32))), .val (.ref stt), .val (.ref b59), .val (.ref b67), .val (.ref b86), .val (.ref b_135), .val (.ref b_123)] [])) _
    refine XS.aload X157.here hx rfl (hb hby at_214) rfl rfl ?_
    show Steps p.tables e below (T157.setTop (mkF m 216 #[.val (.long q0), .second, .val (.int j1), .val (.int j2), .val (.int j3), .val (.int j4), .val (.int j5), .val (.ref b_1), .val (.ref b_6), .val (.int aw), .val sv18, .val sv33, .val (.int (((j3.toUInt32 >>> ((3 : Int32) &&& 31).toUInt32).toInt32) % (3 : Int32))), .val (.ref stt), .val (.ref b59), .val (.ref b67), .val (.ref b86), .val (.ref b_135), .val (.ref b_123)] [(.ref b_135)])) _
    refine st158.trans ?_
    show Steps p.tables e below (T158.setTop (mkF m 219 #[.val (.long q0), .second, .val (.int j1), .val (.int j2), .val (.int j3), .val (.int j4), .val (.int j5), .val (.ref b_1), .val (.ref b_6), .val (.int aw), .val sv18, .val sv33, .val (.int (((j3.toUInt32 >>> ((3 : Int32) &&& 31).toUInt32).toInt32) % (3 : Int32))), .val (.ref stt), .val (.ref b59), .val (.ref b67), .val (.ref b86), .val (.ref b_135), .val (.ref b_123)] [(.ref stt)])) _
    refine XS.aload X158.here hx rfl (hb hby at_219) rfl rfl ?_
    show Steps p.tables e below (T158.setTop (mkF m 221 #[.val (.long q0), .second, .val (.int j1), .val (.int j2), .val (.int j3), .val (.int j4), .val (.int j5), .val (.ref b_1), .val (.ref b_6), .val (.int aw), .val sv18, .val sv33, .val (.int (((j3.toUInt32 >>> ((3 : Int32) &&& 31).toUInt32).toInt32) % (3 : Int32))), .val (.ref stt), .val (.ref b59), .val (.ref b67), .val (.ref b86), .val (.ref b_135), .val (.ref b_123)] [(.ref stt), (.ref stt)])) _
    refine Jvm.RoadKit.acmp (g := (mkF m 221 #[.val (.long q0), .second, .val (.int j1), .val (.int j2), .val (.int j3), .val (.int j4), .val (.int j5), .val (.ref b_1), .val (.ref b_6), .val (.int aw), .val sv18, .val sv33, .val (.int (((j3.toUInt32 >>> ((3 : Int32) &&& 31).toUInt32).toInt32) % (3 : Int32))), .val (.ref stt), .val (.ref b59), .val (.ref b67), .val (.ref b86), .val (.ref b_135), .val (.ref b_123)] [(.ref stt), (.ref stt)])) X158 hx rfl rfl rfl (pc0 := 221) (pc' := 224) (same := true) rfl (hb hby at_221) rfl (decide_eq_true (congrArg Value.ref rfl)) (by decide) (by decide) ?_
    show Steps p.tables e below (T158.setTop (mkF m 224 #[.val (.long q0), .second, .val (.int j1), .val (.int j2), .val (.int j3), .val (.int j4), .val (.int j5), .val (.ref b_1), .val (.ref b_6), .val (.int aw), .val sv18, .val sv33, .val (.int (((j3.toUInt32 >>> ((3 : Int32) &&& 31).toUInt32).toInt32) % (3 : Int32))), .val (.ref stt), .val (.ref b59), .val (.ref b67), .val (.ref b86), .val (.ref b_135), .val (.ref b_123)] [])) _
    refine XS.aload X158.here hx rfl (hb hby at_224) rfl rfl ?_
    show Steps p.tables e below (T158.setTop (mkF m 226 #[.val (.long q0), .second, .val (.int j1), .val (.int j2), .val (.int j3), .val (.int j4), .val (.int j5), .val (.ref b_1), .val (.ref b_6), .val (.int aw), .val sv18, .val sv33, .val (.int (((j3.toUInt32 >>> ((3 : Int32) &&& 31).toUInt32).toInt32) % (3 : Int32))), .val (.ref stt), .val (.ref b59), .val (.ref b67), .val (.ref b86), .val (.ref b_135), .val (.ref b_123)] [(.ref b_135)])) _
    refine st160.trans ?_
    show Steps p.tables e below (T160.setTop (mkF m 229 #[.val (.long q0), .second, .val (.int j1), .val (.int j2), .val (.int j3), .val (.int j4), .val (.int j5), .val (.ref b_1), .val (.ref b_6), .val (.int aw), .val sv18, .val sv33, .val (.int (((j3.toUInt32 >>> ((3 : Int32) &&& 31).toUInt32).toInt32) % (3 : Int32))), .val (.ref stt), .val (.ref b59), .val (.ref b67), .val (.ref b86), .val (.ref b_135), .val (.ref b_123)] [sv33])) _
    refine XS.aload X160.here hx rfl (hb hby at_229) rfl (own_NS.ref hs33) ?_
    show Steps p.tables e below (T160.setTop (mkF m 231 #[.val (.long q0), .second, .val (.int j1), .val (.int j2), .val (.int j3), .val (.int j4), .val (.int j5), .val (.ref b_1), .val (.ref b_6), .val (.int aw), .val sv18, .val sv33, .val (.int (((j3.toUInt32 >>> ((3 : Int32) &&& 31).toUInt32).toInt32) % (3 : Int32))), .val (.ref stt), .val (.ref b59), .val (.ref b67), .val (.ref b86), .val (.ref b_135), .val (.ref b_123)] [sv33, sv33])) _
    refine st162 _ ?_
    show Steps p.tables e below (T162.setTop (mkF m 234 #[.val (.long q0), .second, .val (.int j1), .val (.int j2), .val (.int j3), .val (.int j4), .val (.int j5), .val (.ref b_1), .val (.ref b_6), .val (.int aw), .val sv18, .val sv33, .val (.int (((j3.toUInt32 >>> ((3 : Int32) &&& 31).toUInt32).toInt32) % (3 : Int32))), .val (.ref stt), .val (.ref b59), .val (.ref b67), .val (.ref b86), .val (.ref b_135), .val (.ref b_123)] [(.int (1 : Int32))])) _
    refine XS.ifNo X162.here hx rfl (hb hby at_234) rfl ((if0 _ _).trans (feq (by decide)).1) ?_
    show Steps p.tables e below (T162.setTop (mkF m 237 #[.val (.long q0), .second, .val (.int j1), .val (.int j2), .val (.int j3), .val (.int j4), .val (.int j5), .val (.ref b_1), .val (.ref b_6), .val (.int aw), .val sv18, .val sv33, .val (.int (((j3.toUInt32 >>> ((3 : Int32) &&& 31).toUInt32).toInt32) % (3 : Int32))), .val (.ref stt), .val (.ref b59), .val (.ref b67), .val (.ref b86), .val (.ref b_135), .val (.ref b_123)] [])) _
    refine XS.aload X162.here hx rfl (hb hby at_237) rfl rfl ?_
    show Steps p.tables e below (T162.setTop (mkF m 239 #[.val (.long q0), .second, .val (.int j1), .val (.int j2), .val (.int j3), .val (.int j4), .val (.int j5), .val (.ref b_1), .val (.ref b_6), .val (.int aw), .val sv18, .val sv33, .val (.int (((j3.toUInt32 >>> ((3 : Int32) &&& 31).toUInt32).toInt32) % (3 : Int32))), .val (.ref stt), .val (.ref b59), .val (.ref b67), .val (.ref b86), .val (.ref b_135), .val (.ref b_123)] [(.ref b_135)])) _
    refine st164.trans ?_
    show Steps p.tables e below (T164.setTop (mkF m 242 #[.val (.long q0), .second, .val (.int j1), .val (.int j2), .val (.int j3), .val (.int j4), .val (.int j5), .val (.ref b_1), .val (.ref b_6), .val (.int aw), .val sv18, .val sv33, .val (.int (((j3.toUInt32 >>> ((3 : Int32) &&& 31).toUInt32).toInt32) % (3 : Int32))), .val (.ref stt), .val (.ref b59), .val (.ref b67), .val (.ref b86), .val (.ref b_135), .val (.ref b_123)] [(.int aw)])) _
    refine XS.iload X164.here hx rfl (hb hby at_242) rfl ?_
    show Steps p.tables e below (T164.setTop (mkF m 244 #[.val (.long q0), .second, .val (.int j1), .val (.int j2), .val (.int j3), .val (.int j4), .val (.int j5), .val (.ref b_1), .val (.ref b_6), .val (.int aw), .val sv18, .val sv33, .val (.int (((j3.toUInt32 >>> ((3 : Int32) &&& 31).toUInt32).toInt32) % (3 : Int32))), .val (.ref stt), .val (.ref b59), .val (.ref b67), .val (.ref b86), .val (.ref b_135), .val (.ref b_123)] [(.int aw), (.int aw)])) _
    refine XS.icmpNo X164.here hx rfl (hb hby at_244) rfl (teq rfl).2 ?_
    show Steps p.tables e below (T164.setTop (mkF m 247 #[.val (.long q0), .second, .val (.int j1), .val (.int j2), .val (.int j3), .val (.int j4), .val (.int j5), .val (.ref b_1), .val (.ref b_6), .val (.int aw), .val sv18, .val sv33, .val (.int (((j3.toUInt32 >>> ((3 : Int32) &&& 31).toUInt32).toInt32) % (3 : Int32))), .val (.ref stt), .val (.ref b59), .val (.ref b67), .val (.ref b86), .val (.ref b_135), .val (.ref b_123)] [])) _
    refine XS.aload X164.here hx rfl (hb hby at_247) rfl rfl ?_
    show Steps p.tables e below (T164.setTop (mkF m 249 #[.val (.long q0), .second, .val (.int j1), .val (.int j2), .val (.int j3), .val (.int j4), .val (.int j5), .val (.ref b_1), .val (.ref b_6), .val (.int aw), .val sv18, .val sv33, .val (.int (((j3.toUInt32 >>> ((3 : Int32) &&& 31).toUInt32).toInt32) % (3 : Int32))), .val (.ref stt), .val (.ref b59), .val (.ref b67), .val (.ref b86), .val (.ref b_135), .val (.ref b_123)] [(.ref b_123)])) _
    refine st166.trans ?_
    show Steps p.tables e below (T166.setTop (mkF m 254 #[.val (.long q0), .second, .val (.int j1), .val (.int j2), .val (.int j3), .val (.int j4), .val (.int j5), .val (.ref b_1), .val (.ref b_6), .val (.int aw), .val sv18, .val sv33, .val (.int (((j3.toUInt32 >>> ((3 : Int32) &&& 31).toUInt32).toInt32) % (3 : Int32))), .val (.ref stt), .val (.ref b59), .val (.ref b67), .val (.ref b86), .val (.ref b_135), .val (.ref b_123)] [(.int (1 : Int32))])) _
    refine XS.iconst X166.here hx rfl (hb hby at_254) ?_
    show Steps p.tables e below (T166.setTop (mkF m 255 #[.val (.long q0), .second, .val (.int j1), .val (.int j2), .val (.int j3), .val (.int j4), .val (.int j5), .val (.ref b_1), .val (.ref b_6), .val (.int aw), .val sv18, .val sv33, .val (.int (((j3.toUInt32 >>> ((3 : Int32) &&& 31).toUInt32).toInt32) % (3 : Int32))), .val (.ref stt), .val (.ref b59), .val (.ref b67), .val (.ref b86), .val (.ref b_135), .val (.ref b_123)] [(.int (1 : Int32)), (.int (1 : Int32))])) _
    refine XS.icmpNo X166.here hx rfl (hb hby at_255) rfl (teq rfl).2 ?_
    show Steps p.tables e below (T166.setTop (mkF m 258 #[.val (.long q0), .second, .val (.int j1), .val (.int j2), .val (.int j3), .val (.int j4), .val (.int j5), .val (.ref b_1), .val (.ref b_6), .val (.int aw), .val sv18, .val sv33, .val (.int (((j3.toUInt32 >>> ((3 : Int32) &&& 31).toUInt32).toInt32) % (3 : Int32))), .val (.ref stt), .val (.ref b59), .val (.ref b67), .val (.ref b86), .val (.ref b_135), .val (.ref b_123)] [])) _
    refine XS.aload X166.here hx rfl (hb hby at_258) rfl rfl ?_
    show Steps p.tables e below (T166.setTop (mkF m 260 #[.val (.long q0), .second, .val (.int j1), .val (.int j2), .val (.int j3), .val (.int j4), .val (.int j5), .val (.ref b_1), .val (.ref b_6), .val (.int aw), .val sv18, .val sv33, .val (.int (((j3.toUInt32 >>> ((3 : Int32) &&& 31).toUInt32).toInt32) % (3 : Int32))), .val (.ref stt), .val (.ref b59), .val (.ref b67), .val (.ref b86), .val (.ref b_135), .val (.ref b_123)] [(.ref b_123)])) _
    refine XS.iconst X166.here hx rfl (hb hby at_260) ?_
    show Steps p.tables e below (T166.setTop (mkF m 261 #[.val (.long q0), .second, .val (.int j1), .val (.int j2), .val (.int j3), .val (.int j4), .val (.int j5), .val (.ref b_1), .val (.ref b_6), .val (.int aw), .val sv18, .val sv33, .val (.int (((j3.toUInt32 >>> ((3 : Int32) &&& 31).toUInt32).toInt32) % (3 : Int32))), .val (.ref stt), .val (.ref b59), .val (.ref b67), .val (.ref b86), .val (.ref b_135), .val (.ref b_123)] [(.int (0 : Int32)), (.ref b_123)])) _
    refine st170.trans ?_
    show Steps p.tables e below (T170.setTop (mkF m 266 #[.val (.long q0), .second, .val (.int j1), .val (.int j2), .val (.int j3), .val (.int j4), .val (.int j5), .val (.ref b_1), .val (.ref b_6), .val (.int aw), .val sv18, .val sv33, .val (.int (((j3.toUInt32 >>> ((3 : Int32) &&& 31).toUInt32).toInt32) % (3 : Int32))), .val (.ref stt), .val (.ref b59), .val (.ref b67), .val (.ref b86), .val (.ref b_135), .val (.ref b_123)] [(.ref b59)])) _
    refine XS.aload X170.here hx rfl (hb hby at_266) rfl rfl ?_
    show Steps p.tables e below (T170.setTop (mkF m 268 #[.val (.long q0), .second, .val (.int j1), .val (.int j2), .val (.int j3), .val (.int j4), .val (.int j5), .val (.ref b_1), .val (.ref b_6), .val (.int aw), .val sv18, .val sv33, .val (.int (((j3.toUInt32 >>> ((3 : Int32) &&& 31).toUInt32).toInt32) % (3 : Int32))), .val (.ref stt), .val (.ref b59), .val (.ref b67), .val (.ref b86), .val (.ref b_135), .val (.ref b_123)] [(.ref b59), (.ref b59)])) _
    refine Jvm.RoadKit.acmp (g := (mkF m 268 #[.val (.long q0), .second, .val (.int j1), .val (.int j2), .val (.int j3), .val (.int j4), .val (.int j5), .val (.ref b_1), .val (.ref b_6), .val (.int aw), .val sv18, .val sv33, .val (.int (((j3.toUInt32 >>> ((3 : Int32) &&& 31).toUInt32).toInt32) % (3 : Int32))), .val (.ref stt), .val (.ref b59), .val (.ref b67), .val (.ref b86), .val (.ref b_135), .val (.ref b_123)] [(.ref b59), (.ref b59)])) X170 hx rfl rfl rfl (pc0 := 268) (pc' := 271) (same := true) rfl (hb hby at_268) rfl (decide_eq_true (congrArg Value.ref rfl)) (by decide) (by decide) ?_
    show Steps p.tables e below (T170.setTop (mkF m 271 #[.val (.long q0), .second, .val (.int j1), .val (.int j2), .val (.int j3), .val (.int j4), .val (.int j5), .val (.ref b_1), .val (.ref b_6), .val (.int aw), .val sv18, .val sv33, .val (.int (((j3.toUInt32 >>> ((3 : Int32) &&& 31).toUInt32).toInt32) % (3 : Int32))), .val (.ref stt), .val (.ref b59), .val (.ref b67), .val (.ref b86), .val (.ref b_135), .val (.ref b_123)] [])) _
    refine XS.aload X170.here hx rfl (hb hby at_271) rfl rfl ?_
    show Steps p.tables e below (T170.setTop (mkF m 273 #[.val (.long q0), .second, .val (.int j1), .val (.int j2), .val (.int j3), .val (.int j4), .val (.int j5), .val (.ref b_1), .val (.ref b_6), .val (.int aw), .val sv18, .val sv33, .val (.int (((j3.toUInt32 >>> ((3 : Int32) &&& 31).toUInt32).toInt32) % (3 : Int32))), .val (.ref stt), .val (.ref b59), .val (.ref b67), .val (.ref b86), .val (.ref b_135), .val (.ref b_123)] [(.ref b_135)])) _
    refine st171.trans ?_
    show Steps p.tables e below (T171.setTop (mkF m 276 #[.val (.long q0), .second, .val (.int j1), .val (.int j2), .val (.int j3), .val (.int j4), .val (.int j5), .val (.ref b_1), .val (.ref b_6), .val (.int aw), .val sv18, .val sv33, .val (.int (((j3.toUInt32 >>> ((3 : Int32) &&& 31).toUInt32).toInt32) % (3 : Int32))), .val (.ref stt), .val (.ref b59), .val (.ref b67), .val (.ref b86), .val (.ref b_135), .val (.ref b_123)] [(.ref el)])) _
    refine st173.trans ?_
    show Steps p.tables e below (T173.setTop (mkF m 281 #[.val (.long q0), .second, .val (.int j1), .val (.int j2), .val (.int j3), .val (.int j4), .val (.int j5), .val (.ref b_1), .val (.ref b_6), .val (.int aw), .val sv18, .val sv33, .val (.int (((j3.toUInt32 >>> ((3 : Int32) &&& 31).toUInt32).toInt32) % (3 : Int32))), .val (.ref stt), .val (.ref b59), .val (.ref b67), .val (.ref b86), .val (.ref b_135), .val (.ref b_123)] [(.int (0 : Int32))])) _
    refine XS.ifNo X173.here hx rfl (hb hby at_281) rfl ((if0 _ _).trans (teq rfl).2) ?_
    show Steps p.tables e below (T173.setTop (mkF m 284 #[.val (.long q0), .second, .val (.int j1), .val (.int j2), .val (.int j3), .val (.int j4), .val (.int j5), .val (.ref b_1), .val (.ref b_6), .val (.int aw), .val sv18, .val sv33, .val (.int (((j3.toUInt32 >>> ((3 : Int32) &&& 31).toUInt32).toInt32) % (3 : Int32))), .val (.ref stt), .val (.ref b59), .val (.ref b67), .val (.ref b86), .val (.ref b_135), .val (.ref b_123)] [])) _
    refine XS.aload X173.here hx rfl (hb hby at_284) rfl rfl ?_
    show Steps p.tables e below (T173.setTop (mkF m 286 #[.val (.long q0), .second, .val (.int j1), .val (.int j2), .val (.int j3), .val (.int j4), .val (.int j5), .val (.ref b_1), .val (.ref b_6), .val (.int aw), .val sv18, .val sv33, .val (.int (((j3.toUInt32 >>> ((3 : Int32) &&& 31).toUInt32).toInt32) % (3 : Int32))), .val (.ref stt), .val (.ref b59), .val (.ref b67), .val (.ref b86), .val (.ref b_135), .val (.ref b_123)] [(.ref b86)])) _
    refine st175.trans ?_
    show Steps p.tables e below (T175.setTop (mkF m 289 #[.val (.long q0), .second, .val (.int j1), .val (.int j2), .val (.int j3), .val (.int j4), .val (.int j5), .val (.ref b_1), .val (.ref b_6), .val (.int aw), .val sv18, .val sv33, .val (.int (((j3.toUInt32 >>> ((3 : Int32) &&& 31).toUInt32).toInt32) % (3 : Int32))), .val (.ref stt), .val (.ref b59), .val (.ref b67), .val (.ref b86), .val (.ref b_135), .val (.ref b_123)] [sv18])) _
    refine XS.aload X175.here hx rfl (hb hby at_289) rfl (own_NS.ref hs18) ?_
    show Steps p.tables e below (T175.setTop (mkF m 291 #[.val (.long q0), .second, .val (.int j1), .val (.int j2), .val (.int j3), .val (.int j4), .val (.int j5), .val (.ref b_1), .val (.ref b_6), .val (.int aw), .val sv18, .val sv33, .val (.int (((j3.toUInt32 >>> ((3 : Int32) &&& 31).toUInt32).toInt32) % (3 : Int32))), .val (.ref stt), .val (.ref b59), .val (.ref b67), .val (.ref b86), .val (.ref b_135), .val (.ref b_123)] [sv18, sv18])) _
    refine st179 _ ?_
    show Steps p.tables e below (T179.setTop (mkF m 294 #[.val (.long q0), .second, .val (.int j1), .val (.int j2), .val (.int j3), .val (.int j4), .val (.int j5), .val (.ref b_1), .val (.ref b_6), .val (.int aw), .val sv18, .val sv33, .val (.int (((j3.toUInt32 >>> ((3 : Int32) &&& 31).toUInt32).toInt32) % (3 : Int32))), .val (.ref stt), .val (.ref b59), .val (.ref b67), .val (.ref b86), .val (.ref b_135), .val (.ref b_123)] [(.int (1 : Int32))])) _
    refine XS.ifNo X179.here hx rfl (hb hby at_294) rfl ((if0 _ _).trans (feq (by decide)).1) ?_
    show Steps p.tables e below (T179.setTop (mkF m 297 #[.val (.long q0), .second, .val (.int j1), .val (.int j2), .val (.int j3), .val (.int j4), .val (.int j5), .val (.ref b_1), .val (.ref b_6), .val (.int aw), .val sv18, .val sv33, .val (.int (((j3.toUInt32 >>> ((3 : Int32) &&& 31).toUInt32).toInt32) % (3 : Int32))), .val (.ref stt), .val (.ref b59), .val (.ref b67), .val (.ref b86), .val (.ref b_135), .val (.ref b_123)] [])) _
    refine XS.iconst X179.here hx rfl (hb hby at_297) ?_
    show Steps p.tables e below (T179.setTop (mkF m 298 #[.val (.long q0), .second, .val (.int j1), .val (.int j2), .val (.int j3), .val (.int j4), .val (.int j5), .val (.ref b_1), .val (.ref b_6), .val (.int aw), .val sv18, .val sv33, .val (.int (((j3.toUInt32 >>> ((3 : Int32) &&& 31).toUInt32).toInt32) % (3 : Int32))), .val (.ref stt), .val (.ref b59), .val (.ref b67), .val (.ref b86), .val (.ref b_135), .val (.ref b_123)] [(.int (1 : Int32))])) _
    refine XS.goto X179.here hx rfl (pc0 := 298) (pc' := 302) rfl (hb hby at_298) (by decide) (by decide) ?_
    show Steps p.tables e below (T179.setTop (mkF m 302 #[.val (.long q0), .second, .val (.int j1), .val (.int j2), .val (.int j3), .val (.int j4), .val (.int j5), .val (.ref b_1), .val (.ref b_6), .val (.int aw), .val sv18, .val sv33, .val (.int (((j3.toUInt32 >>> ((3 : Int32) &&& 31).toUInt32).toInt32) % (3 : Int32))), .val (.ref stt), .val (.ref b59), .val (.ref b67), .val (.ref b86), .val (.ref b_135), .val (.ref b_123)] [(.int (1 : Int32))])) _
    exact retN X179 hx (t := .boolean) Bd.returns (by simp) (hb hby at_302) hr
  · show Q_own_law Z q0 j1 j2 j3 j4 j5 u0 u1 u2 G1 mr dd kd em el ea ke h0 n0 _ T179.heap _
    rw [hh179]
    exact ⟨rfl, N179⟩
set_option maxRecDepth 65536 in
set_option maxHeartbeats 40000000 in
theorem comes_1 {Post : Tables → Env → Array Value → State → Outcome → State → Prop} (hpost : ∀ tb e args s v u, (limb_1_1.after args s (.returned v) u = true ∧ limb_1_2.after args s (.returned v) u = true ∧ True) → FrameEnd s (.returned v) u (Jvm.fieldLocs frame_1_writes args s ++ Jvm.arrayLocs frame_1_arrays args s ++ Jvm.staticLocs frame_1_statics s) 48 256 → Post tb e args s (.returned v) u) :
    ArmFor flags0 classFile x code maxLocals ret World_1 tables_1 room_1 Calls_1 rest_1 Pre_1 Post := by
  intro l hfl _ _ p e ha hc hk s m args below hf hA hF happ hP
  obtain ⟨hcalls, hrest, hpre⟩ := hP
  obtain ⟨-, -, -, hnamed, -, -, -, hat⟩ := (Spec.applies_iff hf).mp happ
  obtain ⟨hg, hn⟩ := and_e (Cond.before_iff.mp (show (Jvm.Cond.and given_1 narrow_1).before args s = true from hpre))
  obtain ⟨g0, g1⟩ := and_e hg
  obtain ⟨g1, g2⟩ := and_e g1
  obtain ⟨g2, g3⟩ := and_e g2
  obtain ⟨g3, g4⟩ := and_e g3
  obtain ⟨g4, g5⟩ := and_e g4
  obtain ⟨g5, g6⟩ := and_e g5
  obtain ⟨w0, w1, w2, w3, w4, w5, rfl⟩ : ∃ (w0 : Value) (w1 : Value) (w2 : Value) (w3 : Value) (w4 : Value) (w5 : Value), args = #[w0, w1, w2, w3, w4, w5] := by
    have hs : args.size = 6 := by simpa [Cond.value, given_1] using g0
    obtain ⟨L⟩ := args
    match L, hs with
    | [w0, w1, w2, w3, w4, w5], _ => exact ⟨w0, w1, w2, w3, w4, w5, rfl⟩
  have hw := fun d (hd : d ∈ tables_1) => atoms_spec (ws := Jvm.Cond.code x code maxLocals ret :: tables_1) hat d (List.mem_cons_of_mem _ hd)
  obtain ⟨hsets, hown0⟩ := atoms_of _ (rest_1_c_eq ▸ (show rest_1_c.before _ s = true from hrest))
  have hfit : Fit s := fun {y c} hc i hi => by
    obtain ⟨ha, rfl⟩ := Array.getElem?_eq_some_iff.mp hc
    have q := List.all_eq_true.mp ((Array.all_eq_true_iff_forall_mem.mp hF) _ (Array.getElem_mem ha)) i (List.mem_range.mpr hi)
    simpa [Array.getElem?_eq_getElem hi] using q
  obtain ⟨i0, ev0⟩ := isL_v g1
  obtain rfl : w0 = (.long i0) := Option.some.inj ev0
  obtain ⟨i1, ev1⟩ := is_v g2
  obtain rfl : w1 = (.int i1) := Option.some.inj ev1
  obtain ⟨i2, ev2⟩ := is_v g3
  obtain rfl : w2 = (.int i2) := Option.some.inj ev2
  obtain ⟨i3, ev3⟩ := is_v g4
  obtain rfl : w3 = (.int i3) := Option.some.inj ev3
  obtain ⟨i4, ev4⟩ := is_v g5
  obtain rfl : w4 = (.int i4) := Option.some.inj ev4
  obtain ⟨i5, ev5⟩ := is_v g6
  obtain rfl : w5 = (.int i5) := Option.some.inj ev5
  obtain ⟨n0, hn1⟩ := and_e hn
  obtain ⟨n1, n2⟩ := and_e hn1
  obtain ⟨a_RESERVED, ev_RESERVED⟩ := exa_v n0
  have X_RESERVED := Exa.start ev_RESERVED n0
  have S_RESERVED := Sta.start ev_RESERVED (Or.inr ⟨(hw _ (List.mem_of_getElem? (i := 35) rfl)), (hw _ (List.mem_of_getElem? (i := 36) rfl))⟩)
  obtain ⟨a_SOLD, ev_SOLD⟩ := exa_v n1
  have X_SOLD := Exa.start ev_SOLD n1
  have S_SOLD := Sta.start ev_SOLD (Or.inr ⟨(hw _ (List.mem_of_getElem? (i := 35) rfl)), (hw _ (List.mem_of_getElem? (i := 312) rfl))⟩)
  obtain ⟨a_CANCELLED, ev_CANCELLED⟩ := exa_v n2
  have X_CANCELLED := Exa.start ev_CANCELLED n2
  have S_CANCELLED := Sta.start ev_CANCELLED (Or.inr ⟨(hw _ (List.mem_of_getElem? (i := 35) rfl)), (hw _ (List.mem_of_getElem? (i := 314) rfl))⟩)
  obtain ⟨G1, eG1⟩ := is_v (Cond.before_iff.mp (hsets _ (List.mem_of_getElem? (i := 1) rfl)))
  have S_CS : Sta s s.heap "java/lang/String" "COMPACT_STRINGS" "Z" (.int G1) := Sta.start eG1 (Or.inl (hsets _ (List.mem_of_getElem? (i := 0) rfl)))
  have nG1 := not_v (Cond.before_iff.mp (hsets _ (List.mem_of_getElem? (i := 2) rfl)))
  have hG1 : ¬ (G1 = (0 : Int32)) := gotF (Cond.eq_ints eG1 (Term.int_eval (0))) nG1
  obtain ⟨dd, ev_dd⟩ := arr_v (Cond.before_iff.mp (hsets _ (List.mem_of_getElem? (i := 15) rfl)))
  have S_dd := Sta.start ev_dd (Or.inr ⟨(hw _ (List.mem_of_getElem? (i := 57) rfl)), (hsets _ (List.mem_of_getElem? (i := 11) rfl))⟩)
  obtain ⟨kd, A_dd⟩ := own_empty hfit ev_dd (Cond.before_iff.mp (hsets _ (List.mem_of_getElem? (i := 15) rfl))) (Cond.before_iff.mp (hsets _ (List.mem_of_getElem? (i := 17) rfl)))
  obtain ⟨em, ev_em⟩ := exa_v (Cond.before_iff.mp (hsets _ (List.mem_of_getElem? (i := 20) rfl)))
  have S_em := Sta.start ev_em (Or.inl (hsets _ (List.mem_of_getElem? (i := 19) rfl)))
  obtain ⟨el, ev_el⟩ := exa_v (Cond.before_iff.mp (hsets _ (List.mem_of_getElem? (i := 29) rfl)))
  have S_el := Sta.start ev_el (Or.inl (hsets _ (List.mem_of_getElem? (i := 28) rfl)))
  have E_el := Exa.start ev_el (Cond.before_iff.mp (hsets _ (List.mem_of_getElem? (i := 29) rfl)))
  obtain ⟨ea, ev_ea⟩ := arr_v (Cond.before_iff.mp (hsets _ (List.mem_of_getElem? (i := 30) rfl)))
  have F_ea := Fld.start ((fld_at ev_el).symm.trans ev_ea)
  obtain ⟨ke, A_ea⟩ := own_empty hfit ev_ea (Cond.before_iff.mp (hsets _ (List.mem_of_getElem? (i := 30) rfl))) (Cond.before_iff.mp (hsets _ (List.mem_of_getElem? (i := 32) rfl)))
  have F_an := Fld.start ((fld_at ev_el).symm.trans (own_eqI (Cond.before_iff.mp (hsets _ (List.mem_of_getElem? (i := 33) rfl)))))
  obtain ⟨cm, km, mr, hm1, hm2, hm3⟩ := hcalls.1
  obtain ⟨n, o, h1, h2, h3, _, L, rfl, ⟨rfl, N⟩, hq⟩ := own_law l s _ hw tables_1 i0 i1 i2 i3 i4 i5 a_RESERVED a_SOLD a_CANCELLED G1 mr dd kd em el ea ke s.heap s.heap.size (Old.start s) S_RESERVED S_SOLD S_CANCELLED S_CS hG1 ⟨cm, km, hm1, hm2, hm3.1⟩ S_dd A_dd S_em S_el E_el F_an F_ea A_ea p e ha hc hk s m _ below hf ((Spec.applies_iff_loose hf).mp happ).1 ⟨rfl, State.Warmed39.refl s, rfl⟩ trivial
  refine ⟨n, _, h1, h2, h3, hpost _ _ _ _ _ _ ⟨Cond.after_iff.mpr rfl, Cond.after_iff.mpr (eq_i res_at (Term.int_eval (1)) rfl), trivial⟩ ⟨hq.1, hq.2.1, (hq.2.2.sift fun y hy => Or.inr (N y hy)).mono (by decide) (by decide)⟩⟩
theorem main_1_1 : Claimed_1_1 := comes_1 fun _ _ _ _ _ _ h hF => ⟨h.1, hF⟩
theorem main_1_2 : Claimed_1_2 := comes_1 fun _ _ _ _ _ _ h hF => ⟨h.2.1, hF⟩
end Jvm.Pilot.@@N@@
namespace Jvm.Pilot.@@N@@
open Jvm Jvm.ClassFile Sem Op Lib Jvm.Free Jvm.Stand Jvm.Pilot.@@N@@.Jvm.D
/-! MADE BY PROGRAM (witnessworld.py) out of the Statement's table words and the real class files: 43 classes; the members and pool entries that the words name. The judged class is class 1, her method 3. -/
namespace start1
open Jvm.ClassFile
def u (s : String) : CpInfo := .utf8 (stringToUtf16 s)
/-- a pool by its gaps: so many unusable entries, then the entry; so many at the end -/
def gap : Nat → List CpInfo → List CpInfo
  | 0, r => r
  | n + 1, r => .unusable :: gap n r
def poolList (es : List (Nat × CpInfo)) (last : Nat) : List CpInfo := es.foldr (fun e r => gap e.1 (e.2 :: r)) (gap last [])
def pool (es : List (Nat × CpInfo)) (last : Nat) : Array CpInfo := ⟨poolList es last⟩
def fileOf (pool : Array CpInfo) (this : Nat) (attrs : Array Attribute := #[]) (ms : Array MethodInfo := #[]) (fl : Nat := 33) (sup : Nat := 0) (ifs : Array Nat := #[]) (fds : Array FieldInfo := #[]) : ClassFile where
  minorVersion := 0
  majorVersion := 65
  constantPool := pool
  accessFlags := fl
  thisClass := this
  superClass := sup
  interfaces := ifs
  fields := fds
  methods := ms
  attributes := attrs
def plain (name : String) (sup : Option ClassId) : Class where
  name := name
  kind := .ordinary
  loader := none
  accessFlags := 33
  super := sup
  interfaces := #[]
  cf := none
  fields := #[]
  methods := #[]
  instanceTypes := #[]
  staticTypes := #[]
  resolved := #[]
  callSites := []
  init := .initialized
  statics := none
  mirror := none

def pool0 : Array CpInfo := pool [(5, u "<init>"), (0, u "()V"), (1, .class_ 10), (1, u "java/lang/Object"), (0, u "getClass"), (0, u "()Ljava/lang/Class;")] 111

def k0c0 : Code := { maxStack := 0, maxLocals := 1, code := object_method_1_code, exceptionTable := #[], attributes := #[] }
def k0m0 : Method := { name := "<init>", desc := "()V", sig := { parameters := [], returnType := none }, accessFlags := 1, code := some k0c0 }
def k0m1 : Method := { name := "getClass", desc := "()Ljava/lang/Class;", sig := { parameters := [], returnType := some (.object "java/lang/Class") }, accessFlags := 273, code := none }
/-- java/lang/Object -/
def k0 : Class := { plain "java/lang/Object" none with
  accessFlags := 33
  interfaces := #[]
  cf := some (fileOf pool0 8 #[] #[{ accessFlags := 1, nameIndex := 5, descriptorIndex := 6, attributes := #[] }, { accessFlags := 273, nameIndex := 11, descriptorIndex := 12, attributes := #[] }] 33 0 #[] #[])
  fields := #[]
  methods := #[k0m0, k0m1]
  instanceTypes := #[]
  staticTypes := #[]
  resolved := Array.replicate 124 none
  statics := none }

def pool1 : Array CpInfo := pool [(2, .class_ 4), (0, .nameAndType 5 6), (0, u "java/lang/Object"), (0, u "<init>"), (0, u "()V"), (0, .class_ 8), (0, u "java/lang/String"), (0, .methodref 7 10), (0, .nameAndType 5 11), (0, u "([C)V"), (0, .methodref 7 13), (0, .nameAndType 14 15), (0, u "equals"), (0, u "(Ljava/lang/Object;)Z"), (0, .methodref 17 18), (0, .class_ 19), (0, .nameAndType 20 21), (0, u "com/example/myna/myna/orders/OrderWithExternalStatePinLaw"), (0, u "two"), (0, u "(I)Ljava/lang/String;"), (0, .fieldref 23 24), (0, .class_ 25), (0, .nameAndType 26 27), (0, u "com/example/myna/myna/orders/Order$State"), (0, u "RESERVED"), (0, u "Lcom/example/myna/myna/orders/Order$State;"), (0, .fieldref 23 29), (0, .nameAndType 30 27), (0, u "SOLD"), (0, .fieldref 23 32), (0, .nameAndType 33 27), (0, u "CANCELLED"), (0, .class_ 35), (0, u "com/example/myna/myna/orders/OrderLine"), (0, .methodref 34 37), (0, .nameAndType 5 38), (0, u "(Lcom/example/myna/myna/catalog/Sku;II)V"), (0, .class_ 40), (0, u "java/util/ArrayList"), (0, .methodref 39 3), (0, .methodref 39 43), (0, .nameAndType 44 15), (0, u "add"), (0, .class_ 46), (0, u "com/example/myna/myna/orders/Order"), (0, .methodref 45 48), (0, .nameAndType 5 49), (0, u "(JLjava/lang/String;Ljava/lang/String;Lcom/example/myna/myna/orders/Order$State;Ljava/lang/String;ZLjava/util/List;Ljava/util/List;)V"), (0, .methodref 45 51), (0, .nameAndType 52 53), (0, u "withExternalState"), (0, u "(Ljava/lang/String;)Lcom/example/myna/myna/orders/Order;"), (0, .methodref 45 55), (0, .nameAndType 56 57), (0, u "lines"), (0, u "()Ljava/util/List;"), (0, .methodref 45 59), (0, .nameAndType 60 61), (0, u "id"), (0, u "()J"), (0, .methodref 45 63), (0, .nameAndType 64 65), (0, u "channel"), (0, u "()Ljava/lang/String;"), (0, .methodref 17 67), (0, .nameAndType 68 69), (0, u "same"), (0, u "(Ljava/lang/String;Ljava/lang/String;)Z"), (0, .methodref 45 71), (0, .nameAndType 72 65), (0, u "externalId"), (0, .methodref 45 74), (0, .nameAndType 75 76), (0, u "state"), (0, u "()Lcom/example/myna/myna/orders/Order$State;"), (0, .methodref 45 78), (0, .nameAndType 79 65), (0, u "externalState"), (0, .methodref 45 81), (0, .nameAndType 82 83), (0, u "awaitingAcknowledgement"), (0, u "()Z"), (0, .interfaceMethodref 85 86), (0, .class_ 87), (0, .nameAndType 88 89), (0, u "java/util/List"), (0, u "size"), (0, u "()I"), (0, .interfaceMethodref 85 91), (0, .nameAndType 92 93), (0, u "get"), (0, u "(I)Ljava/lang/Object;"), (0, .methodref 45 95), (0, .nameAndType 96 57), (0, u "payments"), (3, u "law"), (0, u "(JIIIII)Z")] 4

def k1m0 : Method := { name := "<init>", desc := "()V", sig := { parameters := [], returnType := none }, accessFlags := 1, code := none }
def k1c1 : Code := { maxStack := 4, maxLocals := 2, code := method_2_code, exceptionTable := #[], attributes := #[] }
def k1m1 : Method := { name := "two", desc := "(I)Ljava/lang/String;", sig := { parameters := [.int], returnType := some (.object "java/lang/String") }, accessFlags := 10, code := some k1c1 }
def k1c2 : Code := { maxStack := 2, maxLocals := 2, code := method_3_code, exceptionTable := #[], attributes := #[] }
def k1m2 : Method := { name := "same", desc := "(Ljava/lang/String;Ljava/lang/String;)Z", sig := { parameters := [(.object "java/lang/String"), (.object "java/lang/String")], returnType := some .boolean }, accessFlags := 10, code := some k1c2 }
def k1c3 : Code := { maxStack := 12, maxLocals := 19, code := code, exceptionTable := #[], attributes := #[] }
def k1m3 : Method := { name := "law", desc := "(JIIIII)Z", sig := { parameters := [.long, .int, .int, .int, .int, .int], returnType := some .boolean }, accessFlags := 9, code := some k1c3 }
/-- com/example/myna/myna/orders/OrderWithExternalStatePinLaw -/
def k1 : Class := { plain "com/example/myna/myna/orders/OrderWithExternalStatePinLaw" (some 0) with
  accessFlags := 49
  interfaces := #[]
  cf := some (fileOf pool1 17 #[] #[{ accessFlags := 1, nameIndex := 5, descriptorIndex := 6, attributes := #[] }, { accessFlags := 10, nameIndex := 20, descriptorIndex := 21, attributes := #[] }, { accessFlags := 10, nameIndex := 68, descriptorIndex := 69, attributes := #[] }, { accessFlags := 9, nameIndex := 100, descriptorIndex := 101, attributes := #[] }] 49 2 #[] #[])
  fields := #[]
  methods := #[k1m0, k1m1, k1m2, k1m3]
  instanceTypes := #[]
  staticTypes := #[]
  resolved := Array.replicate 106 none
  statics := none }

def pool2 : Array CpInfo := pool [(1, .class_ 2), (0, u "java/io/Serializable"), (0, .class_ 4), (0, u "java/lang/Object")] 2

/-- java/io/Serializable -/
def k2 : Class := { plain "java/io/Serializable" (some 0) with
  accessFlags := 1537
  interfaces := #[]
  cf := some (fileOf pool2 1 #[] #[] 1537 3 #[] #[])
  fields := #[]
  methods := #[]
  instanceTypes := #[]
  staticTypes := #[]
  resolved := Array.replicate 7 none
  statics := none }

def pool3 : Array CpInfo := pool [(1, .class_ 2), (0, u "java/lang/Comparable"), (0, .class_ 4), (0, u "java/lang/Object")] 7

/-- java/lang/Comparable -/
def k3 : Class := { plain "java/lang/Comparable" (some 0) with
  accessFlags := 1537
  interfaces := #[]
  cf := some (fileOf pool3 1 #[] #[] 1537 3 #[] #[])
  fields := #[]
  methods := #[]
  instanceTypes := #[]
  staticTypes := #[]
  resolved := Array.replicate 12 none
  statics := none }

def pool4 : Array CpInfo := pool [(2, .class_ 4), (1, u "java/lang/CharSequence"), (42, .class_ 48), (0, u "java/lang/CharSequence$1CodePointIterator"), (10, .class_ 60), (0, u "java/lang/CharSequence$1CharIterator"), (5, .class_ 67), (0, u "java/lang/Object")] 63

/-- java/lang/CharSequence -/
def k4 : Class := { plain "java/lang/CharSequence" (some 0) with
  accessFlags := 1537
  interfaces := #[]
  cf := some (fileOf pool4 2 #[.nestMembers #[47, 59]] #[] 1537 66 #[] #[])
  fields := #[]
  methods := #[]
  instanceTypes := #[]
  staticTypes := #[]
  resolved := Array.replicate 131 none
  statics := none }

def pool5 : Array CpInfo := pool [(1, .class_ 2), (0, u "java/lang/constant/Constable"), (0, .class_ 4), (0, u "java/lang/Object")] 6

/-- java/lang/constant/Constable -/
def k5 : Class := { plain "java/lang/constant/Constable" (some 0) with
  accessFlags := 1537
  interfaces := #[]
  cf := some (fileOf pool5 1 #[] #[] 1537 3 #[] #[])
  fields := #[]
  methods := #[]
  instanceTypes := #[]
  staticTypes := #[]
  resolved := Array.replicate 11 none
  statics := none }

def pool6 : Array CpInfo := pool [(1, .class_ 2), (0, u "java/lang/constant/ConstantDesc"), (0, .class_ 4), (0, u "java/lang/Object")] 32

/-- java/lang/constant/ConstantDesc -/
def k6 : Class := { plain "java/lang/constant/ConstantDesc" (some 0) with
  accessFlags := 1537
  interfaces := #[]
  cf := some (fileOf pool6 1 #[] #[] 1537 3 #[] #[])
  fields := #[]
  methods := #[]
  instanceTypes := #[]
  staticTypes := #[]
  resolved := Array.replicate 37 none
  statics := none }

def pool7 : Array CpInfo := pool [(1, .methodref 2 3), (0, .class_ 4), (0, .nameAndType 5 6), (0, u "java/lang/Object"), (0, u "<init>"), (0, u "()V"), (2, .fieldref 10 11), (0, .class_ 12), (0, .nameAndType 13 14), (0, u "java/lang/String"), (0, u "value"), (0, u "[B"), (0, .fieldref 10 16), (0, .nameAndType 17 18), (0, u "coder"), (0, u "B"), (2, u "hash"), (0, u "I"), (2, u "hashIsZero"), (0, u "Z"), (0, .methodref 10 28), (0, .nameAndType 5 29), (0, u "([CIILjava/lang/Void;)V"), (8, .fieldref 10 39), (0, .nameAndType 40 26), (0, u "COMPACT_STRINGS"), (1, .class_ 44), (1, u "java/lang/StringUTF16"), (0, u "compress"), (1, .methodref 42 48), (0, .nameAndType 49 50), (0, u "coderFromArrayLen"), (0, u "([BI)B"), (126, .methodref 42 178), (0, .nameAndType 45 179), (0, u "([CII)[B"), (363, u "equals"), (29, u "(Ljava/lang/Object;)Z"), (1, .class_ 576), (0, u "java/lang/CharSequence"), (22, u "CASE_INSENSITIVE_ORDER"), (0, u "Ljava/util/Comparator;"), (409, u "([C)V"), (90, u "serialPersistentFields"), (0, u "[Ljava/io/ObjectStreamField;"), (0, .class_ 1104), (0, u "java/lang/String$CaseInsensitiveComparator"), (1, .class_ 1107), (0, u "java/io/Serializable"), (0, .class_ 1109), (0, u "java/lang/Comparable"), (0, .class_ 1111), (0, u "java/lang/constant/Constable"), (0, .class_ 1113), (0, u "java/lang/constant/ConstantDesc"), (2, u "serialVersionUID"), (0, u "J"), (3, u "REPL"), (0, u "C"), (2, u "LATIN1"), (1, u "UTF16")] 323

def k7m0 : Method := { name := "<init>", desc := "()V", sig := { parameters := [], returnType := none }, accessFlags := 1, code := none }
def k7c1 : Code := { maxStack := 5, maxLocals := 2, code := jdk_42_method_3_code, exceptionTable := #[], attributes := #[] }
def k7m1 : Method := { name := "<init>", desc := "([C)V", sig := { parameters := [(.array .char)], returnType := none }, accessFlags := 1, code := some k7c1 }
def k7c2 : Code := { maxStack := 2, maxLocals := 3, code := jdk_42_method_66_code, exceptionTable := #[], attributes := #[] }
def k7m2 : Method := { name := "equals", desc := "(Ljava/lang/Object;)Z", sig := { parameters := [(.object "java/lang/Object")], returnType := some .boolean }, accessFlags := 1, code := some k7c2 }
def k7c3 : Code := { maxStack := 4, maxLocals := 6, code := jdk_42_method_149_code, exceptionTable := #[], attributes := #[] }
def k7m3 : Method := { name := "<init>", desc := "([CIILjava/lang/Void;)V", sig := { parameters := [(.array .char), .int, .int, (.object "java/lang/Void")], returnType := none }, accessFlags := 2, code := some k7c3 }
/-- java/lang/String -/
def k7 : Class := { plain "java/lang/String" (some 0) with
  accessFlags := 49
  interfaces := #[2, 3, 4, 5, 6]
  cf := some (fileOf pool7 10 #[.nestMembers #[1103]] #[{ accessFlags := 1, nameIndex := 5, descriptorIndex := 6, attributes := #[] }, { accessFlags := 1, nameIndex := 5, descriptorIndex := 1010, attributes := #[] }, { accessFlags := 1, nameIndex := 543, descriptorIndex := 573, attributes := #[] }, { accessFlags := 2, nameIndex := 5, descriptorIndex := 29, attributes := #[] }] 49 2 #[1106, 1108, 575, 1110, 1112] #[{ accessFlags := 18, nameIndex := 13, descriptorIndex := 14, attributes := #[] }, { accessFlags := 18, nameIndex := 17, descriptorIndex := 18, attributes := #[] }, { accessFlags := 2, nameIndex := 21, descriptorIndex := 22, attributes := #[] }, { accessFlags := 2, nameIndex := 25, descriptorIndex := 26, attributes := #[] }, { accessFlags := 26, nameIndex := 1116, descriptorIndex := 1117, attributes := #[] }, { accessFlags := 24, nameIndex := 40, descriptorIndex := 26, attributes := #[] }, { accessFlags := 26, nameIndex := 1101, descriptorIndex := 1102, attributes := #[] }, { accessFlags := 26, nameIndex := 1121, descriptorIndex := 1122, attributes := #[] }, { accessFlags := 25, nameIndex := 599, descriptorIndex := 600, attributes := #[] }, { accessFlags := 24, nameIndex := 1125, descriptorIndex := 18, attributes := #[] }, { accessFlags := 24, nameIndex := 1127, descriptorIndex := 18, attributes := #[] }])
  fields := #[{ name := "value", type := (.array .byte), accessFlags := 18, slot := 0, constantValue := 0 }, { name := "coder", type := .byte, accessFlags := 18, slot := 1, constantValue := 0 }, { name := "hash", type := .int, accessFlags := 2, slot := 2, constantValue := 0 }, { name := "hashIsZero", type := .boolean, accessFlags := 2, slot := 3, constantValue := 0 }, { name := "serialVersionUID", type := .long, accessFlags := 26, slot := 0, constantValue := 0 }, { name := "COMPACT_STRINGS", type := .boolean, accessFlags := 24, slot := 1, constantValue := 0 }, { name := "serialPersistentFields", type := (.array (.object "java/io/ObjectStreamField")), accessFlags := 26, slot := 2, constantValue := 0 }, { name := "REPL", type := .char, accessFlags := 26, slot := 3, constantValue := 0 }, { name := "CASE_INSENSITIVE_ORDER", type := (.object "java/util/Comparator"), accessFlags := 25, slot := 4, constantValue := 0 }, { name := "LATIN1", type := .byte, accessFlags := 24, slot := 5, constantValue := 0 }, { name := "UTF16", type := .byte, accessFlags := 24, slot := 6, constantValue := 0 }]
  methods := #[k7m0, k7m1, k7m2, k7m3]
  instanceTypes := #[(.array .byte), .byte, .int, .boolean]
  staticTypes := #[.long, .boolean, (.array (.object "java/io/ObjectStreamField")), .char, (.object "java/util/Comparator"), .byte, .byte]
  resolved := Array.replicate 1451 none
  statics := some 0 }

def pool8 : Array CpInfo := pool [(6, .class_ 8), (1, u "java/lang/Object"), (0, u "<init>"), (0, u "()V"), (1, .class_ 14), (1, u "java/lang/StringUTF16"), (31, u "$assertionsDisabled"), (0, u "Z"), (13, u "HI_BYTE_SHIFT"), (0, u "I"), (2, u "LO_BYTE_SHIFT"), (49, .methodref 12 116), (0, .nameAndType 117 118), (0, u "compress"), (0, u "([CI[BII)I"), (3, u "([CII)[B"), (138, u "coderFromArrayLen"), (0, u "([BI)B"), (106, .class_ 371), (1, u "java/lang/StringUTF16$LinesSpliterator"), (58, u "MAX_LENGTH"), (196, .class_ 628), (0, u "java/lang/StringUTF16$CodePointsSpliterator"), (0, .class_ 630), (0, u "java/lang/StringUTF16$CharsSpliterator")] 4

def k8m0 : Method := { name := "<init>", desc := "()V", sig := { parameters := [], returnType := none }, accessFlags := 0, code := none }
def k8c1 : Code := { maxStack := 2, maxLocals := 2, code := jdk_52_method_15_code, exceptionTable := #[], attributes := #[] }
def k8m1 : Method := { name := "coderFromArrayLen", desc := "([BI)B", sig := { parameters := [(.array .byte), .int], returnType := some .byte }, accessFlags := 8, code := some k8c1 }
def k8c2 : Code := { maxStack := 5, maxLocals := 6, code := jdk_52_method_16_code, exceptionTable := #[], attributes := #[] }
def k8m2 : Method := { name := "compress", desc := "([CII)[B", sig := { parameters := [(.array .char), .int, .int], returnType := some (.array .byte) }, accessFlags := 9, code := some k8c2 }
def k8c3 : Code := { maxStack := 3, maxLocals := 7, code := jdk_52_method_21_code, exceptionTable := #[], attributes := #[] }
def k8m3 : Method := { name := "compress", desc := "([CI[BII)I", sig := { parameters := [(.array .char), .int, (.array .byte), .int, .int], returnType := some .int }, accessFlags := 9, code := some k8c3 }
/-- java/lang/StringUTF16 -/
def k8 : Class := { plain "java/lang/StringUTF16" (some 0) with
  accessFlags := 48
  interfaces := #[]
  cf := some (fileOf pool8 12 #[.nestMembers #[627, 629, 369]] #[{ accessFlags := 0, nameIndex := 9, descriptorIndex := 10, attributes := #[] }, { accessFlags := 8, nameIndex := 261, descriptorIndex := 262, attributes := #[] }, { accessFlags := 9, nameIndex := 117, descriptorIndex := 122, attributes := #[] }, { accessFlags := 9, nameIndex := 117, descriptorIndex := 118, attributes := #[] }] 48 6 #[] #[{ accessFlags := 26, nameIndex := 61, descriptorIndex := 62, attributes := #[] }, { accessFlags := 26, nameIndex := 65, descriptorIndex := 62, attributes := #[] }, { accessFlags := 24, nameIndex := 430, descriptorIndex := 62, attributes := #[] }, { accessFlags := 4120, nameIndex := 46, descriptorIndex := 47, attributes := #[] }])
  fields := #[{ name := "HI_BYTE_SHIFT", type := .int, accessFlags := 26, slot := 0, constantValue := 0 }, { name := "LO_BYTE_SHIFT", type := .int, accessFlags := 26, slot := 1, constantValue := 0 }, { name := "MAX_LENGTH", type := .int, accessFlags := 24, slot := 2, constantValue := 0 }, { name := "$assertionsDisabled", type := .boolean, accessFlags := 4120, slot := 3, constantValue := 0 }]
  methods := #[k8m0, k8m1, k8m2, k8m3]
  instanceTypes := #[]
  staticTypes := #[.int, .int, .int, .boolean]
  resolved := Array.replicate 635 none
  statics := none }

def pool9 : Array CpInfo := pool [(2, .class_ 4), (1, u "java/lang/Enum"), (0, u "name"), (0, u "Ljava/lang/String;"), (2, u "ordinal"), (0, u "I"), (1, .class_ 14), (1, u "java/lang/Object"), (4, u "hash"), (86, .class_ 108), (1, u "java/lang/Enum$EnumDesc"), (2, .class_ 112), (0, u "java/lang/constant/Constable"), (0, .class_ 114), (0, u "java/lang/Comparable"), (0, .class_ 116), (0, u "java/io/Serializable")] 87

/-- java/lang/Enum -/
def k9 : Class := { plain "java/lang/Enum" (some 0) with
  accessFlags := 1057
  interfaces := #[5, 3, 2]
  cf := some (fileOf pool9 2 #[.nestMembers #[106]] #[] 1057 12 #[111, 113, 115] #[{ accessFlags := 18, nameIndex := 5, descriptorIndex := 6, attributes := #[] }, { accessFlags := 18, nameIndex := 9, descriptorIndex := 10, attributes := #[] }, { accessFlags := 2, nameIndex := 19, descriptorIndex := 10, attributes := #[] }])
  fields := #[{ name := "name", type := (.object "java/lang/String"), accessFlags := 18, slot := 0, constantValue := 0 }, { name := "ordinal", type := .int, accessFlags := 18, slot := 1, constantValue := 0 }, { name := "hash", type := .int, accessFlags := 2, slot := 2, constantValue := 0 }]
  methods := #[]
  instanceTypes := #[(.object "java/lang/String"), .int, .int]
  staticTypes := #[]
  resolved := Array.replicate 204 none
  statics := none }

def pool10 : Array CpInfo := pool [(1, .class_ 2), (0, u "com/example/myna/myna/orders/Order$State"), (2, u "RESERVED"), (0, u "Lcom/example/myna/myna/orders/Order$State;"), (2, u "SOLD"), (2, u "CANCELLED"), (2, u "$VALUES"), (0, u "[Lcom/example/myna/myna/orders/Order$State;"), (6, .class_ 25), (1, u "java/lang/Enum"), (26, .class_ 53), (0, u "com/example/myna/myna/orders/Order")] 2

/-- com/example/myna/myna/orders/Order$State -/
def k10 : Class := { plain "com/example/myna/myna/orders/Order$State" (some 9) with
  accessFlags := 16433
  interfaces := #[]
  cf := some (fileOf pool10 1 #[.nestHost 52] #[] 16433 23 #[] #[{ accessFlags := 16409, nameIndex := 5, descriptorIndex := 6, attributes := #[] }, { accessFlags := 16409, nameIndex := 9, descriptorIndex := 6, attributes := #[] }, { accessFlags := 16409, nameIndex := 12, descriptorIndex := 6, attributes := #[] }, { accessFlags := 4122, nameIndex := 15, descriptorIndex := 16, attributes := #[] }])
  fields := #[{ name := "RESERVED", type := (.object "com/example/myna/myna/orders/Order$State"), accessFlags := 16409, slot := 0, constantValue := 0 }, { name := "SOLD", type := (.object "com/example/myna/myna/orders/Order$State"), accessFlags := 16409, slot := 1, constantValue := 0 }, { name := "CANCELLED", type := (.object "com/example/myna/myna/orders/Order$State"), accessFlags := 16409, slot := 2, constantValue := 0 }, { name := "$VALUES", type := (.array (.object "com/example/myna/myna/orders/Order$State")), accessFlags := 4122, slot := 3, constantValue := 0 }]
  methods := #[]
  instanceTypes := #[(.object "java/lang/String"), .int, .int]
  staticTypes := #[(.object "com/example/myna/myna/orders/Order$State"), (.object "com/example/myna/myna/orders/Order$State"), (.object "com/example/myna/myna/orders/Order$State"), (.array (.object "com/example/myna/myna/orders/Order$State"))]
  resolved := Array.replicate 56 none
  statics := some 1 }

def pool11 : Array CpInfo := pool [(1, .methodref 2 3), (0, .class_ 4), (0, .nameAndType 5 6), (0, u "java/lang/Object"), (0, u "<init>"), (0, u "()V"), (0, .class_ 8), (0, u "java/lang/Record")] 13

def k11c0 : Code := { maxStack := 1, maxLocals := 1, code := jdk_30_method_1_code, exceptionTable := #[], attributes := #[] }
def k11m0 : Method := { name := "<init>", desc := "()V", sig := { parameters := [], returnType := none }, accessFlags := 4, code := some k11c0 }
/-- java/lang/Record -/
def k11 : Class := { plain "java/lang/Record" (some 0) with
  accessFlags := 1057
  interfaces := #[]
  cf := some (fileOf pool11 7 #[] #[{ accessFlags := 4, nameIndex := 5, descriptorIndex := 6, attributes := #[] }] 1057 2 #[] #[])
  fields := #[]
  methods := #[k11m0]
  instanceTypes := #[]
  staticTypes := #[]
  resolved := Array.replicate 22 none
  statics := none }

def pool12 : Array CpInfo := pool [(1, .methodref 2 3), (0, .class_ 4), (0, .nameAndType 5 6), (0, u "java/lang/Record"), (0, u "<init>"), (0, u "()V"), (0, .fieldref 8 9), (0, .class_ 10), (0, .nameAndType 11 12), (0, u "com/example/myna/myna/orders/OrderLine"), (0, u "sku"), (0, u "Lcom/example/myna/myna/catalog/Sku;"), (0, .fieldref 8 14), (0, .nameAndType 15 16), (0, u "asked"), (0, u "I"), (0, .fieldref 8 18), (0, .nameAndType 19 16), (0, u "taken"), (12, u "(Lcom/example/myna/myna/catalog/Sku;II)V")] 29

def k12c0 : Code := { maxStack := 2, maxLocals := 4, code := prog_21_method_1_code, exceptionTable := #[], attributes := #[] }
def k12m0 : Method := { name := "<init>", desc := "(Lcom/example/myna/myna/catalog/Sku;II)V", sig := { parameters := [(.object "com/example/myna/myna/catalog/Sku"), .int, .int], returnType := none }, accessFlags := 1, code := some k12c0 }
/-- com/example/myna/myna/orders/OrderLine -/
def k12 : Class := { plain "com/example/myna/myna/orders/OrderLine" (some 11) with
  accessFlags := 49
  interfaces := #[]
  cf := some (fileOf pool12 8 #[] #[{ accessFlags := 1, nameIndex := 5, descriptorIndex := 32, attributes := #[] }] 49 2 #[] #[{ accessFlags := 18, nameIndex := 11, descriptorIndex := 12, attributes := #[] }, { accessFlags := 18, nameIndex := 15, descriptorIndex := 16, attributes := #[] }, { accessFlags := 18, nameIndex := 19, descriptorIndex := 16, attributes := #[] }])
  fields := #[{ name := "sku", type := (.object "com/example/myna/myna/catalog/Sku"), accessFlags := 18, slot := 0, constantValue := 0 }, { name := "asked", type := .int, accessFlags := 18, slot := 1, constantValue := 0 }, { name := "taken", type := .int, accessFlags := 18, slot := 2, constantValue := 0 }]
  methods := #[k12m0]
  instanceTypes := #[(.object "com/example/myna/myna/catalog/Sku"), .int, .int]
  staticTypes := #[]
  resolved := Array.replicate 62 none
  statics := none }

def pool13 : Array CpInfo := pool [(8, .class_ 10), (1, u "java/lang/Iterable"), (24, .class_ 36), (0, u "java/lang/Object")] 25

/-- java/lang/Iterable -/
def k13 : Class := { plain "java/lang/Iterable" (some 0) with
  accessFlags := 1537
  interfaces := #[]
  cf := some (fileOf pool13 8 #[] #[] 1537 35 #[] #[])
  fields := #[]
  methods := #[]
  instanceTypes := #[]
  staticTypes := #[]
  resolved := Array.replicate 62 none
  statics := none }

def pool14 : Array CpInfo := pool [(10, .class_ 12), (1, u "java/util/Collection"), (0, u "toArray"), (16, u "()Z"), (29, .class_ 61), (0, u "java/lang/Object"), (0, .class_ 63), (0, u "java/lang/Iterable"), (2, u "isEmpty"), (3, u "()[Ljava/lang/Object;")] 44

def k14m0 : Method := { name := "isEmpty", desc := "()Z", sig := { parameters := [], returnType := some .boolean }, accessFlags := 1025, code := none }
def k14m1 : Method := { name := "toArray", desc := "()[Ljava/lang/Object;", sig := { parameters := [], returnType := some (.array (.object "java/lang/Object")) }, accessFlags := 1025, code := none }
/-- java/util/Collection -/
def k14 : Class := { plain "java/util/Collection" (some 0) with
  accessFlags := 1537
  interfaces := #[13]
  cf := some (fileOf pool14 10 #[] #[{ accessFlags := 1025, nameIndex := 66, descriptorIndex := 30, attributes := #[] }, { accessFlags := 1025, nameIndex := 13, descriptorIndex := 70, attributes := #[] }] 1537 60 #[62] #[])
  fields := #[]
  methods := #[k14m0, k14m1]
  instanceTypes := #[]
  staticTypes := #[]
  resolved := Array.replicate 115 none
  statics := none }

def pool15 : Array CpInfo := pool [(1, .methodref 2 3), (0, .class_ 4), (0, .nameAndType 5 6), (0, u "java/lang/Object"), (0, u "<init>"), (0, u "()V"), (1, .class_ 10), (1, u "java/util/AbstractCollection"), (66, .class_ 78), (0, u "java/util/Collection")] 81

def k15c0 : Code := { maxStack := 1, maxLocals := 1, code := jdk_22_method_1_code, exceptionTable := #[], attributes := #[] }
def k15m0 : Method := { name := "<init>", desc := "()V", sig := { parameters := [], returnType := none }, accessFlags := 4, code := some k15c0 }
/-- java/util/AbstractCollection -/
def k15 : Class := { plain "java/util/AbstractCollection" (some 0) with
  accessFlags := 1057
  interfaces := #[14]
  cf := some (fileOf pool15 8 #[] #[{ accessFlags := 4, nameIndex := 5, descriptorIndex := 6, attributes := #[] }] 1057 2 #[77] #[])
  fields := #[]
  methods := #[k15m0]
  instanceTypes := #[]
  staticTypes := #[]
  resolved := Array.replicate 160 none
  statics := none }

def pool16 : Array CpInfo := pool [(8, .class_ 10), (1, u "java/util/SequencedCollection"), (15, .class_ 27), (0, u "java/lang/Object"), (0, .class_ 29), (0, u "java/util/Collection")] 27

/-- java/util/SequencedCollection -/
def k16 : Class := { plain "java/util/SequencedCollection" (some 0) with
  accessFlags := 1537
  interfaces := #[14]
  cf := some (fileOf pool16 8 #[] #[] 1537 26 #[28] #[])
  fields := #[]
  methods := #[]
  instanceTypes := #[]
  staticTypes := #[]
  resolved := Array.replicate 57 none
  statics := none }

def pool17 : Array CpInfo := pool [(8, .class_ 10), (1, u "java/util/List"), (20, u "(Ljava/lang/Object;)V"), (16, u "<init>"), (26, u "get"), (0, u "(I)Ljava/lang/Object;"), (2, u "size"), (0, u "()I"), (7, u "of"), (1, .fieldref 91 92), (0, .class_ 93), (0, .nameAndType 94 95), (0, u "java/util/ImmutableCollections"), (0, u "EMPTY_LIST"), (0, u "Ljava/util/ImmutableCollections$ListN;"), (0, .class_ 97), (0, u "java/util/ImmutableCollections$List12"), (0, .methodref 96 99), (0, .nameAndType 48 31), (3, .class_ 104), (0, u "java/lang/Object"), (3, u "([Ljava/lang/Object;)Ljava/util/List;"), (3, .methodref 91 113), (0, .nameAndType 114 115), (0, u "listCopy"), (0, u "(Ljava/util/Collection;)Ljava/util/List;"), (3, u "()Ljava/util/List;"), (0, .class_ 121), (0, u "java/util/SequencedCollection"), (112, u "copyOf")] 16

def k17m0 : Method := { name := "size", desc := "()I", sig := { parameters := [], returnType := some .int }, accessFlags := 1025, code := none }
def k17m1 : Method := { name := "get", desc := "(I)Ljava/lang/Object;", sig := { parameters := [.int], returnType := some (.object "java/lang/Object") }, accessFlags := 1025, code := none }
def k17c2 : Code := { maxStack := 1, maxLocals := 0, code := jdk_40_method_36_code, exceptionTable := #[], attributes := #[] }
def k17m2 : Method := { name := "of", desc := "()Ljava/util/List;", sig := { parameters := [], returnType := some (.object "java/util/List") }, accessFlags := 9, code := some k17c2 }
def k17c3 : Code := { maxStack := 5, maxLocals := 2, code := jdk_40_method_47_code, exceptionTable := #[], attributes := #[] }
def k17m3 : Method := { name := "of", desc := "([Ljava/lang/Object;)Ljava/util/List;", sig := { parameters := [(.array (.object "java/lang/Object"))], returnType := some (.object "java/util/List") }, accessFlags := 137, code := some k17c3 }
def k17c4 : Code := { maxStack := 1, maxLocals := 1, code := jdk_40_method_48_code, exceptionTable := #[], attributes := #[] }
def k17m4 : Method := { name := "copyOf", desc := "(Ljava/util/Collection;)Ljava/util/List;", sig := { parameters := [(.object "java/util/Collection")], returnType := some (.object "java/util/List") }, accessFlags := 9, code := some k17c4 }
/-- java/util/List -/
def k17 : Class := { plain "java/util/List" (some 0) with
  accessFlags := 1537
  interfaces := #[16]
  cf := some (fileOf pool17 8 #[] #[{ accessFlags := 1025, nameIndex := 79, descriptorIndex := 80, attributes := #[] }, { accessFlags := 1025, nameIndex := 75, descriptorIndex := 76, attributes := #[] }, { accessFlags := 9, nameIndex := 88, descriptorIndex := 119, attributes := #[] }, { accessFlags := 137, nameIndex := 88, descriptorIndex := 108, attributes := #[] }, { accessFlags := 9, nameIndex := 234, descriptorIndex := 115, attributes := #[] }] 1537 103 #[120] #[])
  fields := #[]
  methods := #[k17m0, k17m1, k17m2, k17m3, k17m4]
  instanceTypes := #[]
  staticTypes := #[]
  resolved := Array.replicate 251 none
  statics := none }

def pool18 : Array CpInfo := pool [(1, .methodref 2 3), (0, .class_ 4), (0, .nameAndType 5 6), (0, u "java/util/AbstractCollection"), (0, u "<init>"), (0, u "()V"), (0, .fieldref 8 9), (0, .class_ 10), (0, .nameAndType 11 12), (0, u "java/util/AbstractList"), (0, u "modCount"), (0, u "I"), (64, .class_ 78), (0, u "java/util/AbstractList$Itr"), (3, .class_ 83), (0, u "java/util/AbstractList$ListItr"), (9, .class_ 94), (0, u "java/util/AbstractList$RandomAccessSubList"), (3, .class_ 99), (0, u "java/util/AbstractList$SubList"), (33, .class_ 134), (0, u "java/util/List"), (73, .class_ 209), (0, u "java/util/AbstractList$SubList$1"), (0, .class_ 211), (0, u "java/util/AbstractList$RandomAccessSpliterator")] 6

def k18c0 : Code := { maxStack := 2, maxLocals := 1, code := jdk_39_method_1_code, exceptionTable := #[], attributes := #[] }
def k18m0 : Method := { name := "<init>", desc := "()V", sig := { parameters := [], returnType := none }, accessFlags := 4, code := some k18c0 }
/-- java/util/AbstractList -/
def k18 : Class := { plain "java/util/AbstractList" (some 15) with
  accessFlags := 1057
  interfaces := #[17]
  cf := some (fileOf pool18 8 #[.nestMembers #[93, 98, 208, 210, 82, 77]] #[{ accessFlags := 4, nameIndex := 5, descriptorIndex := 6, attributes := #[] }] 1057 2 #[133] #[{ accessFlags := 132, nameIndex := 11, descriptorIndex := 12, attributes := #[] }])
  fields := #[{ name := "modCount", type := .int, accessFlags := 132, slot := 0, constantValue := 0 }]
  methods := #[k18m0]
  instanceTypes := #[.int]
  staticTypes := #[]
  resolved := Array.replicate 218 none
  statics := none }

def pool19 : Array CpInfo := pool [(1, .class_ 2), (0, u "java/util/RandomAccess"), (0, .class_ 4), (0, u "java/lang/Object")] 2

/-- java/util/RandomAccess -/
def k19 : Class := { plain "java/util/RandomAccess" (some 0) with
  accessFlags := 1537
  interfaces := #[]
  cf := some (fileOf pool19 1 #[] #[] 1537 3 #[] #[])
  fields := #[]
  methods := #[]
  instanceTypes := #[]
  staticTypes := #[]
  resolved := Array.replicate 7 none
  statics := none }

def pool20 : Array CpInfo := pool [(1, .class_ 2), (0, u "java/lang/Cloneable"), (0, .class_ 4), (0, u "java/lang/Object")] 2

/-- java/lang/Cloneable -/
def k20 : Class := { plain "java/lang/Cloneable" (some 0) with
  accessFlags := 1537
  interfaces := #[]
  cf := some (fileOf pool20 1 #[] #[] 1537 3 #[] #[])
  fields := #[]
  methods := #[]
  instanceTypes := #[]
  staticTypes := #[]
  resolved := Array.replicate 7 none
  statics := none }

def pool21 : Array CpInfo := pool [(1, .methodref 2 3), (0, .class_ 4), (0, .nameAndType 5 6), (0, u "java/util/AbstractList"), (0, u "<init>"), (0, u "()V"), (0, .class_ 8), (0, u "java/lang/Object"), (0, .fieldref 10 11), (0, .class_ 12), (0, .nameAndType 13 14), (0, u "java/util/ArrayList"), (0, u "elementData"), (0, u "[Ljava/lang/Object;"), (2, u "EMPTY_ELEMENTDATA"), (21, .fieldref 10 40), (0, .nameAndType 41 14), (0, u "DEFAULTCAPACITY_EMPTY_ELEMENTDATA"), (4, u "toArray"), (0, u "()[Ljava/lang/Object;"), (0, .fieldref 10 49), (0, .nameAndType 50 51), (0, u "size"), (0, u "I"), (6, .class_ 60), (1, u "java/util/Arrays"), (0, u "copyOf"), (1, .fieldref 10 64), (0, .nameAndType 65 51), (0, u "modCount"), (0, .methodref 58 67), (0, .nameAndType 61 68), (0, u "([Ljava/lang/Object;I)[Ljava/lang/Object;"), (0, .methodref 10 70), (0, .nameAndType 71 72), (0, u "grow"), (0, u "(I)[Ljava/lang/Object;"), (6, .methodref 80 81), (0, .class_ 82), (0, .nameAndType 83 84), (0, u "java/lang/Math"), (0, u "max"), (0, u "(II)I"), (11, u "(Ljava/lang/Object;)Z"), (32, .methodref 10 130), (0, .nameAndType 71 47), (0, .methodref 10 132), (0, .nameAndType 133 134), (0, u "add"), (0, u "(Ljava/lang/Object;[Ljava/lang/Object;I)V"), (13, .class_ 149), (0, u "java/util/List"), (23, u "()Z"), (88, .class_ 263), (0, u "java/util/ArrayList$ListItr"), (3, .class_ 268), (0, u "java/util/ArrayList$Itr"), (7, .class_ 277), (0, u "java/util/ArrayList$SubList"), (12, .class_ 291), (0, u "java/util/ArrayList$ArrayListSpliterator"), (37, .class_ 330), (0, u "java/util/RandomAccess"), (0, .class_ 332), (0, u "java/lang/Cloneable"), (0, .class_ 334), (0, u "java/io/Serializable"), (0, u "serialVersionUID"), (0, u "J"), (3, u "DEFAULT_CAPACITY"), (22, u "isEmpty"), (136, .class_ 501), (0, u "java/util/ArrayList$SubList$2"), (0, .class_ 503), (0, u "java/util/ArrayList$SubList$1")] 5

def k21c0 : Code := { maxStack := 2, maxLocals := 1, code := jdk_38_method_2_code, exceptionTable := #[], attributes := #[] }
def k21m0 : Method := { name := "<init>", desc := "()V", sig := { parameters := [], returnType := none }, accessFlags := 1, code := some k21c0 }
def k21c1 : Code := { maxStack := 4, maxLocals := 4, code := jdk_38_method_6_code, exceptionTable := #[], attributes := #[] }
def k21m1 : Method := { name := "grow", desc := "(I)[Ljava/lang/Object;", sig := { parameters := [.int], returnType := some (.array (.object "java/lang/Object")) }, accessFlags := 2, code := some k21c1 }
def k21c2 : Code := { maxStack := 3, maxLocals := 1, code := jdk_38_method_7_code, exceptionTable := #[], attributes := #[] }
def k21m2 : Method := { name := "grow", desc := "()[Ljava/lang/Object;", sig := { parameters := [], returnType := some (.array (.object "java/lang/Object")) }, accessFlags := 2, code := some k21c2 }
def k21c3 : Code := { maxStack := 1, maxLocals := 1, code := jdk_38_method_9_code, exceptionTable := #[], attributes := #[] }
def k21m3 : Method := { name := "isEmpty", desc := "()Z", sig := { parameters := [], returnType := some .boolean }, accessFlags := 1, code := some k21c3 }
def k21c4 : Code := { maxStack := 2, maxLocals := 1, code := jdk_38_method_16_code, exceptionTable := #[], attributes := #[] }
def k21m4 : Method := { name := "toArray", desc := "()[Ljava/lang/Object;", sig := { parameters := [], returnType := some (.array (.object "java/lang/Object")) }, accessFlags := 1, code := some k21c4 }
def k21c5 : Code := { maxStack := 3, maxLocals := 4, code := jdk_38_method_24_code, exceptionTable := #[], attributes := #[] }
def k21m5 : Method := { name := "add", desc := "(Ljava/lang/Object;[Ljava/lang/Object;I)V", sig := { parameters := [(.object "java/lang/Object"), (.array (.object "java/lang/Object")), .int], returnType := none }, accessFlags := 2, code := some k21c5 }
def k21c6 : Code := { maxStack := 4, maxLocals := 2, code := jdk_38_method_25_code, exceptionTable := #[], attributes := #[] }
def k21m6 : Method := { name := "add", desc := "(Ljava/lang/Object;)Z", sig := { parameters := [(.object "java/lang/Object")], returnType := some .boolean }, accessFlags := 1, code := some k21c6 }
/-- java/util/ArrayList -/
def k21 : Class := { plain "java/util/ArrayList" (some 18) with
  accessFlags := 33
  interfaces := #[17, 19, 20, 2]
  cf := some (fileOf pool21 10 #[.nestMembers #[290, 276, 500, 502, 262, 267]] #[{ accessFlags := 1, nameIndex := 5, descriptorIndex := 6, attributes := #[] }, { accessFlags := 2, nameIndex := 71, descriptorIndex := 72, attributes := #[] }, { accessFlags := 2, nameIndex := 71, descriptorIndex := 47, attributes := #[] }, { accessFlags := 1, nameIndex := 363, descriptorIndex := 173, attributes := #[] }, { accessFlags := 1, nameIndex := 46, descriptorIndex := 47, attributes := #[] }, { accessFlags := 2, nameIndex := 133, descriptorIndex := 134, attributes := #[] }, { accessFlags := 1, nameIndex := 133, descriptorIndex := 96, attributes := #[] }] 33 2 #[148, 329, 331, 333] #[{ accessFlags := 26, nameIndex := 335, descriptorIndex := 336, attributes := #[] }, { accessFlags := 26, nameIndex := 340, descriptorIndex := 51, attributes := #[] }, { accessFlags := 26, nameIndex := 17, descriptorIndex := 14, attributes := #[] }, { accessFlags := 26, nameIndex := 41, descriptorIndex := 14, attributes := #[] }, { accessFlags := 128, nameIndex := 13, descriptorIndex := 14, attributes := #[] }, { accessFlags := 2, nameIndex := 50, descriptorIndex := 51, attributes := #[] }])
  fields := #[{ name := "serialVersionUID", type := .long, accessFlags := 26, slot := 0, constantValue := 0 }, { name := "DEFAULT_CAPACITY", type := .int, accessFlags := 26, slot := 1, constantValue := 0 }, { name := "EMPTY_ELEMENTDATA", type := (.array (.object "java/lang/Object")), accessFlags := 26, slot := 2, constantValue := 0 }, { name := "DEFAULTCAPACITY_EMPTY_ELEMENTDATA", type := (.array (.object "java/lang/Object")), accessFlags := 26, slot := 3, constantValue := 0 }, { name := "elementData", type := (.array (.object "java/lang/Object")), accessFlags := 128, slot := 1, constantValue := 0 }, { name := "size", type := .int, accessFlags := 2, slot := 2, constantValue := 0 }]
  methods := #[k21m0, k21m1, k21m2, k21m3, k21m4, k21m5, k21m6]
  instanceTypes := #[.int, (.array (.object "java/lang/Object")), .int]
  staticTypes := #[.long, .int, (.array (.object "java/lang/Object")), (.array (.object "java/lang/Object"))]
  resolved := Array.replicate 509 none
  statics := some 2 }

def pool22 : Array CpInfo := pool [(1, .class_ 2), (0, u "java/lang/Math"), (1, .class_ 6), (1, u "java/lang/Object"), (0, u "<init>"), (0, u "()V"), (89, .class_ 100), (1, u "java/lang/Math$RandomNumberGeneratorHolder"), (71, u "negativeZeroFloatBits"), (0, u "J"), (2, u "negativeZeroDoubleBits"), (21, u "max"), (2, u "min"), (43, u "$assertionsDisabled"), (0, u "Z"), (88, u "(II)I"), (2, u "twoToTheDoubleScaleDown"), (0, u "D"), (4, u "twoToTheDoubleScaleUp"), (9, u "E"), (3, u "PI"), (2, u "TAU"), (2, u "DEGREES_TO_RADIANS"), (0, u "RADIANS_TO_DEGREES")] 94

def k22m0 : Method := { name := "<init>", desc := "()V", sig := { parameters := [], returnType := none }, accessFlags := 2, code := none }
def k22c1 : Code := { maxStack := 2, maxLocals := 2, code := jdk_29_method_65_code, exceptionTable := #[], attributes := #[] }
def k22m1 : Method := { name := "max", desc := "(II)I", sig := { parameters := [.int, .int], returnType := some .int }, accessFlags := 9, code := some k22c1 }
def k22c2 : Code := { maxStack := 2, maxLocals := 2, code := jdk_29_method_69_code, exceptionTable := #[], attributes := #[] }
def k22m2 : Method := { name := "min", desc := "(II)I", sig := { parameters := [.int, .int], returnType := some .int }, accessFlags := 9, code := some k22c2 }
/-- java/lang/Math -/
def k22 : Class := { plain "java/lang/Math" (some 0) with
  accessFlags := 49
  interfaces := #[]
  cf := some (fileOf pool22 1 #[.nestMembers #[98]] #[{ accessFlags := 2, nameIndex := 7, descriptorIndex := 8, attributes := #[] }, { accessFlags := 9, nameIndex := 198, descriptorIndex := 335, attributes := #[] }, { accessFlags := 9, nameIndex := 201, descriptorIndex := 335, attributes := #[] }] 49 4 #[] #[{ accessFlags := 25, nameIndex := 354, descriptorIndex := 339, attributes := #[] }, { accessFlags := 25, nameIndex := 358, descriptorIndex := 339, attributes := #[] }, { accessFlags := 25, nameIndex := 361, descriptorIndex := 339, attributes := #[] }, { accessFlags := 26, nameIndex := 364, descriptorIndex := 339, attributes := #[] }, { accessFlags := 26, nameIndex := 365, descriptorIndex := 339, attributes := #[] }, { accessFlags := 26, nameIndex := 172, descriptorIndex := 173, attributes := #[] }, { accessFlags := 26, nameIndex := 176, descriptorIndex := 173, attributes := #[] }, { accessFlags := 8, nameIndex := 344, descriptorIndex := 339, attributes := #[] }, { accessFlags := 8, nameIndex := 338, descriptorIndex := 339, attributes := #[] }, { accessFlags := 4120, nameIndex := 245, descriptorIndex := 246, attributes := #[] }])
  fields := #[{ name := "E", type := .double, accessFlags := 25, slot := 0, constantValue := 0 }, { name := "PI", type := .double, accessFlags := 25, slot := 1, constantValue := 0 }, { name := "TAU", type := .double, accessFlags := 25, slot := 2, constantValue := 0 }, { name := "DEGREES_TO_RADIANS", type := .double, accessFlags := 26, slot := 3, constantValue := 0 }, { name := "RADIANS_TO_DEGREES", type := .double, accessFlags := 26, slot := 4, constantValue := 0 }, { name := "negativeZeroFloatBits", type := .long, accessFlags := 26, slot := 5, constantValue := 0 }, { name := "negativeZeroDoubleBits", type := .long, accessFlags := 26, slot := 6, constantValue := 0 }, { name := "twoToTheDoubleScaleUp", type := .double, accessFlags := 8, slot := 7, constantValue := 0 }, { name := "twoToTheDoubleScaleDown", type := .double, accessFlags := 8, slot := 8, constantValue := 0 }, { name := "$assertionsDisabled", type := .boolean, accessFlags := 4120, slot := 9, constantValue := 0 }]
  methods := #[k22m0, k22m1, k22m2]
  instanceTypes := #[]
  staticTypes := #[.double, .double, .double, .double, .double, .long, .long, .double, .double, .boolean]
  resolved := Array.replicate 460 none
  statics := none }

def pool23 : Array CpInfo := pool [(1, .methodref 2 3), (0, .class_ 4), (0, .nameAndType 5 6), (0, u "java/lang/Record"), (0, u "<init>"), (0, u "()V"), (0, .interfaceMethodref 8 9), (0, .class_ 10), (0, .nameAndType 11 12), (0, u "java/util/List"), (0, u "copyOf"), (0, u "(Ljava/util/Collection;)Ljava/util/List;"), (0, .fieldref 14 15), (0, .class_ 16), (0, .nameAndType 17 18), (0, u "com/example/myna/myna/orders/Order"), (0, u "id"), (0, u "J"), (0, .fieldref 14 20), (0, .nameAndType 21 22), (0, u "channel"), (0, u "Ljava/lang/String;"), (0, .fieldref 14 24), (0, .nameAndType 25 22), (0, u "externalId"), (0, .fieldref 14 27), (0, .nameAndType 28 29), (0, u "state"), (0, u "Lcom/example/myna/myna/orders/Order$State;"), (0, .fieldref 14 31), (0, .nameAndType 32 22), (0, u "externalState"), (0, .fieldref 14 34), (0, .nameAndType 35 36), (0, u "awaitingAcknowledgement"), (0, u "Z"), (0, .fieldref 14 38), (0, .nameAndType 39 40), (0, u "lines"), (0, u "Ljava/util/List;"), (0, .fieldref 14 42), (0, .nameAndType 43 40), (0, u "payments"), (0, .methodref 14 45), (0, .nameAndType 5 46), (0, u "(JLjava/lang/String;Ljava/lang/String;Lcom/example/myna/myna/orders/Order$State;Ljava/lang/String;ZLjava/util/List;Ljava/util/List;)V"), (15, .class_ 64), (1, u "com/example/myna/myna/orders/Order$State"), (27, u "()Z"), (51, u "withExternalState"), (0, u "(Ljava/lang/String;)Lcom/example/myna/myna/orders/Order;"), (5, u "()Ljava/lang/String;"), (1, u "()J"), (0, u "()Lcom/example/myna/myna/orders/Order$State;"), (0, u "()Ljava/util/List;")] 58

def k23c0 : Code := { maxStack := 3, maxLocals := 10, code := prog_19_method_1_code, exceptionTable := #[], attributes := #[] }
def k23m0 : Method := { name := "<init>", desc := "(JLjava/lang/String;Ljava/lang/String;Lcom/example/myna/myna/orders/Order$State;Ljava/lang/String;ZLjava/util/List;Ljava/util/List;)V", sig := { parameters := [.long, (.object "java/lang/String"), (.object "java/lang/String"), (.object "com/example/myna/myna/orders/Order$State"), (.object "java/lang/String"), .boolean, (.object "java/util/List"), (.object "java/util/List")], returnType := none }, accessFlags := 1, code := some k23c0 }
def k23c1 : Code := { maxStack := 11, maxLocals := 2, code := prog_19_method_3_code, exceptionTable := #[], attributes := #[] }
def k23m1 : Method := { name := "withExternalState", desc := "(Ljava/lang/String;)Lcom/example/myna/myna/orders/Order;", sig := { parameters := [(.object "java/lang/String")], returnType := some (.object "com/example/myna/myna/orders/Order") }, accessFlags := 0, code := some k23c1 }
def k23c2 : Code := { maxStack := 2, maxLocals := 1, code := prog_19_method_10_code, exceptionTable := #[], attributes := #[] }
def k23m2 : Method := { name := "id", desc := "()J", sig := { parameters := [], returnType := some .long }, accessFlags := 1, code := some k23c2 }
def k23c3 : Code := { maxStack := 1, maxLocals := 1, code := prog_19_method_11_code, exceptionTable := #[], attributes := #[] }
def k23m3 : Method := { name := "channel", desc := "()Ljava/lang/String;", sig := { parameters := [], returnType := some (.object "java/lang/String") }, accessFlags := 1, code := some k23c3 }
def k23c4 : Code := { maxStack := 1, maxLocals := 1, code := prog_19_method_12_code, exceptionTable := #[], attributes := #[] }
def k23m4 : Method := { name := "externalId", desc := "()Ljava/lang/String;", sig := { parameters := [], returnType := some (.object "java/lang/String") }, accessFlags := 1, code := some k23c4 }
def k23c5 : Code := { maxStack := 1, maxLocals := 1, code := prog_19_method_13_code, exceptionTable := #[], attributes := #[] }
def k23m5 : Method := { name := "state", desc := "()Lcom/example/myna/myna/orders/Order$State;", sig := { parameters := [], returnType := some (.object "com/example/myna/myna/orders/Order$State") }, accessFlags := 1, code := some k23c5 }
def k23c6 : Code := { maxStack := 1, maxLocals := 1, code := prog_19_method_14_code, exceptionTable := #[], attributes := #[] }
def k23m6 : Method := { name := "externalState", desc := "()Ljava/lang/String;", sig := { parameters := [], returnType := some (.object "java/lang/String") }, accessFlags := 1, code := some k23c6 }
def k23c7 : Code := { maxStack := 1, maxLocals := 1, code := prog_19_method_15_code, exceptionTable := #[], attributes := #[] }
def k23m7 : Method := { name := "awaitingAcknowledgement", desc := "()Z", sig := { parameters := [], returnType := some .boolean }, accessFlags := 1, code := some k23c7 }
def k23c8 : Code := { maxStack := 1, maxLocals := 1, code := prog_19_method_16_code, exceptionTable := #[], attributes := #[] }
def k23m8 : Method := { name := "lines", desc := "()Ljava/util/List;", sig := { parameters := [], returnType := some (.object "java/util/List") }, accessFlags := 1, code := some k23c8 }
def k23c9 : Code := { maxStack := 1, maxLocals := 1, code := prog_19_method_17_code, exceptionTable := #[], attributes := #[] }
def k23m9 : Method := { name := "payments", desc := "()Ljava/util/List;", sig := { parameters := [], returnType := some (.object "java/util/List") }, accessFlags := 1, code := some k23c9 }
/-- com/example/myna/myna/orders/Order -/
def k23 : Class := { plain "com/example/myna/myna/orders/Order" (some 11) with
  accessFlags := 49
  interfaces := #[]
  cf := some (fileOf pool23 14 #[.nestMembers #[62]] #[{ accessFlags := 1, nameIndex := 5, descriptorIndex := 46, attributes := #[] }, { accessFlags := 0, nameIndex := 144, descriptorIndex := 145, attributes := #[] }, { accessFlags := 1, nameIndex := 17, descriptorIndex := 153, attributes := #[] }, { accessFlags := 1, nameIndex := 21, descriptorIndex := 151, attributes := #[] }, { accessFlags := 1, nameIndex := 25, descriptorIndex := 151, attributes := #[] }, { accessFlags := 1, nameIndex := 28, descriptorIndex := 154, attributes := #[] }, { accessFlags := 1, nameIndex := 32, descriptorIndex := 151, attributes := #[] }, { accessFlags := 1, nameIndex := 35, descriptorIndex := 92, attributes := #[] }, { accessFlags := 1, nameIndex := 39, descriptorIndex := 155, attributes := #[] }, { accessFlags := 1, nameIndex := 43, descriptorIndex := 155, attributes := #[] }] 49 2 #[] #[{ accessFlags := 18, nameIndex := 17, descriptorIndex := 18, attributes := #[] }, { accessFlags := 18, nameIndex := 21, descriptorIndex := 22, attributes := #[] }, { accessFlags := 18, nameIndex := 25, descriptorIndex := 22, attributes := #[] }, { accessFlags := 18, nameIndex := 28, descriptorIndex := 29, attributes := #[] }, { accessFlags := 18, nameIndex := 32, descriptorIndex := 22, attributes := #[] }, { accessFlags := 18, nameIndex := 35, descriptorIndex := 36, attributes := #[] }, { accessFlags := 18, nameIndex := 39, descriptorIndex := 40, attributes := #[] }, { accessFlags := 18, nameIndex := 43, descriptorIndex := 40, attributes := #[] }])
  fields := #[{ name := "id", type := .long, accessFlags := 18, slot := 0, constantValue := 0 }, { name := "channel", type := (.object "java/lang/String"), accessFlags := 18, slot := 1, constantValue := 0 }, { name := "externalId", type := (.object "java/lang/String"), accessFlags := 18, slot := 2, constantValue := 0 }, { name := "state", type := (.object "com/example/myna/myna/orders/Order$State"), accessFlags := 18, slot := 3, constantValue := 0 }, { name := "externalState", type := (.object "java/lang/String"), accessFlags := 18, slot := 4, constantValue := 0 }, { name := "awaitingAcknowledgement", type := .boolean, accessFlags := 18, slot := 5, constantValue := 0 }, { name := "lines", type := (.object "java/util/List"), accessFlags := 18, slot := 6, constantValue := 0 }, { name := "payments", type := (.object "java/util/List"), accessFlags := 18, slot := 7, constantValue := 0 }]
  methods := #[k23m0, k23m1, k23m2, k23m3, k23m4, k23m5, k23m6, k23m7, k23m8, k23m9]
  instanceTypes := #[.long, (.object "java/lang/String"), (.object "java/lang/String"), (.object "com/example/myna/myna/orders/Order$State"), (.object "java/lang/String"), .boolean, (.object "java/util/List"), (.object "java/util/List")]
  staticTypes := #[]
  resolved := Array.replicate 214 none
  statics := none }

def pool24 : Array CpInfo := pool [(2, .class_ 4), (1, u "java/lang/Object"), (0, u "<init>"), (0, u "()V"), (3, .class_ 11), (0, u "java/util/ImmutableCollections$List12"), (0, .class_ 13), (0, u "java/util/ImmutableCollections$ListN"), (0, .fieldref 12 15), (0, .nameAndType 16 17), (0, u "allowNulls"), (0, u "Z"), (0, .class_ 19), (0, u "java/util/List"), (0, .interfaceMethodref 21 22), (0, .class_ 23), (0, .nameAndType 24 25), (0, u "java/util/Collection"), (0, u "isEmpty"), (0, u "()Z"), (0, .interfaceMethodref 18 27), (0, .nameAndType 28 29), (0, u "of"), (0, u "()Ljava/util/List;"), (0, .interfaceMethodref 21 31), (0, .nameAndType 32 33), (0, u "toArray"), (0, u "()[Ljava/lang/Object;"), (0, .interfaceMethodref 18 35), (0, .nameAndType 28 36), (0, u "([Ljava/lang/Object;)Ljava/util/List;"), (10, .class_ 49), (1, u "java/util/ImmutableCollections"), (0, u "$assertionsDisabled"), (5, u "[Ljava/lang/Object;"), (5, u "EMPTY_LIST"), (0, u "Ljava/util/ImmutableCollections$ListN;"), (8, u "EMPTY_LIST_NULLS"), (22, u "SALT32L"), (0, u "J"), (2, u "REVERSE"), (6, u "archivedObjects"), (2, u "EMPTY"), (0, u "Ljava/lang/Object;"), (0, .class_ 112), (0, u "java/util/ImmutableCollections$SetN"), (5, u "EMPTY_SET"), (0, u "Ljava/util/ImmutableCollections$SetN;"), (0, .class_ 121), (0, u "java/util/ImmutableCollections$MapN"), (3, u "EMPTY_MAP"), (0, u "Ljava/util/ImmutableCollections$MapN;"), (4, u "EXPAND_FACTOR"), (0, u "I"), (9, u "listCopy"), (0, u "(Ljava/util/Collection;)Ljava/util/List;"), (25, .class_ 170), (0, u "java/util/ImmutableCollections$MapN$MapNIterator"), (0, .class_ 172), (0, u "java/util/ImmutableCollections$MapN$1"), (0, .class_ 174), (0, u "java/util/ImmutableCollections$Map1"), (0, .class_ 176), (0, u "java/util/ImmutableCollections$AbstractImmutableMap"), (0, .class_ 178), (0, u "java/util/ImmutableCollections$SetN$SetNIterator"), (0, .class_ 180), (0, u "java/util/ImmutableCollections$Set12"), (0, .class_ 182), (0, u "java/util/ImmutableCollections$Set12$1"), (0, .class_ 184), (0, u "java/util/ImmutableCollections$AbstractImmutableSet"), (0, .class_ 186), (0, u "java/util/ImmutableCollections$SubList"), (0, .class_ 188), (0, u "java/util/ImmutableCollections$ListItr"), (0, .class_ 190), (0, u "java/util/ImmutableCollections$AbstractImmutableList"), (0, .class_ 192), (0, u "java/util/ImmutableCollections$AbstractImmutableCollection"), (0, .class_ 194), (0, u "java/util/ImmutableCollections$Access"), (0, .class_ 196), (0, u "java/util/ImmutableCollections$Access$1")] 16

def k24m0 : Method := { name := "<init>", desc := "()V", sig := { parameters := [], returnType := none }, accessFlags := 2, code := none }
def k24c1 : Code := { maxStack := 1, maxLocals := 2, code := jdk_56_method_3_code, exceptionTable := #[], attributes := #[] }
def k24m1 : Method := { name := "listCopy", desc := "(Ljava/util/Collection;)Ljava/util/List;", sig := { parameters := [(.object "java/util/Collection")], returnType := some (.object "java/util/List") }, accessFlags := 8, code := some k24c1 }
/-- java/util/ImmutableCollections -/
def k24 : Class := { plain "java/util/ImmutableCollections" (some 0) with
  accessFlags := 32
  interfaces := #[]
  cf := some (fileOf pool24 47 #[.nestMembers #[120, 169, 171, 173, 175, 111, 177, 179, 181, 183, 12, 10, 185, 187, 189, 191, 193, 195]] #[{ accessFlags := 2, nameIndex := 5, descriptorIndex := 6, attributes := #[] }, { accessFlags := 8, nameIndex := 142, descriptorIndex := 143, attributes := #[] }] 32 2 #[] #[{ accessFlags := 26, nameIndex := 95, descriptorIndex := 96, attributes := #[] }, { accessFlags := 26, nameIndex := 99, descriptorIndex := 17, attributes := #[] }, { accessFlags := 10, nameIndex := 106, descriptorIndex := 56, attributes := #[] }, { accessFlags := 26, nameIndex := 109, descriptorIndex := 110, attributes := #[] }, { accessFlags := 24, nameIndex := 62, descriptorIndex := 63, attributes := #[] }, { accessFlags := 24, nameIndex := 72, descriptorIndex := 63, attributes := #[] }, { accessFlags := 24, nameIndex := 118, descriptorIndex := 119, attributes := #[] }, { accessFlags := 24, nameIndex := 125, descriptorIndex := 126, attributes := #[] }, { accessFlags := 24, nameIndex := 131, descriptorIndex := 132, attributes := #[] }, { accessFlags := 4120, nameIndex := 50, descriptorIndex := 17, attributes := #[] }])
  fields := #[{ name := "SALT32L", type := .long, accessFlags := 26, slot := 0, constantValue := 0 }, { name := "REVERSE", type := .boolean, accessFlags := 26, slot := 1, constantValue := 0 }, { name := "archivedObjects", type := (.array (.object "java/lang/Object")), accessFlags := 10, slot := 2, constantValue := 0 }, { name := "EMPTY", type := (.object "java/lang/Object"), accessFlags := 26, slot := 3, constantValue := 0 }, { name := "EMPTY_LIST", type := (.object "java/util/ImmutableCollections$ListN"), accessFlags := 24, slot := 4, constantValue := 0 }, { name := "EMPTY_LIST_NULLS", type := (.object "java/util/ImmutableCollections$ListN"), accessFlags := 24, slot := 5, constantValue := 0 }, { name := "EMPTY_SET", type := (.object "java/util/ImmutableCollections$SetN"), accessFlags := 24, slot := 6, constantValue := 0 }, { name := "EMPTY_MAP", type := (.object "java/util/ImmutableCollections$MapN"), accessFlags := 24, slot := 7, constantValue := 0 }, { name := "EXPAND_FACTOR", type := .int, accessFlags := 24, slot := 8, constantValue := 0 }, { name := "$assertionsDisabled", type := .boolean, accessFlags := 4120, slot := 9, constantValue := 0 }]
  methods := #[k24m0, k24m1]
  instanceTypes := #[]
  staticTypes := #[.long, .boolean, (.array (.object "java/lang/Object")), (.object "java/lang/Object"), (.object "java/util/ImmutableCollections$ListN"), (.object "java/util/ImmutableCollections$ListN"), (.object "java/util/ImmutableCollections$SetN"), (.object "java/util/ImmutableCollections$MapN"), .int, .boolean]
  resolved := Array.replicate 213 none
  statics := some 3 }

def pool25 : Array CpInfo := pool [(1, .methodref 2 3), (0, .class_ 4), (0, .nameAndType 5 6), (0, u "java/util/AbstractCollection"), (0, u "<init>"), (0, u "()V"), (1, .class_ 10), (1, u "java/util/ImmutableCollections"), (2, .class_ 14), (0, u "java/util/ImmutableCollections$AbstractImmutableCollection")] 41

def k25c0 : Code := { maxStack := 1, maxLocals := 1, code := jdk_47_method_1_code, exceptionTable := #[], attributes := #[] }
def k25m0 : Method := { name := "<init>", desc := "()V", sig := { parameters := [], returnType := none }, accessFlags := 0, code := some k25c0 }
/-- java/util/ImmutableCollections$AbstractImmutableCollection -/
def k25 : Class := { plain "java/util/ImmutableCollections$AbstractImmutableCollection" (some 15) with
  accessFlags := 1056
  interfaces := #[]
  cf := some (fileOf pool25 13 #[.nestHost 8] #[{ accessFlags := 0, nameIndex := 5, descriptorIndex := 6, attributes := #[] }] 1056 2 #[] #[])
  fields := #[]
  methods := #[k25m0]
  instanceTypes := #[]
  staticTypes := #[]
  resolved := Array.replicate 56 none
  statics := none }

def pool26 : Array CpInfo := pool [(1, .methodref 2 3), (0, .class_ 4), (0, .nameAndType 5 6), (0, u "java/util/ImmutableCollections$AbstractImmutableCollection"), (0, u "<init>"), (0, u "()V"), (1, .class_ 10), (1, u "java/util/ImmutableCollections"), (3, .class_ 16), (1, u "java/util/ImmutableCollections$AbstractImmutableList"), (60, .class_ 78), (0, u "java/util/List"), (45, .class_ 125), (0, u "java/util/RandomAccess")] 70

def k26c0 : Code := { maxStack := 1, maxLocals := 1, code := jdk_46_method_1_code, exceptionTable := #[], attributes := #[] }
def k26m0 : Method := { name := "<init>", desc := "()V", sig := { parameters := [], returnType := none }, accessFlags := 0, code := some k26c0 }
/-- java/util/ImmutableCollections$AbstractImmutableList -/
def k26 : Class := { plain "java/util/ImmutableCollections$AbstractImmutableList" (some 25) with
  accessFlags := 1056
  interfaces := #[17, 19]
  cf := some (fileOf pool26 14 #[.nestHost 8] #[{ accessFlags := 0, nameIndex := 5, descriptorIndex := 6, attributes := #[] }] 1056 2 #[77, 124] #[])
  fields := #[]
  methods := #[k26m0]
  instanceTypes := #[]
  staticTypes := #[]
  resolved := Array.replicate 196 none
  statics := none }

def pool27 : Array CpInfo := pool [(1, .methodref 2 3), (0, .class_ 4), (0, .nameAndType 5 6), (0, u "java/util/ImmutableCollections$AbstractImmutableList"), (0, u "<init>"), (0, u "()V"), (0, .methodref 8 9), (0, .class_ 10), (0, .nameAndType 11 12), (0, u "java/util/Objects"), (0, u "requireNonNull"), (0, u "(Ljava/lang/Object;)Ljava/lang/Object;"), (0, .fieldref 14 15), (0, .class_ 16), (0, .nameAndType 17 18), (0, u "java/util/ImmutableCollections$List12"), (0, u "e0"), (0, u "Ljava/lang/Object;"), (0, .fieldref 20 21), (0, .class_ 22), (0, .nameAndType 23 18), (0, u "java/util/ImmutableCollections"), (0, u "EMPTY"), (0, .fieldref 14 25), (0, .nameAndType 26 18), (0, u "e1"), (24, u "size"), (0, u "()I"), (17, .class_ 71), (0, u "java/io/Serializable"), (4, u "(Ljava/lang/Object;)V"), (13, u "get"), (0, u "(I)Ljava/lang/Object;")] 33

def k27c0 : Code := { maxStack := 2, maxLocals := 2, code := jdk_44_method_1_code, exceptionTable := #[], attributes := #[] }
def k27m0 : Method := { name := "<init>", desc := "(Ljava/lang/Object;)V", sig := { parameters := [(.object "java/lang/Object")], returnType := none }, accessFlags := 0, code := some k27c0 }
def k27c1 : Code := { maxStack := 2, maxLocals := 1, code := jdk_44_method_3_code, exceptionTable := #[], attributes := #[] }
def k27m1 : Method := { name := "size", desc := "()I", sig := { parameters := [], returnType := some .int }, accessFlags := 1, code := some k27c1 }
def k27c2 : Code := { maxStack := 2, maxLocals := 2, code := jdk_44_method_5_code, exceptionTable := #[], attributes := #[] }
def k27m2 : Method := { name := "get", desc := "(I)Ljava/lang/Object;", sig := { parameters := [.int], returnType := some (.object "java/lang/Object") }, accessFlags := 1, code := some k27c2 }
/-- java/util/ImmutableCollections$List12 -/
def k27 : Class := { plain "java/util/ImmutableCollections$List12" (some 26) with
  accessFlags := 48
  interfaces := #[2]
  cf := some (fileOf pool27 14 #[.nestHost 20] #[{ accessFlags := 0, nameIndex := 5, descriptorIndex := 76, attributes := #[] }, { accessFlags := 1, nameIndex := 51, descriptorIndex := 52, attributes := #[] }, { accessFlags := 1, nameIndex := 90, descriptorIndex := 91, attributes := #[] }] 48 2 #[70] #[{ accessFlags := 18, nameIndex := 17, descriptorIndex := 18, attributes := #[] }, { accessFlags := 18, nameIndex := 26, descriptorIndex := 18, attributes := #[] }])
  fields := #[{ name := "e0", type := (.object "java/lang/Object"), accessFlags := 18, slot := 0, constantValue := 0 }, { name := "e1", type := (.object "java/lang/Object"), accessFlags := 18, slot := 1, constantValue := 0 }]
  methods := #[k27m0, k27m1, k27m2]
  instanceTypes := #[(.object "java/lang/Object"), (.object "java/lang/Object")]
  staticTypes := #[]
  resolved := Array.replicate 125 none
  statics := none }

def pool28 : Array CpInfo := pool [(2, .class_ 4), (1, u "java/util/ImmutableCollections$AbstractImmutableList"), (2, .fieldref 8 9), (0, .class_ 10), (0, .nameAndType 11 12), (0, u "java/util/ImmutableCollections$ListN"), (0, u "elements"), (0, u "[Ljava/lang/Object;"), (2, u "allowNulls"), (0, u "Z"), (42, .class_ 60), (0, u "java/io/Serializable"), (16, u "size"), (0, u "()I"), (35, .class_ 115), (0, u "java/util/ImmutableCollections")] 3

def k28c0 : Code := { maxStack := 1, maxLocals := 1, code := jdk_45_method_3_code, exceptionTable := #[], attributes := #[] }
def k28m0 : Method := { name := "size", desc := "()I", sig := { parameters := [], returnType := some .int }, accessFlags := 1, code := some k28c0 }
/-- java/util/ImmutableCollections$ListN -/
def k28 : Class := { plain "java/util/ImmutableCollections$ListN" (some 26) with
  accessFlags := 48
  interfaces := #[2]
  cf := some (fileOf pool28 8 #[.nestHost 114] #[{ accessFlags := 1, nameIndex := 77, descriptorIndex := 78, attributes := #[] }] 48 2 #[59] #[{ accessFlags := 18, nameIndex := 11, descriptorIndex := 12, attributes := #[] }, { accessFlags := 18, nameIndex := 15, descriptorIndex := 16, attributes := #[] }])
  fields := #[{ name := "elements", type := (.array (.object "java/lang/Object")), accessFlags := 18, slot := 0, constantValue := 0 }, { name := "allowNulls", type := .boolean, accessFlags := 18, slot := 1, constantValue := 0 }]
  methods := #[k28m0]
  instanceTypes := #[(.array (.object "java/lang/Object")), .boolean]
  staticTypes := #[]
  resolved := Array.replicate 119 none
  statics := none }

def pool29 : Array CpInfo := pool [(2, .class_ 4), (1, u "java/lang/Object"), (0, u "<init>"), (0, u "()V"), (7, .class_ 16), (1, u "java/util/Arrays"), (57, .class_ 76), (1, u "java/util/Arrays$NaturalOrder"), (9, .methodref 2 87), (0, .nameAndType 88 89), (0, u "getClass"), (0, u "()Ljava/lang/Class;"), (20, .class_ 111), (0, u "[Ljava/lang/Object;"), (1, .class_ 115), (1, u "java/util/Arrays$LegacyMergeSort"), (1, u "Z"), (32, .methodref 151 152), (0, .class_ 153), (0, .nameAndType 154 155), (0, u "java/lang/System"), (0, u "arraycopy"), (0, u "(Ljava/lang/Object;ILjava/lang/Object;II)V"), (144, .methodref 14 301), (0, .nameAndType 302 303), (0, u "copyOf"), (0, u "([Ljava/lang/Object;ILjava/lang/Class;)[Ljava/lang/Object;"), (0, .methodref 305 306), (0, .class_ 307), (0, .nameAndType 308 309), (0, u "java/lang/Math"), (0, u "min"), (0, u "(II)I"), (65, .class_ 376), (0, u "java/util/Arrays$ArrayList"), (68, u "$assertionsDisabled"), (269, u "MIN_ARRAY_SORT_GRAN"), (0, u "I"), (2, u "INSERTIONSORT_THRESHOLD"), (140, u "([Ljava/lang/Object;I)[Ljava/lang/Object;"), (114, .class_ 976), (0, u "java/util/Arrays$ArrayItr")] 52

def k29m0 : Method := { name := "<init>", desc := "()V", sig := { parameters := [], returnType := none }, accessFlags := 2, code := none }
def k29c1 : Code := { maxStack := 3, maxLocals := 2, code := jdk_65_method_119_code, exceptionTable := #[], attributes := #[] }
def k29m1 : Method := { name := "copyOf", desc := "([Ljava/lang/Object;I)[Ljava/lang/Object;", sig := { parameters := [(.array (.object "java/lang/Object")), .int], returnType := some (.array (.object "java/lang/Object")) }, accessFlags := 9, code := some k29c1 }
def k29c2 : Code := { maxStack := 6, maxLocals := 4, code := jdk_65_method_120_code, exceptionTable := #[], attributes := #[] }
def k29m2 : Method := { name := "copyOf", desc := "([Ljava/lang/Object;ILjava/lang/Class;)[Ljava/lang/Object;", sig := { parameters := [(.array (.object "java/lang/Object")), .int, (.object "java/lang/Class")], returnType := some (.array (.object "java/lang/Object")) }, accessFlags := 9, code := some k29c2 }
/-- java/util/Arrays -/
def k29 : Class := { plain "java/util/Arrays" (some 0) with
  accessFlags := 49
  interfaces := #[]
  cf := some (fileOf pool29 14 #[.nestMembers #[975, 375, 113, 74]] #[{ accessFlags := 2, nameIndex := 5, descriptorIndex := 6, attributes := #[] }, { accessFlags := 9, nameIndex := 302, descriptorIndex := 860, attributes := #[] }, { accessFlags := 9, nameIndex := 302, descriptorIndex := 303, attributes := #[] }] 49 2 #[] #[{ accessFlags := 26, nameIndex := 715, descriptorIndex := 716, attributes := #[] }, { accessFlags := 26, nameIndex := 719, descriptorIndex := 716, attributes := #[] }, { accessFlags := 4120, nameIndex := 445, descriptorIndex := 117, attributes := #[] }])
  fields := #[{ name := "MIN_ARRAY_SORT_GRAN", type := .int, accessFlags := 26, slot := 0, constantValue := 0 }, { name := "INSERTIONSORT_THRESHOLD", type := .int, accessFlags := 26, slot := 1, constantValue := 0 }, { name := "$assertionsDisabled", type := .boolean, accessFlags := 4120, slot := 2, constantValue := 0 }]
  methods := #[k29m0, k29m1, k29m2]
  instanceTypes := #[]
  staticTypes := #[.int, .int, .boolean]
  resolved := Array.replicate 1029 none
  statics := none }

def pool30 : Array CpInfo := pool [(2, .class_ 4), (1, u "java/lang/Object"), (0, u "<init>"), (0, u "()V"), (1, .class_ 10), (1, u "java/lang/System"), (0, u "allowSecurityManager"), (0, u "I"), (16, u "cons"), (0, u "Ljava/io/Console;"), (77, .class_ 110), (1, u "java/lang/System$CallersHolder"), (43, u "initialErrStream"), (0, u "Ljava/io/PrintStream;"), (19, u "security"), (0, u "Ljava/lang/SecurityManager;"), (31, .class_ 209), (0, u "java/lang/System$1"), (7, u "props"), (0, u "Ljava/util/Properties;"), (2, u "lineSeparator"), (0, u "Ljava/lang/String;"), (96, .class_ 321), (1, u "java/lang/System$LoggerFinder"), (5, .class_ 328), (0, u "java/lang/System$Logger"), (67, u "err"), (2, u "out"), (91, u "notSupportedJnuEncoding"), (15, u "in"), (17, u "initialIn"), (0, u "Ljava/io/InputStream;"), (35, u "bootLayer"), (0, u "Ljava/lang/ModuleLayer;"), (99, .class_ 664), (0, u "java/lang/System$2"), (9, u "NEVER"), (2, u "MAYBE"), (49, u "arraycopy"), (0, u "(Ljava/lang/Object;ILjava/lang/Object;II)V"), (72, .class_ 802), (0, u "java/lang/System$Logger$Level")] 31

def k30m0 : Method := { name := "<init>", desc := "()V", sig := { parameters := [], returnType := none }, accessFlags := 2, code := none }
def k30m1 : Method := { name := "arraycopy", desc := "(Ljava/lang/Object;ILjava/lang/Object;II)V", sig := { parameters := [(.object "java/lang/Object"), .int, (.object "java/lang/Object"), .int, .int], returnType := none }, accessFlags := 265, code := none }
/-- java/lang/System -/
def k30 : Class := { plain "java/lang/System" (some 0) with
  accessFlags := 49
  interfaces := #[]
  cf := some (fileOf pool30 8 #[.nestMembers #[319, 327, 801, 108, 663, 208]] #[{ accessFlags := 2, nameIndex := 5, descriptorIndex := 6, attributes := #[] }, { accessFlags := 265, nameIndex := 727, descriptorIndex := 728, attributes := #[] }] 49 2 #[] #[{ accessFlags := 25, nameIndex := 507, descriptorIndex := 526, attributes := #[] }, { accessFlags := 25, nameIndex := 399, descriptorIndex := 155, attributes := #[] }, { accessFlags := 25, nameIndex := 396, descriptorIndex := 155, attributes := #[] }, { accessFlags := 10, nameIndex := 525, descriptorIndex := 526, attributes := #[] }, { accessFlags := 26, nameIndex := 674, descriptorIndex := 12, attributes := #[] }, { accessFlags := 26, nameIndex := 677, descriptorIndex := 12, attributes := #[] }, { accessFlags := 10, nameIndex := 11, descriptorIndex := 12, attributes := #[] }, { accessFlags := 74, nameIndex := 175, descriptorIndex := 176, attributes := #[] }, { accessFlags := 10, nameIndex := 491, descriptorIndex := 222, attributes := #[] }, { accessFlags := 74, nameIndex := 29, descriptorIndex := 30, attributes := #[] }, { accessFlags := 74, nameIndex := 154, descriptorIndex := 155, attributes := #[] }, { accessFlags := 10, nameIndex := 217, descriptorIndex := 218, attributes := #[] }, { accessFlags := 10, nameIndex := 221, descriptorIndex := 222, attributes := #[] }, { accessFlags := 8, nameIndex := 562, descriptorIndex := 563, attributes := #[] }])
  fields := #[{ name := "in", type := (.object "java/io/InputStream"), accessFlags := 25, slot := 0, constantValue := 0 }, { name := "out", type := (.object "java/io/PrintStream"), accessFlags := 25, slot := 1, constantValue := 0 }, { name := "err", type := (.object "java/io/PrintStream"), accessFlags := 25, slot := 2, constantValue := 0 }, { name := "initialIn", type := (.object "java/io/InputStream"), accessFlags := 10, slot := 3, constantValue := 0 }, { name := "NEVER", type := .int, accessFlags := 26, slot := 4, constantValue := 0 }, { name := "MAYBE", type := .int, accessFlags := 26, slot := 5, constantValue := 0 }, { name := "allowSecurityManager", type := .int, accessFlags := 10, slot := 6, constantValue := 0 }, { name := "security", type := (.object "java/lang/SecurityManager"), accessFlags := 74, slot := 7, constantValue := 0 }, { name := "notSupportedJnuEncoding", type := (.object "java/lang/String"), accessFlags := 10, slot := 8, constantValue := 0 }, { name := "cons", type := (.object "java/io/Console"), accessFlags := 74, slot := 9, constantValue := 0 }, { name := "initialErrStream", type := (.object "java/io/PrintStream"), accessFlags := 74, slot := 10, constantValue := 0 }, { name := "props", type := (.object "java/util/Properties"), accessFlags := 10, slot := 11, constantValue := 0 }, { name := "lineSeparator", type := (.object "java/lang/String"), accessFlags := 10, slot := 12, constantValue := 0 }, { name := "bootLayer", type := (.object "java/lang/ModuleLayer"), accessFlags := 8, slot := 13, constantValue := 0 }]
  methods := #[k30m0, k30m1]
  instanceTypes := #[]
  staticTypes := #[(.object "java/io/InputStream"), (.object "java/io/PrintStream"), (.object "java/io/PrintStream"), (.object "java/io/InputStream"), .int, .int, .int, (.object "java/lang/SecurityManager"), (.object "java/lang/String"), (.object "java/io/Console"), (.object "java/io/PrintStream"), (.object "java/util/Properties"), (.object "java/lang/String"), (.object "java/lang/ModuleLayer")]
  resolved := Array.replicate 834 none
  statics := none }

def pool31 : Array CpInfo := pool [(2, .class_ 4), (1, u "java/lang/Object"), (0, u "<init>"), (0, u "()V"), (35, .class_ 44), (1, u "java/util/Objects"), (0, u "requireNonNull"), (0, u "(Ljava/lang/Object;)Ljava/lang/Object;")] 137

def k31m0 : Method := { name := "<init>", desc := "()V", sig := { parameters := [], returnType := none }, accessFlags := 2, code := none }
def k31c1 : Code := { maxStack := 2, maxLocals := 1, code := jdk_31_method_10_code, exceptionTable := #[], attributes := #[] }
def k31m1 : Method := { name := "requireNonNull", desc := "(Ljava/lang/Object;)Ljava/lang/Object;", sig := { parameters := [(.object "java/lang/Object")], returnType := some (.object "java/lang/Object") }, accessFlags := 9, code := some k31c1 }
/-- java/util/Objects -/
def k31 : Class := { plain "java/util/Objects" (some 0) with
  accessFlags := 49
  interfaces := #[]
  cf := some (fileOf pool31 42 #[] #[{ accessFlags := 2, nameIndex := 5, descriptorIndex := 6, attributes := #[] }, { accessFlags := 9, nameIndex := 45, descriptorIndex := 46, attributes := #[] }] 49 2 #[] #[])
  fields := #[]
  methods := #[k31m0, k31m1]
  instanceTypes := #[]
  staticTypes := #[]
  resolved := Array.replicate 184 none
  statics := none }

def pool32 : Array CpInfo := pool [(4, .class_ 6), (1, u "java/lang/Object"), (0, u "<init>"), (0, u "()V"), (5, .class_ 16), (1, u "java/lang/StringLatin1"), (104, u "$assertionsDisabled"), (0, u "Z"), (98, .class_ 223), (1, u "java/lang/StringLatin1$LinesSpliterator"), (166, .class_ 391), (0, u "java/lang/StringLatin1$CharsSpliterator")] 3

def k32m0 : Method := { name := "<init>", desc := "()V", sig := { parameters := [], returnType := none }, accessFlags := 0, code := none }
/-- java/lang/StringLatin1 -/
def k32 : Class := { plain "java/lang/StringLatin1" (some 0) with
  accessFlags := 48
  interfaces := #[]
  cf := some (fileOf pool32 14 #[.nestMembers #[390, 221]] #[{ accessFlags := 0, nameIndex := 7, descriptorIndex := 8, attributes := #[] }] 48 4 #[] #[{ accessFlags := 4120, nameIndex := 121, descriptorIndex := 122, attributes := #[] }])
  fields := #[{ name := "$assertionsDisabled", type := .boolean, accessFlags := 4120, slot := 0, constantValue := 0 }]
  methods := #[k32m0]
  instanceTypes := #[]
  staticTypes := #[.boolean]
  resolved := Array.replicate 395 none
  statics := none }

def pool33 : Array CpInfo := pool [(2, .class_ 4), (1, u "java/lang/Object"), (0, u "<init>"), (0, u "()V"), (17, .class_ 26), (1, u "jdk/internal/util/Preconditions"), (28, .class_ 56), (0, u "jdk/internal/util/Preconditions$4"), (57, .class_ 115), (0, u "jdk/internal/util/Preconditions$1"), (7, u "SIOOBE_FORMATTER"), (0, u "Ljava/util/function/BiFunction;"), (0, .class_ 126), (0, u "jdk/internal/util/Preconditions$2"), (3, u "AIOOBE_FORMATTER"), (0, .class_ 132), (0, u "jdk/internal/util/Preconditions$3"), (3, u "IOOBE_FORMATTER")] 57

def k33m0 : Method := { name := "<init>", desc := "()V", sig := { parameters := [], returnType := none }, accessFlags := 1, code := none }
/-- jdk/internal/util/Preconditions -/
def k33 : Class := { plain "jdk/internal/util/Preconditions" (some 0) with
  accessFlags := 33
  interfaces := #[]
  cf := some (fileOf pool33 24 #[.nestMembers #[55, 131, 125, 114]] #[{ accessFlags := 1, nameIndex := 5, descriptorIndex := 6, attributes := #[] }] 33 2 #[] #[{ accessFlags := 25, nameIndex := 123, descriptorIndex := 124, attributes := #[] }, { accessFlags := 25, nameIndex := 130, descriptorIndex := 124, attributes := #[] }, { accessFlags := 25, nameIndex := 136, descriptorIndex := 124, attributes := #[] }])
  fields := #[{ name := "SIOOBE_FORMATTER", type := (.object "java/util/function/BiFunction"), accessFlags := 25, slot := 0, constantValue := 0 }, { name := "AIOOBE_FORMATTER", type := (.object "java/util/function/BiFunction"), accessFlags := 25, slot := 1, constantValue := 0 }, { name := "IOOBE_FORMATTER", type := (.object "java/util/function/BiFunction"), accessFlags := 25, slot := 2, constantValue := 0 }]
  methods := #[k33m0]
  instanceTypes := #[]
  staticTypes := #[(.object "java/util/function/BiFunction"), (.object "java/util/function/BiFunction"), (.object "java/util/function/BiFunction")]
  resolved := Array.replicate 194 none
  statics := some 4 }

def pool34 : Array CpInfo := pool [(9, u "<init>"), (6, .class_ 18), (1, u "java/lang/Object"), (0, u "()V"), (1, .class_ 23), (1, u "jdk/internal/util/ArraysSupport"), (0, u "LOG2_ARRAY_LONG_INDEX_SCALE"), (0, u "I"), (2, u "U"), (0, u "Ljdk/internal/misc/Unsafe;"), (8, u "BIG_ENDIAN"), (0, u "Z"), (8, u "LOG2_BYTE_BIT_SIZE"), (4, u "LOG2_ARRAY_INT_INDEX_SCALE"), (54, u "JLA"), (0, u "Ljdk/internal/access/JavaLangAccess;"), (11, u "LOG2_ARRAY_BOOLEAN_INDEX_SCALE"), (9, u "LOG2_ARRAY_BYTE_INDEX_SCALE"), (5, u "LOG2_ARRAY_CHAR_INDEX_SCALE"), (5, u "LOG2_ARRAY_SHORT_INDEX_SCALE"), (18, u "LOG2_ARRAY_FLOAT_INDEX_SCALE"), (24, u "LOG2_ARRAY_DOUBLE_INDEX_SCALE"), (89, u "T_BOOLEAN"), (2, u "T_CHAR"), (1, u "T_FLOAT"), (1, u "T_DOUBLE"), (1, u "T_BYTE"), (1, u "T_SHORT"), (1, u "T_INT"), (1, u "T_LONG"), (1, u "SOFT_MAX_ARRAY_LENGTH")] 83

def k34m0 : Method := { name := "<init>", desc := "()V", sig := { parameters := [], returnType := none }, accessFlags := 2, code := none }
/-- jdk/internal/util/ArraysSupport -/
def k34 : Class := { plain "jdk/internal/util/ArraysSupport" (some 0) with
  accessFlags := 33
  interfaces := #[]
  cf := some (fileOf pool34 21 #[] #[{ accessFlags := 2, nameIndex := 9, descriptorIndex := 19, attributes := #[] }] 33 16 #[] #[{ accessFlags := 24, nameIndex := 28, descriptorIndex := 29, attributes := #[] }, { accessFlags := 26, nameIndex := 38, descriptorIndex := 39, attributes := #[] }, { accessFlags := 25, nameIndex := 121, descriptorIndex := 25, attributes := #[] }, { accessFlags := 25, nameIndex := 131, descriptorIndex := 25, attributes := #[] }, { accessFlags := 25, nameIndex := 137, descriptorIndex := 25, attributes := #[] }, { accessFlags := 25, nameIndex := 143, descriptorIndex := 25, attributes := #[] }, { accessFlags := 25, nameIndex := 53, descriptorIndex := 25, attributes := #[] }, { accessFlags := 25, nameIndex := 24, descriptorIndex := 25, attributes := #[] }, { accessFlags := 25, nameIndex := 162, descriptorIndex := 25, attributes := #[] }, { accessFlags := 25, nameIndex := 187, descriptorIndex := 25, attributes := #[] }, { accessFlags := 26, nameIndex := 48, descriptorIndex := 25, attributes := #[] }, { accessFlags := 25, nameIndex := 277, descriptorIndex := 25, attributes := #[] }, { accessFlags := 25, nameIndex := 280, descriptorIndex := 25, attributes := #[] }, { accessFlags := 25, nameIndex := 282, descriptorIndex := 25, attributes := #[] }, { accessFlags := 25, nameIndex := 284, descriptorIndex := 25, attributes := #[] }, { accessFlags := 25, nameIndex := 286, descriptorIndex := 25, attributes := #[] }, { accessFlags := 25, nameIndex := 288, descriptorIndex := 25, attributes := #[] }, { accessFlags := 25, nameIndex := 290, descriptorIndex := 25, attributes := #[] }, { accessFlags := 25, nameIndex := 292, descriptorIndex := 25, attributes := #[] }, { accessFlags := 26, nameIndex := 108, descriptorIndex := 109, attributes := #[] }, { accessFlags := 25, nameIndex := 294, descriptorIndex := 25, attributes := #[] }])
  fields := #[{ name := "U", type := (.object "jdk/internal/misc/Unsafe"), accessFlags := 24, slot := 0, constantValue := 0 }, { name := "BIG_ENDIAN", type := .boolean, accessFlags := 26, slot := 1, constantValue := 0 }, { name := "LOG2_ARRAY_BOOLEAN_INDEX_SCALE", type := .int, accessFlags := 25, slot := 2, constantValue := 0 }, { name := "LOG2_ARRAY_BYTE_INDEX_SCALE", type := .int, accessFlags := 25, slot := 3, constantValue := 0 }, { name := "LOG2_ARRAY_CHAR_INDEX_SCALE", type := .int, accessFlags := 25, slot := 4, constantValue := 0 }, { name := "LOG2_ARRAY_SHORT_INDEX_SCALE", type := .int, accessFlags := 25, slot := 5, constantValue := 0 }, { name := "LOG2_ARRAY_INT_INDEX_SCALE", type := .int, accessFlags := 25, slot := 6, constantValue := 0 }, { name := "LOG2_ARRAY_LONG_INDEX_SCALE", type := .int, accessFlags := 25, slot := 7, constantValue := 0 }, { name := "LOG2_ARRAY_FLOAT_INDEX_SCALE", type := .int, accessFlags := 25, slot := 8, constantValue := 0 }, { name := "LOG2_ARRAY_DOUBLE_INDEX_SCALE", type := .int, accessFlags := 25, slot := 9, constantValue := 0 }, { name := "LOG2_BYTE_BIT_SIZE", type := .int, accessFlags := 26, slot := 10, constantValue := 0 }, { name := "T_BOOLEAN", type := .int, accessFlags := 25, slot := 11, constantValue := 0 }, { name := "T_CHAR", type := .int, accessFlags := 25, slot := 12, constantValue := 0 }, { name := "T_FLOAT", type := .int, accessFlags := 25, slot := 13, constantValue := 0 }, { name := "T_DOUBLE", type := .int, accessFlags := 25, slot := 14, constantValue := 0 }, { name := "T_BYTE", type := .int, accessFlags := 25, slot := 15, constantValue := 0 }, { name := "T_SHORT", type := .int, accessFlags := 25, slot := 16, constantValue := 0 }, { name := "T_INT", type := .int, accessFlags := 25, slot := 17, constantValue := 0 }, { name := "T_LONG", type := .int, accessFlags := 25, slot := 18, constantValue := 0 }, { name := "JLA", type := (.object "jdk/internal/access/JavaLangAccess"), accessFlags := 26, slot := 19, constantValue := 0 }, { name := "SOFT_MAX_ARRAY_LENGTH", type := .int, accessFlags := 25, slot := 20, constantValue := 0 }]
  methods := #[k34m0]
  instanceTypes := #[]
  staticTypes := #[(.object "jdk/internal/misc/Unsafe"), .boolean, .int, .int, .int, .int, .int, .int, .int, .int, .int, .int, .int, .int, .int, .int, .int, .int, .int, (.object "jdk/internal/access/JavaLangAccess"), .int]
  resolved := Array.replicate 378 none
  statics := none }

def pool35 : Array CpInfo := pool [(1, u "java/lang/Class"), (0, .class_ 1), (0, u "java/lang/Object"), (0, .class_ 3)] 0

/-- java/lang/Class -/
def k35 : Class := { plain "java/lang/Class" (some 0) with
  accessFlags := 49
  interfaces := #[]
  cf := some (fileOf pool35 2 #[] #[] 49 4 #[] #[])
  fields := #[]
  methods := #[]
  instanceTypes := #[]
  staticTypes := #[]
  resolved := Array.replicate 5 none
  statics := none }

/-- the primitive byte -/
def k36 : Class := { plain "byte" none with kind := .primitive 'B', accessFlags := 0x411 }
/-- [B -/
def k37 : Class := { plain "[B" (some 0) with kind := .array 36 .byte, interfaces := #[20, 2], accessFlags := 1041 }

/-- the primitive char -/
def k38 : Class := { plain "char" none with kind := .primitive 'C', accessFlags := 0x411 }
/-- [C -/
def k39 : Class := { plain "[C" (some 0) with kind := .array 38 .char, interfaces := #[20, 2], accessFlags := 1041 }

/-- the primitive int -/
def k40 : Class := { plain "int" none with kind := .primitive 'I', accessFlags := 0x411 }
/-- [I -/
def k41 : Class := { plain "[I" (some 0) with kind := .array 40 .int, interfaces := #[20, 2], accessFlags := 1041 }

/-- [Ljava/lang/Object; -/
def k42 : Class := { plain "[Ljava/lang/Object;" (some 0) with kind := .array 0 (.object "java/lang/Object"), interfaces := #[20, 2], accessFlags := 1041, mirror := some 5 }

def heap : Heap := #[{ cls := 7, slots := #[.long 0, .int 1, .null, .int 0, .null, .int 0, .int 0], vm := .statics 7 },
  { cls := 10, slots := #[.ref 7, .ref 8, .ref 9, .null], vm := .statics 10 },
  { cls := 21, slots := #[.long 0, .int 0, .ref 11, .ref 12], vm := .statics 21 },
  { cls := 24, slots := #[.long 0, .int 0, .null, .ref 13, .ref 10, .null, .null, .null, .int 0, .int 1], vm := .statics 24 },
  { cls := 33, slots := #[.null, .null, .null], vm := .statics 33 },
  { cls := 35, slots := #[], vm := .mirror 42 },
  { cls := 42, slots := #[], vm := .none },
  { cls := 10, slots := #[.null, .int 0, .int 0], vm := .none },
  { cls := 10, slots := #[.null, .int 0, .int 0], vm := .none },
  { cls := 10, slots := #[.null, .int 0, .int 0], vm := .none },
  { cls := 28, slots := #[.ref 6, .int 0], vm := .none },
  { cls := 42, slots := #[], vm := .none },
  { cls := 42, slots := #[], vm := .none },
  { cls := 0, slots := #[], vm := .none }]
def classes : Array Class := #[k0, k1, k2, k3, k4, k5, k6, k7, k8, k9, k10, k11, k12, k13, k14, k15, k16, k17, k18, k19, k20, k21, k22, k23, k24, k25, k26, k27, k28, k29, k30, k31, k32, k33, k34, k35, k36, k37, k38, k39, k40, k41, k42]
def interned : List (Array UInt16 × Addr) := []
def slotsUsed : Nat := 39
def theMethod : MethodId := ⟨1, 3⟩
def args0 : Array Value := #[.long 5, .int 5, .int 5, .int 5, .int 5, .int 5]
def aboutOver (below : List Frame) : State where
  vm := { classes := classes, interned := interned.toArray }
  heap := heap
  slotsUsed := slotsUsed
  threads := #[{ frames := .invoking theMethod args0 :: below }]
def below0 : List Frame := [.native { method := ⟨0, 0⟩, args := #[] }]
def about1 : State := aboutOver below0
def p0 : Program := .bare "" "" ""
def e0 : Env := launch0.env 0 0 0
theorem w_frames : about1.frames = Frame.invoking theMethod args0 :: below0 := rfl
set_option maxRecDepth 65536 in
theorem w_args : argsFit about1.vm theMethod args0 = true := by decide +kernel
set_option maxRecDepth 65536 in
theorem w_heap : heapFits about1 = true := by decide +kernel
set_option maxRecDepth 65536 in
theorem w_runnable : about1.curStatus? = some .runnable := by decide +kernel
set_option maxRecDepth 65536 in
theorem w_alone : about1.alone = true := by decide +kernel
set_option maxRecDepth 65536 in
theorem w_named : about1.methodNamed? x = some theMethod := by decide +kernel
set_option maxRecDepth 65536 in
theorem w_hears : about1.hears theMethod below0 = true := by decide +kernel
set_option maxRecDepth 65536 in
theorem w_ripe : about1.ripe theMethod args0 below0 = true := by decide +kernel
theorem w_running : about1.status = .running := rfl
set_option maxRecDepth 65536 in
theorem w_room : about1.hasRoom e0.platform room_1 = true :=
  launch0.hasRoom_least _ room_1 (by decide +kernel) (by decide +kernel) (by decide +kernel) (by decide +kernel) (by decide +kernel) (by decide +kernel)
theorem allAtoms_all (ts : List Jvm.Cond) (a : Array Jvm.Value) (st : Jvm.State) : (allAtoms ts).before a st = ts.all (fun c => c.before a st) := by
  induction ts with
  | nil => rfl
  | cons c t ih =>
    show (Jvm.Cond.and c (allAtoms t)).before a st = _
    rw [Jvm.Cond.before_and, ih, List.all_cons]
def words1 : List Jvm.Cond := Jvm.Cond.code x code maxLocals ret :: tables_1
/-- a 'code' word, met by the world's own term for the bytes: nothing is compared byte by byte -/
theorem code_word {y : MethodName} {bytes : ByteArray} {mx : Nat} {rt : Option FieldType} {a : Array Value} {s : State} {m : MethodId} {meth : Method} {c : Code} (h1 : s.methodNamed? y = some m) (h2 : s.vm.method? m = some meth) (h3 : meth.code = some c) (h4 : c.code = bytes)
    (h5 : (c.maxLocals == mx && c.exceptionTable.isEmpty && decide (c.maxStack ≤ mostOperands) && decide (meth.sig.returnType = rt) && !meth.locks && decide (parseMethodDescriptor y.desc = some meth.sig)) = true) : (Jvm.Cond.code y bytes mx rt).before a s = true := by
  simp only [Bool.and_eq_true, beq_iff_eq, Bool.not_eq_true', decide_eq_true_eq] at h5
  obtain ⟨⟨⟨⟨⟨g1, g2⟩, g3⟩, g4⟩, g5⟩, g6⟩ := h5
  simp [Cond.before, Cond.holds, Cond.value, h1, h2, h3, h4, g1, g2, g3, g4, g5, g6]
def isCode : Jvm.Cond → Bool
  | .code _ _ _ _ => true
  | _ => false
theorem all_split {L : List Jvm.Cond} {P : Jvm.Cond → Bool} (h1 : L.all (fun c => isCode c || P c) = true) (h2 : ∀ c ∈ L.filter isCode, P c = true) : L.all P = true := by
  refine List.all_eq_true.mpr fun c hc => ?_
  have h := List.all_eq_true.mp h1 c hc
  rcases Bool.eq_false_or_eq_true (isCode c) with hi | hi
  · exact h2 c (List.mem_filter.mpr ⟨hc, hi⟩)
  · simpa [hi] using h
set_option maxRecDepth 65536 in
theorem w_c0 : (Jvm.Cond.code x code maxLocals ret).before args0 about1 = true := code_word (m := ⟨1, 3⟩) (meth := k1m3) (c := k1c3) (by decide +kernel) rfl rfl rfl (by decide +kernel)
set_option maxRecDepth 65536 in
theorem w_c1 : (Jvm.Cond.code ({ cls := "com/example/myna/myna/orders/OrderWithExternalStatePinLaw", name := "two", desc := "(I)Ljava/lang/String;" } : Jvm.MethodName) method_2_code (2 : Nat) (Option.some (Jvm.ClassFile.FieldType.object "java/lang/String"))).before args0 about1 = true := code_word (m := ⟨1, 1⟩) (meth := k1m1) (c := k1c1) (by decide +kernel) rfl rfl rfl (by decide +kernel)
set_option maxRecDepth 65536 in
theorem w_c2 : (Jvm.Cond.code ({ cls := "java/lang/String", name := "<init>", desc := "([C)V" } : Jvm.MethodName) jdk_42_method_3_code (2 : Nat) (Option.none : Option Jvm.ClassFile.FieldType)).before args0 about1 = true := code_word (m := ⟨7, 1⟩) (meth := k7m1) (c := k7c1) (by decide +kernel) rfl rfl rfl (by decide +kernel)
set_option maxRecDepth 65536 in
theorem w_c3 : (Jvm.Cond.code ({ cls := "java/lang/String", name := "<init>", desc := "([CIILjava/lang/Void;)V" } : Jvm.MethodName) jdk_42_method_149_code (6 : Nat) (Option.none : Option Jvm.ClassFile.FieldType)).before args0 about1 = true := code_word (m := ⟨7, 3⟩) (meth := k7m3) (c := k7c3) (by decide +kernel) rfl rfl rfl (by decide +kernel)
set_option maxRecDepth 65536 in
theorem w_c4 : (Jvm.Cond.code ({ cls := "java/lang/Object", name := "<init>", desc := "()V" } : Jvm.MethodName) object_method_1_code (1 : Nat) (Option.none : Option Jvm.ClassFile.FieldType)).before args0 about1 = true := code_word (m := ⟨0, 0⟩) (meth := k0m0) (c := k0c0) (by decide +kernel) rfl rfl rfl (by decide +kernel)
set_option maxRecDepth 65536 in
theorem w_c5 : (Jvm.Cond.code ({ cls := "java/lang/StringUTF16", name := "compress", desc := "([CII)[B" } : Jvm.MethodName) jdk_52_method_16_code (6 : Nat) (Option.some (Jvm.ClassFile.FieldType.array Jvm.ClassFile.FieldType.byte))).before args0 about1 = true := code_word (m := ⟨8, 2⟩) (meth := k8m2) (c := k8c2) (by decide +kernel) rfl rfl rfl (by decide +kernel)
set_option maxRecDepth 65536 in
theorem w_c6 : (Jvm.Cond.code ({ cls := "java/lang/StringUTF16", name := "compress", desc := "([CI[BII)I" } : Jvm.MethodName) jdk_52_method_21_code (7 : Nat) (Option.some Jvm.ClassFile.FieldType.int)).before args0 about1 = true := code_word (m := ⟨8, 3⟩) (meth := k8m3) (c := k8c3) (by decide +kernel) rfl rfl rfl (by decide +kernel)
set_option maxRecDepth 65536 in
theorem w_c7 : (Jvm.Cond.code ({ cls := "java/lang/StringUTF16", name := "coderFromArrayLen", desc := "([BI)B" } : Jvm.MethodName) jdk_52_method_15_code (2 : Nat) (Option.some Jvm.ClassFile.FieldType.byte)).before args0 about1 = true := code_word (m := ⟨8, 1⟩) (meth := k8m1) (c := k8c1) (by decide +kernel) rfl rfl rfl (by decide +kernel)
set_option maxRecDepth 65536 in
theorem w_c8 : (Jvm.Cond.code ({ cls := "com/example/myna/myna/orders/OrderLine", name := "<init>", desc := "(Lcom/example/myna/myna/catalog/Sku;II)V" } : Jvm.MethodName) prog_21_method_1_code (4 : Nat) (Option.none : Option Jvm.ClassFile.FieldType)).before args0 about1 = true := code_word (m := ⟨12, 0⟩) (meth := k12m0) (c := k12c0) (by decide +kernel) rfl rfl rfl (by decide +kernel)
set_option maxRecDepth 65536 in
theorem w_c9 : (Jvm.Cond.code ({ cls := "java/lang/Record", name := "<init>", desc := "()V" } : Jvm.MethodName) jdk_30_method_1_code (1 : Nat) (Option.none : Option Jvm.ClassFile.FieldType)).before args0 about1 = true := code_word (m := ⟨11, 0⟩) (meth := k11m0) (c := k11c0) (by decide +kernel) rfl rfl rfl (by decide +kernel)
set_option maxRecDepth 65536 in
theorem w_c10 : (Jvm.Cond.code ({ cls := "java/util/ArrayList", name := "<init>", desc := "()V" } : Jvm.MethodName) jdk_38_method_2_code (1 : Nat) (Option.none : Option Jvm.ClassFile.FieldType)).before args0 about1 = true := code_word (m := ⟨21, 0⟩) (meth := k21m0) (c := k21c0) (by decide +kernel) rfl rfl rfl (by decide +kernel)
set_option maxRecDepth 65536 in
theorem w_c11 : (Jvm.Cond.code ({ cls := "java/util/AbstractList", name := "<init>", desc := "()V" } : Jvm.MethodName) jdk_39_method_1_code (1 : Nat) (Option.none : Option Jvm.ClassFile.FieldType)).before args0 about1 = true := code_word (m := ⟨18, 0⟩) (meth := k18m0) (c := k18c0) (by decide +kernel) rfl rfl rfl (by decide +kernel)
set_option maxRecDepth 65536 in
theorem w_c12 : (Jvm.Cond.code ({ cls := "java/util/AbstractCollection", name := "<init>", desc := "()V" } : Jvm.MethodName) jdk_22_method_1_code (1 : Nat) (Option.none : Option Jvm.ClassFile.FieldType)).before args0 about1 = true := code_word (m := ⟨15, 0⟩) (meth := k15m0) (c := k15c0) (by decide +kernel) rfl rfl rfl (by decide +kernel)
set_option maxRecDepth 65536 in
theorem w_c13 : (Jvm.Cond.code ({ cls := "java/util/ArrayList", name := "add", desc := "(Ljava/lang/Object;)Z" } : Jvm.MethodName) jdk_38_method_25_code (2 : Nat) (Option.some Jvm.ClassFile.FieldType.boolean)).before args0 about1 = true := code_word (m := ⟨21, 6⟩) (meth := k21m6) (c := k21c6) (by decide +kernel) rfl rfl rfl (by decide +kernel)
set_option maxRecDepth 65536 in
theorem w_c14 : (Jvm.Cond.code ({ cls := "java/util/ArrayList", name := "add", desc := "(Ljava/lang/Object;[Ljava/lang/Object;I)V" } : Jvm.MethodName) jdk_38_method_24_code (4 : Nat) (Option.none : Option Jvm.ClassFile.FieldType)).before args0 about1 = true := code_word (m := ⟨21, 5⟩) (meth := k21m5) (c := k21c5) (by decide +kernel) rfl rfl rfl (by decide +kernel)
set_option maxRecDepth 65536 in
theorem w_c15 : (Jvm.Cond.code ({ cls := "java/util/ArrayList", name := "grow", desc := "()[Ljava/lang/Object;" } : Jvm.MethodName) jdk_38_method_7_code (1 : Nat) (Option.some (Jvm.ClassFile.FieldType.array (Jvm.ClassFile.FieldType.object "java/lang/Object")))).before args0 about1 = true := code_word (m := ⟨21, 2⟩) (meth := k21m2) (c := k21c2) (by decide +kernel) rfl rfl rfl (by decide +kernel)
set_option maxRecDepth 65536 in
theorem w_c16 : (Jvm.Cond.code ({ cls := "java/util/ArrayList", name := "grow", desc := "(I)[Ljava/lang/Object;" } : Jvm.MethodName) jdk_38_method_6_code (4 : Nat) (Option.some (Jvm.ClassFile.FieldType.array (Jvm.ClassFile.FieldType.object "java/lang/Object")))).before args0 about1 = true := code_word (m := ⟨21, 1⟩) (meth := k21m1) (c := k21c1) (by decide +kernel) rfl rfl rfl (by decide +kernel)
set_option maxRecDepth 65536 in
theorem w_c17 : (Jvm.Cond.code ({ cls := "java/lang/Math", name := "max", desc := "(II)I" } : Jvm.MethodName) jdk_29_method_65_code (2 : Nat) (Option.some Jvm.ClassFile.FieldType.int)).before args0 about1 = true := code_word (m := ⟨22, 1⟩) (meth := k22m1) (c := k22c1) (by decide +kernel) rfl rfl rfl (by decide +kernel)
set_option maxRecDepth 65536 in
theorem w_c18 : (Jvm.Cond.code ({ cls := "com/example/myna/myna/orders/Order", name := "<init>", desc := "(JLjava/lang/String;Ljava/lang/String;Lcom/example/myna/myna/orders/Order$State;Ljava/lang/String;ZLjava/util/List;Ljava/util/List;)V" } : Jvm.MethodName) prog_19_method_1_code (10 : Nat) (Option.none : Option Jvm.ClassFile.FieldType)).before args0 about1 = true := code_word (m := ⟨23, 0⟩) (meth := k23m0) (c := k23c0) (by decide +kernel) rfl rfl rfl (by decide +kernel)
set_option maxRecDepth 65536 in
theorem w_c19 : (Jvm.Cond.code ({ cls := "java/util/List", name := "copyOf", desc := "(Ljava/util/Collection;)Ljava/util/List;" } : Jvm.MethodName) jdk_40_method_48_code (1 : Nat) (Option.some (Jvm.ClassFile.FieldType.object "java/util/List"))).before args0 about1 = true := code_word (m := ⟨17, 4⟩) (meth := k17m4) (c := k17c4) (by decide +kernel) rfl rfl rfl (by decide +kernel)
set_option maxRecDepth 65536 in
theorem w_c20 : (Jvm.Cond.code ({ cls := "java/util/ImmutableCollections", name := "listCopy", desc := "(Ljava/util/Collection;)Ljava/util/List;" } : Jvm.MethodName) jdk_56_method_3_code (2 : Nat) (Option.some (Jvm.ClassFile.FieldType.object "java/util/List"))).before args0 about1 = true := code_word (m := ⟨24, 1⟩) (meth := k24m1) (c := k24c1) (by decide +kernel) rfl rfl rfl (by decide +kernel)
set_option maxRecDepth 65536 in
theorem w_c21 : (Jvm.Cond.code ({ cls := "java/util/ArrayList", name := "isEmpty", desc := "()Z" } : Jvm.MethodName) jdk_38_method_9_code (1 : Nat) (Option.some Jvm.ClassFile.FieldType.boolean)).before args0 about1 = true := code_word (m := ⟨21, 3⟩) (meth := k21m3) (c := k21c3) (by decide +kernel) rfl rfl rfl (by decide +kernel)
set_option maxRecDepth 65536 in
theorem w_c22 : (Jvm.Cond.code ({ cls := "java/util/ArrayList", name := "toArray", desc := "()[Ljava/lang/Object;" } : Jvm.MethodName) jdk_38_method_16_code (1 : Nat) (Option.some (Jvm.ClassFile.FieldType.array (Jvm.ClassFile.FieldType.object "java/lang/Object")))).before args0 about1 = true := code_word (m := ⟨21, 4⟩) (meth := k21m4) (c := k21c4) (by decide +kernel) rfl rfl rfl (by decide +kernel)
set_option maxRecDepth 65536 in
theorem w_c23 : (Jvm.Cond.code ({ cls := "java/util/Arrays", name := "copyOf", desc := "([Ljava/lang/Object;I)[Ljava/lang/Object;" } : Jvm.MethodName) jdk_65_method_119_code (2 : Nat) (Option.some (Jvm.ClassFile.FieldType.array (Jvm.ClassFile.FieldType.object "java/lang/Object")))).before args0 about1 = true := code_word (m := ⟨29, 1⟩) (meth := k29m1) (c := k29c1) (by decide +kernel) rfl rfl rfl (by decide +kernel)
set_option maxRecDepth 65536 in
theorem w_c24 : (Jvm.Cond.code ({ cls := "java/util/Arrays", name := "copyOf", desc := "([Ljava/lang/Object;ILjava/lang/Class;)[Ljava/lang/Object;" } : Jvm.MethodName) jdk_65_method_120_code (4 : Nat) (Option.some (Jvm.ClassFile.FieldType.array (Jvm.ClassFile.FieldType.object "java/lang/Object")))).before args0 about1 = true := code_word (m := ⟨29, 2⟩) (meth := k29m2) (c := k29c2) (by decide +kernel) rfl rfl rfl (by decide +kernel)
set_option maxRecDepth 65536 in
theorem w_c25 : (Jvm.Cond.code ({ cls := "java/lang/Math", name := "min", desc := "(II)I" } : Jvm.MethodName) jdk_29_method_69_code (2 : Nat) (Option.some Jvm.ClassFile.FieldType.int)).before args0 about1 = true := code_word (m := ⟨22, 2⟩) (meth := k22m2) (c := k22c2) (by decide +kernel) rfl rfl rfl (by decide +kernel)
set_option maxRecDepth 65536 in
theorem w_c26 : (Jvm.Cond.code ({ cls := "java/util/List", name := "of", desc := "([Ljava/lang/Object;)Ljava/util/List;" } : Jvm.MethodName) jdk_40_method_47_code (2 : Nat) (Option.some (Jvm.ClassFile.FieldType.object "java/util/List"))).before args0 about1 = true := code_word (m := ⟨17, 3⟩) (meth := k17m3) (c := k17c3) (by decide +kernel) rfl rfl rfl (by decide +kernel)
set_option maxRecDepth 65536 in
theorem w_c27 : (Jvm.Cond.code ({ cls := "java/util/ImmutableCollections$List12", name := "<init>", desc := "(Ljava/lang/Object;)V" } : Jvm.MethodName) jdk_44_method_1_code (2 : Nat) (Option.none : Option Jvm.ClassFile.FieldType)).before args0 about1 = true := code_word (m := ⟨27, 0⟩) (meth := k27m0) (c := k27c0) (by decide +kernel) rfl rfl rfl (by decide +kernel)
set_option maxRecDepth 65536 in
theorem w_c28 : (Jvm.Cond.code ({ cls := "java/util/ImmutableCollections$AbstractImmutableList", name := "<init>", desc := "()V" } : Jvm.MethodName) jdk_46_method_1_code (1 : Nat) (Option.none : Option Jvm.ClassFile.FieldType)).before args0 about1 = true := code_word (m := ⟨26, 0⟩) (meth := k26m0) (c := k26c0) (by decide +kernel) rfl rfl rfl (by decide +kernel)
set_option maxRecDepth 65536 in
theorem w_c29 : (Jvm.Cond.code ({ cls := "java/util/ImmutableCollections$AbstractImmutableCollection", name := "<init>", desc := "()V" } : Jvm.MethodName) jdk_47_method_1_code (1 : Nat) (Option.none : Option Jvm.ClassFile.FieldType)).before args0 about1 = true := code_word (m := ⟨25, 0⟩) (meth := k25m0) (c := k25c0) (by decide +kernel) rfl rfl rfl (by decide +kernel)
set_option maxRecDepth 65536 in
theorem w_c30 : (Jvm.Cond.code ({ cls := "java/util/Objects", name := "requireNonNull", desc := "(Ljava/lang/Object;)Ljava/lang/Object;" } : Jvm.MethodName) jdk_31_method_10_code (1 : Nat) (Option.some (Jvm.ClassFile.FieldType.object "java/lang/Object"))).before args0 about1 = true := code_word (m := ⟨31, 1⟩) (meth := k31m1) (c := k31c1) (by decide +kernel) rfl rfl rfl (by decide +kernel)
set_option maxRecDepth 65536 in
theorem w_c31 : (Jvm.Cond.code ({ cls := "java/util/List", name := "of", desc := "()Ljava/util/List;" } : Jvm.MethodName) jdk_40_method_36_code (0 : Nat) (Option.some (Jvm.ClassFile.FieldType.object "java/util/List"))).before args0 about1 = true := code_word (m := ⟨17, 2⟩) (meth := k17m2) (c := k17c2) (by decide +kernel) rfl rfl rfl (by decide +kernel)
set_option maxRecDepth 65536 in
theorem w_c32 : (Jvm.Cond.code ({ cls := "com/example/myna/myna/orders/Order", name := "withExternalState", desc := "(Ljava/lang/String;)Lcom/example/myna/myna/orders/Order;" } : Jvm.MethodName) prog_19_method_3_code (2 : Nat) (Option.some (Jvm.ClassFile.FieldType.object "com/example/myna/myna/orders/Order"))).before args0 about1 = true := code_word (m := ⟨23, 1⟩) (meth := k23m1) (c := k23c1) (by decide +kernel) rfl rfl rfl (by decide +kernel)
set_option maxRecDepth 65536 in
theorem w_c33 : (Jvm.Cond.code ({ cls := "com/example/myna/myna/orders/Order", name := "lines", desc := "()Ljava/util/List;" } : Jvm.MethodName) prog_19_method_16_code (1 : Nat) (Option.some (Jvm.ClassFile.FieldType.object "java/util/List"))).before args0 about1 = true := code_word (m := ⟨23, 8⟩) (meth := k23m8) (c := k23c8) (by decide +kernel) rfl rfl rfl (by decide +kernel)
set_option maxRecDepth 65536 in
theorem w_c34 : (Jvm.Cond.code ({ cls := "com/example/myna/myna/orders/Order", name := "id", desc := "()J" } : Jvm.MethodName) prog_19_method_10_code (1 : Nat) (Option.some Jvm.ClassFile.FieldType.long)).before args0 about1 = true := code_word (m := ⟨23, 2⟩) (meth := k23m2) (c := k23c2) (by decide +kernel) rfl rfl rfl (by decide +kernel)
set_option maxRecDepth 65536 in
theorem w_c35 : (Jvm.Cond.code ({ cls := "com/example/myna/myna/orders/Order", name := "channel", desc := "()Ljava/lang/String;" } : Jvm.MethodName) prog_19_method_11_code (1 : Nat) (Option.some (Jvm.ClassFile.FieldType.object "java/lang/String"))).before args0 about1 = true := code_word (m := ⟨23, 3⟩) (meth := k23m3) (c := k23c3) (by decide +kernel) rfl rfl rfl (by decide +kernel)
set_option maxRecDepth 65536 in
theorem w_c36 : (Jvm.Cond.code ({ cls := "com/example/myna/myna/orders/OrderWithExternalStatePinLaw", name := "same", desc := "(Ljava/lang/String;Ljava/lang/String;)Z" } : Jvm.MethodName) method_3_code (2 : Nat) (Option.some Jvm.ClassFile.FieldType.boolean)).before args0 about1 = true := code_word (m := ⟨1, 2⟩) (meth := k1m2) (c := k1c2) (by decide +kernel) rfl rfl rfl (by decide +kernel)
set_option maxRecDepth 65536 in
theorem w_c37 : (Jvm.Cond.code ({ cls := "java/lang/String", name := "equals", desc := "(Ljava/lang/Object;)Z" } : Jvm.MethodName) jdk_42_method_66_code (3 : Nat) (Option.some Jvm.ClassFile.FieldType.boolean)).before args0 about1 = true := code_word (m := ⟨7, 2⟩) (meth := k7m2) (c := k7c2) (by decide +kernel) rfl rfl rfl (by decide +kernel)
set_option maxRecDepth 65536 in
theorem w_c38 : (Jvm.Cond.code ({ cls := "com/example/myna/myna/orders/Order", name := "externalId", desc := "()Ljava/lang/String;" } : Jvm.MethodName) prog_19_method_12_code (1 : Nat) (Option.some (Jvm.ClassFile.FieldType.object "java/lang/String"))).before args0 about1 = true := code_word (m := ⟨23, 4⟩) (meth := k23m4) (c := k23c4) (by decide +kernel) rfl rfl rfl (by decide +kernel)
set_option maxRecDepth 65536 in
theorem w_c39 : (Jvm.Cond.code ({ cls := "com/example/myna/myna/orders/Order", name := "state", desc := "()Lcom/example/myna/myna/orders/Order$State;" } : Jvm.MethodName) prog_19_method_13_code (1 : Nat) (Option.some (Jvm.ClassFile.FieldType.object "com/example/myna/myna/orders/Order$State"))).before args0 about1 = true := code_word (m := ⟨23, 5⟩) (meth := k23m5) (c := k23c5) (by decide +kernel) rfl rfl rfl (by decide +kernel)
set_option maxRecDepth 65536 in
theorem w_c40 : (Jvm.Cond.code ({ cls := "com/example/myna/myna/orders/Order", name := "externalState", desc := "()Ljava/lang/String;" } : Jvm.MethodName) prog_19_method_14_code (1 : Nat) (Option.some (Jvm.ClassFile.FieldType.object "java/lang/String"))).before args0 about1 = true := code_word (m := ⟨23, 6⟩) (meth := k23m6) (c := k23c6) (by decide +kernel) rfl rfl rfl (by decide +kernel)
set_option maxRecDepth 65536 in
theorem w_c41 : (Jvm.Cond.code ({ cls := "com/example/myna/myna/orders/Order", name := "awaitingAcknowledgement", desc := "()Z" } : Jvm.MethodName) prog_19_method_15_code (1 : Nat) (Option.some Jvm.ClassFile.FieldType.boolean)).before args0 about1 = true := code_word (m := ⟨23, 7⟩) (meth := k23m7) (c := k23c7) (by decide +kernel) rfl rfl rfl (by decide +kernel)
set_option maxRecDepth 65536 in
theorem w_c42 : (Jvm.Cond.code ({ cls := "java/util/ImmutableCollections$List12", name := "size", desc := "()I" } : Jvm.MethodName) jdk_44_method_3_code (1 : Nat) (Option.some Jvm.ClassFile.FieldType.int)).before args0 about1 = true := code_word (m := ⟨27, 1⟩) (meth := k27m1) (c := k27c1) (by decide +kernel) rfl rfl rfl (by decide +kernel)
set_option maxRecDepth 65536 in
theorem w_c43 : (Jvm.Cond.code ({ cls := "java/util/ImmutableCollections$List12", name := "get", desc := "(I)Ljava/lang/Object;" } : Jvm.MethodName) jdk_44_method_5_code (2 : Nat) (Option.some (Jvm.ClassFile.FieldType.object "java/lang/Object"))).before args0 about1 = true := code_word (m := ⟨27, 2⟩) (meth := k27m2) (c := k27c2) (by decide +kernel) rfl rfl rfl (by decide +kernel)
set_option maxRecDepth 65536 in
theorem w_c44 : (Jvm.Cond.code ({ cls := "com/example/myna/myna/orders/Order", name := "payments", desc := "()Ljava/util/List;" } : Jvm.MethodName) prog_19_method_17_code (1 : Nat) (Option.some (Jvm.ClassFile.FieldType.object "java/util/List"))).before args0 about1 = true := code_word (m := ⟨23, 9⟩) (meth := k23m9) (c := k23c9) (by decide +kernel) rfl rfl rfl (by decide +kernel)
set_option maxRecDepth 65536 in
theorem w_c45 : (Jvm.Cond.code ({ cls := "java/util/ImmutableCollections$ListN", name := "size", desc := "()I" } : Jvm.MethodName) jdk_45_method_3_code (1 : Nat) (Option.some Jvm.ClassFile.FieldType.int)).before args0 about1 = true := code_word (m := ⟨28, 0⟩) (meth := k28m0) (c := k28c0) (by decide +kernel) rfl rfl rfl (by decide +kernel)
def codes1 : List Jvm.Cond := [Jvm.Cond.code x code maxLocals ret, Jvm.Cond.code ({ cls := "com/example/myna/myna/orders/OrderWithExternalStatePinLaw", name := "two", desc := "(I)Ljava/lang/String;" } : Jvm.MethodName) method_2_code (2 : Nat) (Option.some (Jvm.ClassFile.FieldType.object "java/lang/String")), Jvm.Cond.code ({ cls := "java/lang/String", name := "<init>", desc := "([C)V" } : Jvm.MethodName) jdk_42_method_3_code (2 : Nat) (Option.none : Option Jvm.ClassFile.FieldType), Jvm.Cond.code ({ cls := "java/lang/String", name := "<init>", desc := "([CIILjava/lang/Void;)V" } : Jvm.MethodName) jdk_42_method_149_code (6 : Nat) (Option.none : Option Jvm.ClassFile.FieldType), Jvm.Cond.code ({ cls := "java/lang/Object", name := "<init>", desc := "()V" } : Jvm.MethodName) object_method_1_code (1 : Nat) (Option.none : Option Jvm.ClassFile.FieldType), Jvm.Cond.code ({ cls := "java/lang/StringUTF16", name := "compress", desc := "([CII)[B" } : Jvm.MethodName) jdk_52_method_16_code (6 : Nat) (Option.some (Jvm.ClassFile.FieldType.array Jvm.ClassFile.FieldType.byte)), Jvm.Cond.code ({ cls := "java/lang/StringUTF16", name := "compress", desc := "([CI[BII)I" } : Jvm.MethodName) jdk_52_method_21_code (7 : Nat) (Option.some Jvm.ClassFile.FieldType.int), Jvm.Cond.code ({ cls := "java/lang/StringUTF16", name := "coderFromArrayLen", desc := "([BI)B" } : Jvm.MethodName) jdk_52_method_15_code (2 : Nat) (Option.some Jvm.ClassFile.FieldType.byte), Jvm.Cond.code ({ cls := "com/example/myna/myna/orders/OrderLine", name := "<init>", desc := "(Lcom/example/myna/myna/catalog/Sku;II)V" } : Jvm.MethodName) prog_21_method_1_code (4 : Nat) (Option.none : Option Jvm.ClassFile.FieldType), Jvm.Cond.code ({ cls := "java/lang/Record", name := "<init>", desc := "()V" } : Jvm.MethodName) jdk_30_method_1_code (1 : Nat) (Option.none : Option Jvm.ClassFile.FieldType), Jvm.Cond.code ({ cls := "java/util/ArrayList", name := "<init>", desc := "()V" } : Jvm.MethodName) jdk_38_method_2_code (1 : Nat) (Option.none : Option Jvm.ClassFile.FieldType), Jvm.Cond.code ({ cls := "java/util/AbstractList", name := "<init>", desc := "()V" } : Jvm.MethodName) jdk_39_method_1_code (1 : Nat) (Option.none : Option Jvm.ClassFile.FieldType), Jvm.Cond.code ({ cls := "java/util/AbstractCollection", name := "<init>", desc := "()V" } : Jvm.MethodName) jdk_22_method_1_code (1 : Nat) (Option.none : Option Jvm.ClassFile.FieldType), Jvm.Cond.code ({ cls := "java/util/ArrayList", name := "add", desc := "(Ljava/lang/Object;)Z" } : Jvm.MethodName) jdk_38_method_25_code (2 : Nat) (Option.some Jvm.ClassFile.FieldType.boolean), Jvm.Cond.code ({ cls := "java/util/ArrayList", name := "add", desc := "(Ljava/lang/Object;[Ljava/lang/Object;I)V" } : Jvm.MethodName) jdk_38_method_24_code (4 : Nat) (Option.none : Option Jvm.ClassFile.FieldType), Jvm.Cond.code ({ cls := "java/util/ArrayList", name := "grow", desc := "()[Ljava/lang/Object;" } : Jvm.MethodName) jdk_38_method_7_code (1 : Nat) (Option.some (Jvm.ClassFile.FieldType.array (Jvm.ClassFile.FieldType.object "java/lang/Object"))), Jvm.Cond.code ({ cls := "java/util/ArrayList", name := "grow", desc := "(I)[Ljava/lang/Object;" } : Jvm.MethodName) jdk_38_method_6_code (4 : Nat) (Option.some (Jvm.ClassFile.FieldType.array (Jvm.ClassFile.FieldType.object "java/lang/Object"))), Jvm.Cond.code ({ cls := "java/lang/Math", name := "max", desc := "(II)I" } : Jvm.MethodName) jdk_29_method_65_code (2 : Nat) (Option.some Jvm.ClassFile.FieldType.int), Jvm.Cond.code ({ cls := "com/example/myna/myna/orders/Order", name := "<init>", desc := "(JLjava/lang/String;Ljava/lang/String;Lcom/example/myna/myna/orders/Order$State;Ljava/lang/String;ZLjava/util/List;Ljava/util/List;)V" } : Jvm.MethodName) prog_19_method_1_code (10 : Nat) (Option.none : Option Jvm.ClassFile.FieldType), Jvm.Cond.code ({ cls := "java/util/List", name := "copyOf", desc := "(Ljava/util/Collection;)Ljava/util/List;" } : Jvm.MethodName) jdk_40_method_48_code (1 : Nat) (Option.some (Jvm.ClassFile.FieldType.object "java/util/List")), Jvm.Cond.code ({ cls := "java/util/ImmutableCollections", name := "listCopy", desc := "(Ljava/util/Collection;)Ljava/util/List;" } : Jvm.MethodName) jdk_56_method_3_code (2 : Nat) (Option.some (Jvm.ClassFile.FieldType.object "java/util/List")), Jvm.Cond.code ({ cls := "java/util/ArrayList", name := "isEmpty", desc := "()Z" } : Jvm.MethodName) jdk_38_method_9_code (1 : Nat) (Option.some Jvm.ClassFile.FieldType.boolean), Jvm.Cond.code ({ cls := "java/util/ArrayList", name := "toArray", desc := "()[Ljava/lang/Object;" } : Jvm.MethodName) jdk_38_method_16_code (1 : Nat) (Option.some (Jvm.ClassFile.FieldType.array (Jvm.ClassFile.FieldType.object "java/lang/Object"))), Jvm.Cond.code ({ cls := "java/util/Arrays", name := "copyOf", desc := "([Ljava/lang/Object;I)[Ljava/lang/Object;" } : Jvm.MethodName) jdk_65_method_119_code (2 : Nat) (Option.some (Jvm.ClassFile.FieldType.array (Jvm.ClassFile.FieldType.object "java/lang/Object"))), Jvm.Cond.code ({ cls := "java/util/Arrays", name := "copyOf", desc := "([Ljava/lang/Object;ILjava/lang/Class;)[Ljava/lang/Object;" } : Jvm.MethodName) jdk_65_method_120_code (4 : Nat) (Option.some (Jvm.ClassFile.FieldType.array (Jvm.ClassFile.FieldType.object "java/lang/Object"))), Jvm.Cond.code ({ cls := "java/lang/Math", name := "min", desc := "(II)I" } : Jvm.MethodName) jdk_29_method_69_code (2 : Nat) (Option.some Jvm.ClassFile.FieldType.int), Jvm.Cond.code ({ cls := "java/util/List", name := "of", desc := "([Ljava/lang/Object;)Ljava/util/List;" } : Jvm.MethodName) jdk_40_method_47_code (2 : Nat) (Option.some (Jvm.ClassFile.FieldType.object "java/util/List")), Jvm.Cond.code ({ cls := "java/util/ImmutableCollections$List12", name := "<init>", desc := "(Ljava/lang/Object;)V" } : Jvm.MethodName) jdk_44_method_1_code (2 : Nat) (Option.none : Option Jvm.ClassFile.FieldType), Jvm.Cond.code ({ cls := "java/util/ImmutableCollections$AbstractImmutableList", name := "<init>", desc := "()V" } : Jvm.MethodName) jdk_46_method_1_code (1 : Nat) (Option.none : Option Jvm.ClassFile.FieldType), Jvm.Cond.code ({ cls := "java/util/ImmutableCollections$AbstractImmutableCollection", name := "<init>", desc := "()V" } : Jvm.MethodName) jdk_47_method_1_code (1 : Nat) (Option.none : Option Jvm.ClassFile.FieldType), Jvm.Cond.code ({ cls := "java/util/Objects", name := "requireNonNull", desc := "(Ljava/lang/Object;)Ljava/lang/Object;" } : Jvm.MethodName) jdk_31_method_10_code (1 : Nat) (Option.some (Jvm.ClassFile.FieldType.object "java/lang/Object")), Jvm.Cond.code ({ cls := "java/util/List", name := "of", desc := "()Ljava/util/List;" } : Jvm.MethodName) jdk_40_method_36_code (0 : Nat) (Option.some (Jvm.ClassFile.FieldType.object "java/util/List")), Jvm.Cond.code ({ cls := "com/example/myna/myna/orders/Order", name := "withExternalState", desc := "(Ljava/lang/String;)Lcom/example/myna/myna/orders/Order;" } : Jvm.MethodName) prog_19_method_3_code (2 : Nat) (Option.some (Jvm.ClassFile.FieldType.object "com/example/myna/myna/orders/Order")), Jvm.Cond.code ({ cls := "com/example/myna/myna/orders/Order", name := "lines", desc := "()Ljava/util/List;" } : Jvm.MethodName) prog_19_method_16_code (1 : Nat) (Option.some (Jvm.ClassFile.FieldType.object "java/util/List")), Jvm.Cond.code ({ cls := "com/example/myna/myna/orders/Order", name := "id", desc := "()J" } : Jvm.MethodName) prog_19_method_10_code (1 : Nat) (Option.some Jvm.ClassFile.FieldType.long), Jvm.Cond.code ({ cls := "com/example/myna/myna/orders/Order", name := "channel", desc := "()Ljava/lang/String;" } : Jvm.MethodName) prog_19_method_11_code (1 : Nat) (Option.some (Jvm.ClassFile.FieldType.object "java/lang/String")), Jvm.Cond.code ({ cls := "com/example/myna/myna/orders/OrderWithExternalStatePinLaw", name := "same", desc := "(Ljava/lang/String;Ljava/lang/String;)Z" } : Jvm.MethodName) method_3_code (2 : Nat) (Option.some Jvm.ClassFile.FieldType.boolean), Jvm.Cond.code ({ cls := "java/lang/String", name := "equals", desc := "(Ljava/lang/Object;)Z" } : Jvm.MethodName) jdk_42_method_66_code (3 : Nat) (Option.some Jvm.ClassFile.FieldType.boolean), Jvm.Cond.code ({ cls := "com/example/myna/myna/orders/Order", name := "externalId", desc := "()Ljava/lang/String;" } : Jvm.MethodName) prog_19_method_12_code (1 : Nat) (Option.some (Jvm.ClassFile.FieldType.object "java/lang/String")), Jvm.Cond.code ({ cls := "com/example/myna/myna/orders/Order", name := "state", desc := "()Lcom/example/myna/myna/orders/Order$State;" } : Jvm.MethodName) prog_19_method_13_code (1 : Nat) (Option.some (Jvm.ClassFile.FieldType.object "com/example/myna/myna/orders/Order$State")), Jvm.Cond.code ({ cls := "com/example/myna/myna/orders/Order", name := "externalState", desc := "()Ljava/lang/String;" } : Jvm.MethodName) prog_19_method_14_code (1 : Nat) (Option.some (Jvm.ClassFile.FieldType.object "java/lang/String")), Jvm.Cond.code ({ cls := "com/example/myna/myna/orders/Order", name := "awaitingAcknowledgement", desc := "()Z" } : Jvm.MethodName) prog_19_method_15_code (1 : Nat) (Option.some Jvm.ClassFile.FieldType.boolean), Jvm.Cond.code ({ cls := "java/util/ImmutableCollections$List12", name := "size", desc := "()I" } : Jvm.MethodName) jdk_44_method_3_code (1 : Nat) (Option.some Jvm.ClassFile.FieldType.int), Jvm.Cond.code ({ cls := "java/util/ImmutableCollections$List12", name := "get", desc := "(I)Ljava/lang/Object;" } : Jvm.MethodName) jdk_44_method_5_code (2 : Nat) (Option.some (Jvm.ClassFile.FieldType.object "java/lang/Object")), Jvm.Cond.code ({ cls := "com/example/myna/myna/orders/Order", name := "payments", desc := "()Ljava/util/List;" } : Jvm.MethodName) prog_19_method_17_code (1 : Nat) (Option.some (Jvm.ClassFile.FieldType.object "java/util/List")), Jvm.Cond.code ({ cls := "java/util/ImmutableCollections$ListN", name := "size", desc := "()I" } : Jvm.MethodName) jdk_45_method_3_code (1 : Nat) (Option.some Jvm.ClassFile.FieldType.int)]
set_option maxRecDepth 65536 in
theorem codes_eq : words1.filter isCode = codes1 := rfl
theorem w_codes : ∀ c ∈ words1.filter isCode, c.before args0 about1 = true := by
  rw [codes_eq]
  intro c hc
  simp only [codes1, List.mem_cons, List.not_mem_nil, or_false] at hc
  rcases hc with rfl | rfl | rfl | rfl | rfl | rfl | rfl | rfl | rfl | rfl | rfl | rfl | rfl | rfl | rfl | rfl | rfl | rfl | rfl | rfl | rfl | rfl | rfl | rfl | rfl | rfl | rfl | rfl | rfl | rfl | rfl | rfl | rfl | rfl | rfl | rfl | rfl | rfl | rfl | rfl | rfl | rfl | rfl | rfl | rfl | rfl
  · exact w_c0
  · exact w_c1
  · exact w_c2
  · exact w_c3
  · exact w_c4
  · exact w_c5
  · exact w_c6
  · exact w_c7
  · exact w_c8
  · exact w_c9
  · exact w_c10
  · exact w_c11
  · exact w_c12
  · exact w_c13
  · exact w_c14
  · exact w_c15
  · exact w_c16
  · exact w_c17
  · exact w_c18
  · exact w_c19
  · exact w_c20
  · exact w_c21
  · exact w_c22
  · exact w_c23
  · exact w_c24
  · exact w_c25
  · exact w_c26
  · exact w_c27
  · exact w_c28
  · exact w_c29
  · exact w_c30
  · exact w_c31
  · exact w_c32
  · exact w_c33
  · exact w_c34
  · exact w_c35
  · exact w_c36
  · exact w_c37
  · exact w_c38
  · exact w_c39
  · exact w_c40
  · exact w_c41
  · exact w_c42
  · exact w_c43
  · exact w_c44
  · exact w_c45
set_option maxRecDepth 65536 in
theorem w_t1 : (words1.take 24).all (fun c => isCode c || c.before args0 about1) = true := by decide +kernel
set_option maxRecDepth 65536 in
theorem w_t2 : ((words1.drop 24).take 24).all (fun c => isCode c || c.before args0 about1) = true := by decide +kernel
set_option maxRecDepth 65536 in
theorem w_t3 : (((words1.drop 24).drop 24).take 24).all (fun c => isCode c || c.before args0 about1) = true := by decide +kernel
set_option maxRecDepth 65536 in
theorem w_t4 : ((((words1.drop 24).drop 24).drop 24).take 24).all (fun c => isCode c || c.before args0 about1) = true := by decide +kernel
set_option maxRecDepth 65536 in
theorem w_t5 : (((((words1.drop 24).drop 24).drop 24).drop 24).take 24).all (fun c => isCode c || c.before args0 about1) = true := by decide +kernel
set_option maxRecDepth 65536 in
theorem w_t6 : ((((((words1.drop 24).drop 24).drop 24).drop 24).drop 24).take 24).all (fun c => isCode c || c.before args0 about1) = true := by decide +kernel
set_option maxRecDepth 65536 in
theorem w_t7 : (((((((words1.drop 24).drop 24).drop 24).drop 24).drop 24).drop 24).take 24).all (fun c => isCode c || c.before args0 about1) = true := by decide +kernel
set_option maxRecDepth 65536 in
theorem w_t8 : ((((((((words1.drop 24).drop 24).drop 24).drop 24).drop 24).drop 24).drop 24).take 24).all (fun c => isCode c || c.before args0 about1) = true := by decide +kernel
set_option maxRecDepth 65536 in
theorem w_t9 : (((((((((words1.drop 24).drop 24).drop 24).drop 24).drop 24).drop 24).drop 24).drop 24).take 24).all (fun c => isCode c || c.before args0 about1) = true := by decide +kernel
set_option maxRecDepth 65536 in
theorem w_t10 : ((((((((((words1.drop 24).drop 24).drop 24).drop 24).drop 24).drop 24).drop 24).drop 24).drop 24).take 24).all (fun c => isCode c || c.before args0 about1) = true := by decide +kernel
set_option maxRecDepth 65536 in
theorem w_t11 : (((((((((((words1.drop 24).drop 24).drop 24).drop 24).drop 24).drop 24).drop 24).drop 24).drop 24).drop 24).take 24).all (fun c => isCode c || c.before args0 about1) = true := by decide +kernel
set_option maxRecDepth 65536 in
theorem w_t12 : ((((((((((((words1.drop 24).drop 24).drop 24).drop 24).drop 24).drop 24).drop 24).drop 24).drop 24).drop 24).drop 24).take 24).all (fun c => isCode c || c.before args0 about1) = true := by decide +kernel
set_option maxRecDepth 65536 in
theorem w_t13 : (((((((((((((words1.drop 24).drop 24).drop 24).drop 24).drop 24).drop 24).drop 24).drop 24).drop 24).drop 24).drop 24).drop 24).take 24).all (fun c => isCode c || c.before args0 about1) = true := by decide +kernel
set_option maxRecDepth 65536 in
theorem w_t14 : (((((((((((((words1.drop 24).drop 24).drop 24).drop 24).drop 24).drop 24).drop 24).drop 24).drop 24).drop 24).drop 24).drop 24).drop 24).all (fun c => isCode c || c.before args0 about1) = true := by decide +kernel
theorem w_tables : (allAtoms (Jvm.Cond.code x code maxLocals ret :: tables_1)).before args0 about1 = true := by
  rw [allAtoms_all]
  show words1.all (fun c => c.before args0 about1) = true
  refine all_split ?_ w_codes
  rw [← List.take_append_drop 24 words1, List.all_append, w_t1, ← List.take_append_drop 24 (words1.drop 24), List.all_append, w_t2, ← List.take_append_drop 24 ((words1.drop 24).drop 24), List.all_append, w_t3, ← List.take_append_drop 24 (((words1.drop 24).drop 24).drop 24), List.all_append, w_t4, ← List.take_append_drop 24 ((((words1.drop 24).drop 24).drop 24).drop 24), List.all_append, w_t5, ← List.take_append_drop 24 (((((words1.drop 24).drop 24).drop 24).drop 24).drop 24), List.all_append, w_t6, ← List.take_append_drop 24 ((((((words1.drop 24).drop 24).drop 24).drop 24).drop 24).drop 24), List.all_append, w_t7, ← List.take_append_drop 24 (((((((words1.drop 24).drop 24).drop 24).drop 24).drop 24).drop 24).drop 24), List.all_append, w_t8, ← List.take_append_drop 24 ((((((((words1.drop 24).drop 24).drop 24).drop 24).drop 24).drop 24).drop 24).drop 24), List.all_append, w_t9, ← List.take_append_drop 24 (((((((((words1.drop 24).drop 24).drop 24).drop 24).drop 24).drop 24).drop 24).drop 24).drop 24), List.all_append, w_t10, ← List.take_append_drop 24 ((((((((((words1.drop 24).drop 24).drop 24).drop 24).drop 24).drop 24).drop 24).drop 24).drop 24).drop 24), List.all_append, w_t11, ← List.take_append_drop 24 (((((((((((words1.drop 24).drop 24).drop 24).drop 24).drop 24).drop 24).drop 24).drop 24).drop 24).drop 24).drop 24), List.all_append, w_t12, ← List.take_append_drop 24 ((((((((((((words1.drop 24).drop 24).drop 24).drop 24).drop 24).drop 24).drop 24).drop 24).drop 24).drop 24).drop 24).drop 24), List.all_append, w_t13, w_t14]
  rfl
set_option maxRecDepth 65536 in
theorem w_rest : rest_1_c.before args0 about1 = true := by decide +kernel
set_option maxRecDepth 65536 in
theorem w_case : (Jvm.Cond.and given_1 narrow_1).before args0 about1 = true := by decide +kernel
theorem w_applies : (headSpec (Jvm.Cond.code x code maxLocals ret :: tables_1) room_1).applies x e0.platform about1 = true :=
  (Spec.applies_iff w_frames).mpr ⟨w_running, w_runnable, w_alone, w_named, w_hears, w_ripe, w_room, w_tables⟩
theorem atStart : AtStart classFile x code maxLocals ret World_1 tables_1 room_1 Calls_1 rest_1 Pre_1 launch0 p0 e0 about1 theMethod args0 below0 :=
  ⟨lists_1, trivial, launch0.admits_env _ _ _, launch0.least_env, fairChoices_fair.cas, fairChoices_fair.clock, w_frames, w_args, w_heap, w_applies, ⟨⟨42, k42, 5, by decide +kernel, rfl, rfl, _, rfl, rfl⟩, trivial⟩, w_rest, w_case⟩
end start1
theorem witness_1 : WitnessClaimed_1 := ⟨start1.p0, start1.e0, start1.about1, start1.theMethod, start1.args0, start1.below0, start1.atStart⟩
end Jvm.Pilot.@@N@@

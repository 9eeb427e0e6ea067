import JvmDerived
import JvmDerived.Pilot.@@N@@Statement
import JvmDerived.Pilot.@@N@@Code
set_option linter.unusedVariables false
set_option linter.unusedSimpArgs false
@@BLOCK:NumsL.lean.txt@@
@@BLOCK:SetKit.lean.txt@@
namespace Jvm.RoadKit
open Sem ClassFile Op Lib Jvm.Stand Jvm.Free Jvm.LawKit
section New
variable {p : Program} {l : Launch} {e : Env} {R : Room} {s : State} {m : MethodId} {args : Array Value} {below : List Frame} {meth : Method} {c : Code} {T : State} {locs : List Loc} {cells slots : Nat}
theorem retI (X : Stand p l e R s m args below meth c T locs cells slots) (hx : p.tables.exec = Jvm.exec) {pc : Nat} {Ls : Array Slot} {z : Int32} {rest : List Value} (hret : meth.sig.returnType = some .int) (hd : decode c.code pc = .ok (.ireturn, 1)) {fs : List Frame}
    (hl : ∀ (f : JFrame) (acts : List Action), f.method = m → f.locked = none → f.entered = [] → (doReturn e (T.setTop f) acts (some (.int z))).1 = T.setFrames fs) : Steps p.tables e below (T.setTop (mkF m pc Ls (.int z :: rest))) (T.setFrames fs) := by
  have hm' : T.vm.method? m = some meth := X.method'
  have hn : narrow .int (.int z) = .int z := rfl
  show Steps p.tables e below (T.setTop { method := m, pc := pc, locals := Ls, stack := _ :: rest, locked := none }) _
  jvm_step X.here [X.here.top, hx, hd, hm', hret, hn]
  first | (intro acts; rw [hl _ acts rfl rfl rfl]) | rw [hl _ _ rfl rfl rfl]
  exact Steps.refl _
end New
end Jvm.RoadKit
namespace Jvm.Pilot.@@N@@
open Jvm Jvm.ClassFile Sem Op Lib Jvm.Free Jvm.Stand Jvm.LawKit Jvm.RoadKit Bundle Jvm.Pilot.@@N@@.Jvm.D
/-- every run from the state T with the frame f on top is a run from s0 with f0 -/
def GoTo (tb : Tables) (e : Env) (below : List Frame) (s0 : State) (f0 : JFrame) (T : State) (f : JFrame) : Prop := ∀ t, Steps tb e below (T.setTop f) t → Steps tb e below (s0.setTop f0) t
theorem own_cI (x : Int32) : (Value.int x).category = 1 := rfl
theorem own_cJ (x : Int64) : (Value.long x).category = 2 := rfl
theorem own_cR (x : Addr) : (Value.ref x).category = 1 := rfl
theorem own_cN : Value.null.category = 1 := rfl
theorem own_zlt {Z : State} {n0 : Nat} {h : Heap} {a : Addr} (O : Old Z n0 h) (q : a < Z.heap.size) : a < n0 := O.1 ▸ q
theorem own_selfSel {s : State} {args : Array Value} {C : String} {y : MethodName} (hsel : (Cond.selects C y y).before args s = true) (hpriv : s.PrivateAt y) (hinst : (Cond.instanceMethod y).before args s = true) (hy : y.cls ≠ "java/lang/invoke/MethodHandle" ∧ y.cls ≠ "java/lang/invoke/VarHandle") : (Cond.selects y.cls y y).before args s = true := by
  obtain ⟨c2, r2, m2, -, -, q3, -, kP, hkP, hkPi⟩ := Cond.selects_spec hsel
  exact selects_self_of_private (findClass_of_methodNamed q3) hkP hkPi hpriv hinst hy
theorem own_sameSelf {s : State} {args : Array Value} {C : String} {y z : MethodName} (hsel : (Cond.selects C z z).before args s = true) (hzy : z.cls = y.cls) (hinst : (Cond.instanceMethod y).before args s = true) (hy : y.cls ≠ "java/lang/invoke/MethodHandle" ∧ y.cls ≠ "java/lang/invoke/VarHandle") : (Cond.sameMethod y.cls y.cls y.name y.desc).before args s = true := by
  obtain ⟨c2, r2, m2, -, -, q3, -, kP, hkP, hkPi⟩ := Cond.selects_spec hsel
  obtain ⟨mk, methM, hnamed, hmethM, -, -⟩ := Cond.instanceMethod_spec hinst
  have h1 := findClass_of_methodNamed q3
  have h2 := findClass_of_methodNamed hnamed
  rw [hzy] at h1
  have hcls : mk.cls = m2.cls := Option.some.inj (h2.symm.trans h1)
  have hf := State.methodFound?_of_named hnamed hy
  obtain ⟨yc, yn, yd⟩ := y
  dsimp only at h1 h2 hf ⊢
  simp only [Cond.before, Cond.holds, Cond.value, h2, hf, hnamed, hcls, hkP]
  simp [hkPi]
theorem own_notFace {s : State} {args : Array Value} {C : String} {x y z : MethodName} (hsel : (Cond.selects C x z).before args s = true) (hzy : z.cls = y.cls) : NotFace s y := fun r0 h0 => by
  obtain ⟨c2, r2, m2, -, -, q3, -, kP, hkP, hkPi⟩ := Cond.selects_spec hsel
  have h1 := findClass_of_methodNamed q3
  rw [hzy] at h1
  have h2 := findClass_of_methodNamed h0
  have e : m2.cls = r0.cls := Option.some.inj (h1.symm.trans h2)
  exact ⟨kP, e ▸ hkP, hkPi⟩
theorem own_le {Z : State} {n0 : Nat} {h : Heap} (O : Old Z n0 h) : n0 ≤ h.size := O.1 ▸ O.2.1
theorem own_mono {p : Program} {l : Launch} {e : Env} {R : Room} {s : State} {m : MethodId} {args : Array Value} {below : List Frame} {meth : Method} {c : Code} {T : State} {locs : List Loc} {cells slots cells' slots' : Nat} (X : Stand p l e R s m args below meth c T locs cells slots) (h1 : cells ≤ cells') (h2 : slots ≤ slots') : Stand p l e R s m args below meth c T locs cells' slots' := { X with same := X.same.mono h1 h2 }
theorem own_NSroot {Z : State} {a0 : Array Value} {O K : String} {n : Nat} (w : (Jvm.Cond.noSuperclass O).before a0 Z = true) (wk : (Jvm.Cond.instantiable K n).before a0 Z = true) (hn : O ≠ K) : NS Z O K := by
  obtain ⟨c, k, h1, h2, h3, -, -⟩ := Cond.noSuperclass_spec w
  obtain ⟨t, k2, g1, -⟩ := Cond.instantiable_spec wk
  have ne := ids_ne h1 g1 hn
  refine ⟨c, t, h1, g1, fun fuel => ?_⟩
  cases fuel with
  | zero => rfl
  | succ f => simp [Vm.isSubclassAux, ne, h2, h3]
theorem own_NSno {Z : State} {a0 : Array Value} {C S K : String} {n : Nat} (w : (Jvm.Cond.superclass C S).before a0 Z = true) (wk : (Jvm.Cond.instantiable K n).before a0 Z = true) (nn : NS Z C K) (hn : C ≠ K) : ∃ c t, Z.vm.findClass C = some c ∧ Z.vm.findClass K = some t ∧ Z.vm.assignable c t = false := by
  obtain ⟨c, t, h0, g0, n3⟩ := nn
  obtain ⟨p, k, kp, h1, h2, h3, h4, h5, -, h7⟩ := Cond.superclass_spec h0 w
  obtain ⟨t', k', g1, g2, g5, g7, -⟩ := Cond.instantiable_spec wk
  cases g0.symm.trans g1
  have ne := ids_ne h0 g0 hn
  refine ⟨c, t, h0, g0, ?_⟩
  show Z.vm.assignableAux (255 + 1) c t = false
  have g8 : k'.isInterface = false := (Bool.or_eq_false_iff.mp g7).1
  simp [Vm.assignableAux, ne, h2, g2, h5, g5, g8, Vm.isSubclass, n3]
def own_Mir (Z : State) (C : String) (m : Addr) : Prop := ∃ (c : ClassId) (k : Class), Z.vm.findClass C = some c ∧ Z.vm.classes[c]? = some k ∧ k.mirror = some m
theorem own_mir {Z s : State} {C : String} {mr : Addr} {args : Array Value} (hZ : Z.Warmed39 s.vm) (M : own_Mir Z C mr) : (Term.mirror C).eval args s none [] s = some (.ref mr) := by
  obtain ⟨c, k, m1, m2, m3⟩ := M
  obtain ⟨k', q, ek⟩ := hZ.alike.2.2 _ _ m2
  have h1 : s.vm.findClass C = some c := by rw [hZ.alike.findClass]; exact m1
  have h2 : k'.mirror = some mr := by rw [ek]; exact m3
  simp [Term.eval, h1, q, h2]
theorem own_gcls {p : Program} {l : Launch} {e : Env} {R : Room} {s : State} {m : MethodId} {args : Array Value} {below : List Frame} {meth : Method} {c : Code} {T : State} {locs : List Loc} {cells slots : Nat} {Z : State} {h : Heap} {a : Addr} (X : Stand p l e R s m args below meth c T locs cells slots) (hx : p.tables.exec = Jvm.exec) (hZ : Z.Warmed39 s.vm) {a0 : Array Value} {own C : String} {index : Nat} (hown : s.vm.findClass own = some m.cls)
    (w1 : (Jvm.Cond.methodLink own index ⟨"java/lang/Object", "getClass", "()Ljava/lang/Class;"⟩).before a0 Z = true) (w2 : (Jvm.Cond.declares ⟨"java/lang/Object", "getClass", "()Ljava/lang/Class;"⟩).before a0 Z = true) (w3 : (Jvm.Cond.noSuperclass "java/lang/Object").before a0 Z = true) (w4 : (Jvm.Cond.selects C ⟨"java/lang/Object", "getClass", "()Ljava/lang/Class;"⟩ ⟨"java/lang/Object", "getClass", "()Ljava/lang/Class;"⟩).before a0 Z = true)
    (w5 : (Jvm.Cond.instanceMethod ⟨"java/lang/Object", "getClass", "()Ljava/lang/Class;"⟩).before a0 Z = true) (w6 : (Jvm.Cond.native ⟨"java/lang/Object", "getClass", "()Ljava/lang/Class;"⟩).before a0 Z = true) (eT : T.heap = h) (E : Exa Z h a C) {mr : Addr} (M : own_Mir Z C mr)
    {g : JFrame} (hg : g.method = m) (hsize : g.locals.size = c.maxLocals) {rest : List Value} (hs : g.stack = .ref a :: rest) (hd : decode c.code g.pc = .ok (.invokevirtual index, 3)) (hf : 1 ≤ R.frames) {W : Nat} (hW : 2 * g.monitorRoom + (rest.map fun v => v.category).sum ≤ W) (hl : W + (nativeFrameWords "java/lang/Object" "getClass" 1 + 11) ≤ R.locals) :
    ∃ T', Stand p l e R s m args below meth c T' locs cells slots ∧ T'.heap = h ∧ ∀ target, Steps p.tables e below (T'.setTop { g with pc := g.pc + 3, stack := .ref mr :: rest }) target → Steps p.tables e below (T.setTop g) target := by
  obtain ⟨cB, kB, i1, i2, i3⟩ := isOf hZ eT E
  obtain ⟨cc, kc, m1, m2, m3⟩ := M
  have j1 : s.vm.findClass C = some cc := by rw [hZ.alike.findClass]; exact m1
  obtain rfl : cc = cB := Option.some.inj (j1.symm.trans i1)
  obtain ⟨k', q, ek⟩ := hZ.alike.2.2 _ _ m2
  obtain ⟨vm', X', st⟩ := X.getClassOf hx hown (mvT hZ w1) (mvT hZ w2) (nf_top (args := #[]) (mvT hZ w3)) (mvT hZ w4) (mvT hZ w5) (mvT hZ w6) j1 i3 q (by rw [ek]; exact m3) hg hsize hs hd hf (by omega)
  exact ⟨_, X', eT, st⟩
theorem own_cat {v : Value} (h : v.isRef = true) : v.category = 1 := by cases v <;> simp_all [Value.isRef, Value.category]
theorem own_fits_ref {ty : FieldType} {v : Value} (ht : refKind ty = true) (h : v.isRef = true) : fits ty v = true := by cases ty <;> cases v <;> simp_all [refKind, fits, Value.isRef]
theorem own_all0 : ∀ c ∈ ([] : List Int32), ¬ c < 0 ∧ ¬ (255 : Int32) < c := fun _ q => nomatch q
theorem own_allC {a : Int32} {L : List Int32} (h : ¬ a < 0 ∧ ¬ (255 : Int32) < a) (r : ∀ c ∈ L, ¬ c < 0 ∧ ¬ (255 : Int32) < c) : ∀ c ∈ a :: L, ¬ c < 0 ∧ ¬ (255 : Int32) < c := fun x z => (List.mem_cons.mp z).elim (fun u => u ▸ h) (r x)
theorem own_up {cs : List Int32} (h : ∀ c ∈ cs, ¬ c < 0 ∧ ¬ (255 : Int32) < c) : ∀ c ∈ cs, ¬ c < 0 ∧ ¬ (65535 : Int32) < c := fun c hc => ⟨(h c hc).1, fun q => (h c hc).2 (by rw [Int32.lt_iff_toInt_lt] at q ⊢; have e1 : (65535 : Int32).toInt = 65535 := rfl; have e2 : (255 : Int32).toInt = 255 := rfl; omega)⟩
theorem own_chr (x : Int32) {z : Int32} (h : z = ((x &&& (255 : Int32)).toUInt32.toUInt16.toUInt32.toInt32)) : (¬ z < 0 ∧ ¬ (255 : Int32) < z) ∧ nar .char z = z := by
  subst h
  rw [i2c_mask]
  have h1 : (x &&& (255 : Int32)).toInt = x.toInt % 2 ^ 8 := Jvm.Kit.i32_mask x 255 (k := 8) (by decide) (by decide)
  have e0 : (0 : Int32).toInt = 0 := by decide
  have e1 : (255 : Int32).toInt = 255 := by decide
  refine ⟨⟨?_, ?_⟩, i2c_mask x⟩ <;> rw [Int32.lt_iff_toInt_lt] <;> omega
theorem own_eqv {v : Option Value} {cs ds : List Int32} (h : (v = some (.int 1) ∧ cs = ds) ∨ (v = some (.int 0) ∧ ¬ cs = ds)) : v = some (.int (if cs = ds then (1 : Int32) else 0)) := by
  rcases h with ⟨rfl, h⟩ | ⟨rfl, h⟩
  · rw [if_pos h]
  · rw [if_neg h]
section OwnStr
variable {Z : State} {h h' : Heap} {x t a : Addr} {kb : ClassId} {cs : List Int32} {sl : Nat} {v : Value} {ws : List Addr}
/-- the String at x, her byte[] at t, spells cs -/
def own_Str (Z : State) (h : Heap) (x t : Addr) (kb : ClassId) (cs : List Int32) : Prop :=
  Exa Z h x "java/lang/String" ∧ Fld Z h x "java/lang/String" "value" "[B" (.ref t) ∧ Fld Z h x "java/lang/String" "coder" "B" (.int 0) ∧ Arv Z h t kb .byte (Int32.ofNat cs.length) ((cs.map fun c => c.toInt8.toInt32).map Value.int) (.int 0) ∧ (∀ c ∈ cs, ¬ c < 0 ∧ ¬ (255 : Int32) < c) ∧ cs.length ≤ 4000
theorem own_Str.ext (F : own_Str Z h x t kb cs) (E : Ext h h') : own_Str Z h' x t kb cs := ⟨F.1.ext E, F.2.1.ext E, F.2.2.1.ext E, F.2.2.2.1.ext E, F.2.2.2.2⟩
theorem own_Str.keep (F : own_Str Z h x t kb cs) (K : Keep h h' ws) (q : x ∉ ws) (r : t ∉ ws) : own_Str Z h' x t kb cs := ⟨F.1.keep K, F.2.1.keep K q, F.2.2.1.keep K q, F.2.2.2.1.keep K r, F.2.2.2.2⟩
theorem own_Str.other (F : own_Str Z h x t kb cs) (W : Wr h h' a sl v) (q : x ≠ a) (r : t ≠ a) : own_Str Z h' x t kb cs := ⟨F.1.wr W, F.2.1.other W (Or.inl q), F.2.2.1.other W (Or.inl q), F.2.2.2.1.other W r, F.2.2.2.2⟩
/-- null, or a String -/
def own_NS (Z : State) (h : Heap) (v : Value) : Prop := v = .null ∨ ∃ a, v = .ref a ∧ Exa Z h a "java/lang/String"
theorem own_NS.ref (F : own_NS Z h v) : v.isRef = true := by rcases F with rfl | ⟨a, rfl, -⟩ <;> rfl
theorem own_NS.ext (F : own_NS Z h v) (E : Ext h h') : own_NS Z h' v := F.imp id fun ⟨a, e, X⟩ => ⟨a, e, X.ext E⟩
theorem own_NS.wr {w : Value} (F : own_NS Z h v) (W : Wr h h' a sl w) : own_NS Z h' v := F.imp id fun ⟨a, e, X⟩ => ⟨a, e, X.wr W⟩
theorem own_NS.keep (F : own_NS Z h v) (K : Keep h h' ws) : own_NS Z h' v := F.imp id fun ⟨a, e, X⟩ => ⟨a, e, X.keep K⟩
end OwnStr
theorem own_nat {n : Nat} (h : n ≤ 1000000) : (Int32.ofNat n).toInt = n := Int32.toInt_ofNat_small (by omega)
theorem own_ofint {x : Int32} {n : Nat} (hn : n ≤ 1000000) (h : x.toInt = n) : x = Int32.ofNat n := Int32.toInt_inj.mp (by rw [h, own_nat hn])
theorem own_addN {a b : Nat} : Int32.ofNat a + Int32.ofNat b = Int32.ofNat (a + b) := (Int32.ofNat_add a b).symm
theorem own_subN {a b : Nat} (h : b ≤ a) : Int32.ofNat a - Int32.ofNat b = Int32.ofNat (a - b) := (Int32.ofNat_sub a b h).symm
theorem own_ltN {a b : Nat} (ha : a ≤ 1000000) (hb : b ≤ 1000000) : Int32.ofNat a < Int32.ofNat b ↔ a < b := by rw [Int32.lt_iff_toInt_lt, own_nat ha, own_nat hb]; omega
theorem own_eqN {a b : Nat} (ha : a ≤ 1000000) (hb : b ≤ 1000000) : Int32.ofNat a = Int32.ofNat b ↔ a = b := ⟨fun h => by have := congrArg Int32.toInt h; rw [own_nat ha, own_nat hb] at this; omega, fun h => by rw [h]⟩
theorem own_posN {a b : Nat} (ha : a ≤ 1000000) (hb : b ≤ 1000000) : (0 : Int32) < Int32.ofNat a - Int32.ofNat b ↔ b < a := by
  rw [Int32.lt_iff_toInt_lt, Int32.toInt_sub, own_nat ha, own_nat hb, Int.bmod_eq_of_le (by omega) (by omega), show (0 : Int32).toInt = 0 from rfl]; omega
theorem own_negN {a : Nat} (ha : a ≤ 1000000) : ¬ Int32.ofNat a < 0 := by rw [Int32.lt_iff_toInt_lt, own_nat ha, show (0 : Int32).toInt = 0 from rfl]; omega
theorem own_clamp {a : Nat} (ha : a ≤ 1000000) : (Int32.ofNat a).toNatClampNeg = a := by
  have h := own_nat ha
  unfold Int32.toNatClampNeg; rw [h]; rfl
theorem own_shr0 (x : Int32) : (x >>> ((0 : Int32) &&& 31)) = x := by
  apply Int32.toBitVec_inj.mp
  simp
theorem own_shl0 (x : Int32) : (x <<< ((0 : Int32) &&& 31)) = x := by
  apply Int32.toBitVec_inj.mp
  simp
theorem own_maxT {x y : Nat} (h : x < y) : some (Value.int (Int32.ofNat y)) = some (.int (Int32.ofNat (max x y))) := by rw [Nat.max_eq_right (Nat.le_of_lt h)]
theorem own_maxF {x y : Nat} (h : ¬ x < y) : some (Value.int (Int32.ofNat x)) = some (.int (Int32.ofNat (max x y))) := by rw [Nat.max_eq_left (Nat.le_of_not_lt h)]
theorem own_minT {x y : Nat} (h : y < x) : some (Value.int (Int32.ofNat y)) = some (.int (Int32.ofNat (min x y))) := by rw [Nat.min_eq_right (Nat.le_of_lt h)]
theorem own_minF {x y : Nat} (h : ¬ y < x) : some (Value.int (Int32.ofNat x)) = some (.int (Int32.ofNat (min x y))) := by rw [Nat.min_eq_left (Nat.le_of_not_lt h)]
section OwnSB
variable {Z : State} {h h' : Heap} {b d a : Addr} {kd : ClassId} {N M : Nat} {cs ds : List Int32} {sl : Nat} {v : Value} {ws : List Addr}
/-- the byte[] at d, of N places, begins with the bytes of cs -/
def own_By (Z : State) (h : Heap) (d : Addr) (kd : ClassId) (N : Nat) (cs : List Int32) : Prop :=
  Exa Z h d "[B" ∧ cs.length ≤ N ∧ N ≤ 1000000 ∧ ∃ vs : List Value, vs.length = N ∧ Arv Z h d kd .byte (Int32.ofNat N) vs (.int 0) ∧ ∀ i, i < cs.length → vs.getD i (.int 0) = .int ((cs.getD i 0).toInt8.toInt32)
theorem own_By.ext (F : own_By Z h d kd N cs) (E : Ext h h') : own_By Z h' d kd N cs := by obtain ⟨h1, h2, h3, vs, h4, h5, h6⟩ := F; exact ⟨h1.ext E, h2, h3, vs, h4, h5.ext E, h6⟩
theorem own_By.keep (F : own_By Z h d kd N cs) (K : Keep h h' ws) (q : d ∉ ws) : own_By Z h' d kd N cs := by obtain ⟨h1, h2, h3, vs, h4, h5, h6⟩ := F; exact ⟨h1.keep K, h2, h3, vs, h4, h5.keep K q, h6⟩
theorem own_By.other (F : own_By Z h d kd N cs) (W : Wr h h' a sl v) (q : d ≠ a) : own_By Z h' d kd N cs := by obtain ⟨h1, h2, h3, vs, h4, h5, h6⟩ := F; exact ⟨h1.wr W, h2, h3, vs, h4, h5.other W q, h6⟩
theorem own_By.lt (F : own_By Z h d kd N cs) : d < h.size := F.1.lt
theorem own_By.arv (F : own_By Z h d kd N cs) : ∃ vs : List Value, vs.length = N ∧ Arv Z h d kd .byte (Int32.ofNat N) vs (.int 0) ∧ ∀ i, i < cs.length → vs.getD i (.int 0) = .int ((cs.getD i 0).toInt8.toInt32) := F.2.2.2
/-- the StringBuilder at b, her byte[] at d of N places, holds cs -/
def own_SB (Z : State) (h : Heap) (b d : Addr) (kd : ClassId) (N : Nat) (cs : List Int32) : Prop :=
  Exa Z h b "java/lang/StringBuilder" ∧ Fld Z h b "java/lang/AbstractStringBuilder" "value" "[B" (.ref d) ∧ Fld Z h b "java/lang/AbstractStringBuilder" "coder" "B" (.int 0) ∧ Fld Z h b "java/lang/AbstractStringBuilder" "count" "I" (.int (Int32.ofNat cs.length)) ∧ own_By Z h d kd N cs ∧ (∀ c ∈ cs, ¬ c < 0 ∧ ¬ (255 : Int32) < c)
theorem own_SB.ext (F : own_SB Z h b d kd N cs) (E : Ext h h') : own_SB Z h' b d kd N cs := ⟨F.1.ext E, F.2.1.ext E, F.2.2.1.ext E, F.2.2.2.1.ext E, F.2.2.2.2.1.ext E, F.2.2.2.2.2⟩
theorem own_SB.keep (F : own_SB Z h b d kd N cs) (K : Keep h h' ws) (q : b ∉ ws) (r : d ∉ ws) : own_SB Z h' b d kd N cs := ⟨F.1.keep K, F.2.1.keep K q, F.2.2.1.keep K q, F.2.2.2.1.keep K q, F.2.2.2.2.1.keep K r, F.2.2.2.2.2⟩
theorem own_SB.other (F : own_SB Z h b d kd N cs) (W : Wr h h' a sl v) (q : b ≠ a) (r : d ≠ a) : own_SB Z h' b d kd N cs := ⟨F.1.wr W, F.2.1.other W (Or.inl q), F.2.2.1.other W (Or.inl q), F.2.2.2.1.other W (Or.inl q), F.2.2.2.2.1.other W r, F.2.2.2.2.2⟩
theorem own_SB.by_ (F : own_SB Z h b d kd N cs) : own_By Z h d kd N cs := F.2.2.2.2.1
theorem own_orle {d d' B n : Nat} (q : d' = d ∨ n ≤ d') (h1 : B ≤ d) (h2 : B ≤ n) : B ≤ d' := by rcases q with rfl | q; exact h1; exact Nat.le_trans h2 q
theorem own_orne {d d' x n : Nat} (q : d' = d ∨ n ≤ d') (h1 : x ≠ d) (h2 : x < n) : x ≠ d' := by rcases q with rfl | q; exact h1; omega
theorem own_getD_rep (n i : Nat) : (List.replicate n (Value.int 0)).getD i (.int 0) = .int 0 := by
  rw [List.getD_eq_getElem?_getD, List.getElem?_replicate]; split <;> rfl
/-- a new byte[] -/
theorem own_By.new (E : Exa Z h d "[B") (hN : N ≤ 1000000) (V : Arv Z h d kd .byte (Int32.ofNat N) [] (.int 0)) : own_By Z h d kd N [] :=
  ⟨E, Nat.zero_le _, hN, List.replicate N (.int 0), by simp, V.pad (fun i => by rw [own_getD_rep]; simp), fun i hi => absurd hi (by simp)⟩
/-- the first n places of vs laid at place p of vd -/
theorem own_lay_getD {vd us : List Value} {p i : Nat} (hp : p + us.length ≤ vd.length) : (vd.take p ++ us ++ vd.drop (p + us.length)).getD i (.int 0) = if i < p then vd.getD i (.int 0) else if i < p + us.length then us.getD (i - p) (.int 0) else vd.getD i (.int 0) := by
  have ht : (vd.take p).length = p := by rw [List.length_take]; omega
  simp only [List.getD_eq_getElem?_getD]
  by_cases h1 : i < p
  · rw [if_pos h1, List.append_assoc, List.getElem?_append_left (by omega), List.getElem?_take_of_lt h1]
  · rw [if_neg h1]
    by_cases h2 : i < p + us.length
    · rw [if_pos h2, List.getElem?_append_left (by rw [List.length_append]; omega), List.getElem?_append_right (by omega), ht]
    · rw [if_neg h2, List.getElem?_append_right (by rw [List.length_append]; omega), List.length_append, ht, List.getElem?_drop]
      congr 2; omega
theorem own_us_getD {vs us : List Value} {k n i : Nat} (hus : us = (List.range n).map fun i => vs.getD (k + i) (.int 0)) (hi : i < n) : us.getD i (.int 0) = vs.getD (k + i) (.int 0) := by
  subst hus
  simp [List.getD_eq_getElem?_getD, hi]
/-- a copy of the first n places into a new array of M places -/
theorem own_By.cp {us vs : List Value} {n : Nat} (E : Exa Z h d "[B") (hM : M ≤ 1000000) (hn : cs.length ≤ n) (hnM : n ≤ M) (hus : us = (List.range n).map fun i => vs.getD (0 + i) (.int 0)) (hc : ∀ i, i < cs.length → vs.getD i (.int 0) = .int ((cs.getD i 0).toInt8.toInt32))
    (V : Arv Z h d kd .byte (Int32.ofNat M) ((List.replicate M (Value.int 0)).take 0 ++ us ++ (List.replicate M (Value.int 0)).drop (0 + n)) (.int 0)) : own_By Z h d kd M cs := by
  have hl : us.length = n := by rw [hus]; simp
  refine ⟨E, Nat.le_trans hn hnM, hM, _, ?_, V, fun i hi => ?_⟩
  · simp [hl]; omega
  · have := own_lay_getD (vd := List.replicate M (Value.int 0)) (us := us) (p := 0) (i := i) (by simp [hl]; omega)
    rw [hl] at this
    rw [this, if_neg (by omega), if_pos (by omega), Nat.sub_zero, own_us_getD hus (by omega), Nat.zero_add]
    exact hc i hi
/-- the bytes of ds laid behind cs -/
theorem own_By.app {us vs ws' : List Value} {n : Nat} (E : Exa Z h d "[B") (hN : N ≤ 1000000) (hl : vs.length = N) (hn : cs.length + n ≤ N) (hd : ds.length = n) (hus : us = (List.range n).map fun i => ws'.getD (0 + i) (.int 0))
    (hc : ∀ i, i < cs.length → vs.getD i (.int 0) = .int ((cs.getD i 0).toInt8.toInt32)) (hw : ∀ i, i < ds.length → ws'.getD i (.int 0) = .int ((ds.getD i 0).toInt8.toInt32))
    (V : Arv Z h d kd .byte (Int32.ofNat N) (vs.take cs.length ++ us ++ vs.drop (cs.length + n)) (.int 0)) : own_By Z h d kd N (cs ++ ds) := by
  have hul : us.length = n := by rw [hus]; simp
  refine ⟨E, by rw [List.length_append]; omega, hN, _, ?_, V, fun i hi => ?_⟩
  · simp [hul, hl]; omega
  · rw [List.length_append] at hi
    have := own_lay_getD (vd := vs) (us := us) (p := cs.length) (i := i) (by omega)
    rw [hul] at this
    rw [this]
    by_cases h1 : i < cs.length
    · rw [if_pos h1, hc i h1]; simp [List.getD_eq_getElem?_getD, List.getElem?_append_left h1]
    · rw [if_neg h1, if_pos (by omega), own_us_getD hus (by omega), Nat.zero_add, hw _ (by omega)]
      simp [List.getD_eq_getElem?_getD, List.getElem?_append_right (Nat.le_of_not_lt h1)]
/-- a String's bytes -/
theorem own_map_getD (ds : List Int32) (i : Nat) (hi : i < ds.length) : ((ds.map fun c => c.toInt8.toInt32).map Value.int).getD i (.int 0) = .int ((ds.getD i 0).toInt8.toInt32) := by
  simp [List.getD_eq_getElem?_getD, hi]
theorem own_rngApp (h1 : ∀ c ∈ cs, ¬ c < 0 ∧ ¬ (255 : Int32) < c) (h2 : ∀ c ∈ ds, ¬ c < 0 ∧ ¬ (255 : Int32) < c) : ∀ c ∈ cs ++ ds, ¬ c < 0 ∧ ¬ (255 : Int32) < c := fun c hc => (List.mem_append.mp hc).elim (h1 c) (h2 c)
/-- the decimal digits of n, the highest first -/
def own_dec (n : Nat) : List Int32 := (List.range (Jvm.Free.SBG.digits n)).map fun t => Int32.ofNat (48 + n / 10 ^ (Jvm.Free.SBG.digits n - 1 - t) % 10)
theorem own_dec_len (n : Nat) : (own_dec n).length = Jvm.Free.SBG.digits n := by simp [own_dec]
theorem own_dec_rng (n : Nat) : ∀ c ∈ own_dec n, ¬ c < 0 ∧ ¬ (255 : Int32) < c := fun c hc => by
  obtain ⟨t, -, rfl⟩ := List.mem_map.mp hc
  have h1 : 48 + n / 10 ^ (Jvm.Free.SBG.digits n - 1 - t) % 10 ≤ 1000000 := by omega
  rw [Int32.lt_iff_toInt_lt, Int32.lt_iff_toInt_lt, own_nat h1, show (0 : Int32).toInt = 0 from rfl, show (255 : Int32).toInt = 255 from by decide]
  omega
theorem own_dec_at (n t : Nat) (ht : t < Jvm.Free.SBG.digits n) : (own_dec n).getD t 0 = Int32.ofNat (48 + n / 10 ^ (Jvm.Free.SBG.digits n - 1 - t) % 10) := by
  simp [own_dec, List.getD_eq_getElem?_getD, ht]
theorem own_gc {cl : Cell} (F : own_By Z h d kd N cs) (hcl : h[d]? = some cl) {v : Int32} {nn : Nat} {ist d1 d2 : Addr} {cD1 cD2 : Cell} (hO : Jvm.Free.SBG.Ones cD1) (hT : Jvm.Free.SBG.Tens cD2) (hv : ¬ v < 0) (hn : nn ≤ 2 ^ 31) (hN : cs.length + Jvm.Free.SBG.digits nn ≤ N)
    (h1 : h'[d]? = some (Jvm.Free.SBG.GetChars.outCell ⟨v, nn, cs.length + Jvm.Free.SBG.digits nn, d, cl, ist, d1, cD1, d2, cD2⟩)) (h2 : h'.size = h.size) (h3 : ∀ (y : Addr) (cy : Cell), y ≠ d → h[y]? = some cy → h'[y]? = some cy) : Keep h h' [d] ∧ own_By Z h' d kd N (cs ++ own_dec nn) := by
  obtain ⟨E, hl, hN6, vs, hvl, ⟨c2, Ar, q1, S, q3, Hh, G⟩, hc⟩ := F
  obtain rfl : cl = c2 := Option.some.inj (hcl.symm.trans Ar.1)
  rw [own_clamp hN6] at S
  have sg : Jvm.Free.SBG.GetChars.sgn v = 0 := if_neg hv
  have hby : ∀ i, i < cl.slots.size → fits .byte (cl.slots.getD i .null) = true := fun i hi => by
    have e1 := Hh i hi; have e2 := G i hi
    rw [Array.getD_eq_getD_getElem?, e1]; exact e2
  obtain ⟨o1, o2, o3, o4, -⟩ := Jvm.Free.SBG.GetChars.outCell_facts ⟨v, nn, cs.length + Jvm.Free.SBG.digits nn, d, cl, ist, d1, cD1, d2, cD2⟩ hn (by show Jvm.Free.SBG.digits nn + Jvm.Free.SBG.GetChars.sgn v ≤ _; rw [sg]; exact Nat.le_add_left _ _) hby
  obtain ⟨-, fD, fB⟩ := Jvm.Free.SBG.outCell_fwd ⟨v, nn, cs.length + Jvm.Free.SBG.digits nn, d, cl, ist, d1, cD1, d2, cD2⟩ hO hT hn (n0 := cs.length) (by show _ = cs.length + (Jvm.Free.SBG.digits nn + Jvm.Free.SBG.GetChars.sgn v); rw [sg]; rfl) (by show cs.length + _ ≤ cl.slots.size; omega)
  generalize Jvm.Free.SBG.GetChars.outCell ⟨v, nn, cs.length + Jvm.Free.SBG.digits nn, d, cl, ist, d1, cD1, d2, cD2⟩ = oc at *
  have o1 : oc.cls = cl.cls := o1
  have o2 : oc.vm = cl.vm := o2
  have o3 : oc.slots.size = cl.slots.size := o3
  have fD : ∀ t, t < Jvm.Free.SBG.digits nn → oc.slots[cs.length + t]? = some (.int (Int32.ofNat (48 + nn / 10 ^ (Jvm.Free.SBG.digits nn - 1 - t) % 10))) := fun t ht => by
    have := fD t ht
    rw [show Jvm.Free.SBG.GetChars.sgn _ = 0 from sg, Nat.add_zero] at this; exact this
  have fB : ∀ j, j < cs.length → oc.slots[j]? = cl.slots[j]? := fB
  have hK : Keep h h' [d] := ⟨Nat.le_of_eq h2.symm, fun x c q r => h3 x c (fun e => r (by rw [e]; exact List.mem_cons_self ..)) q, fun x c q => by
    by_cases e : x = d
    · subst e
      obtain rfl : cl = c := Option.some.inj (hcl.symm.trans q)
      exact ⟨oc, h1, o1, o2, o3⟩
    · exact ⟨c, h3 x c e q, rfl, rfl, rfl⟩⟩
  have hA : Arr Z h' d oc .byte := ⟨h1, by
    obtain ⟨a1, kA, a2, comp, a3⟩ := Ar.2.1
    exact ⟨by rw [o2]; exact a1, kA, by rw [o1]; exact a2, comp, a3⟩, by rw [o2]; exact Ar.2.2⟩
  have hget : ∀ i, i < oc.slots.size → oc.slots[i]? = some (oc.slots.toList.getD i (.int 0)) := fun i hi => by
    rw [List.getD_eq_getElem?_getD, Array.getElem?_toList, Array.getElem?_eq_getElem hi]; rfl
  refine ⟨hK, E.keep hK, by rw [List.length_append, own_dec_len]; omega, hN6, oc.slots.toList, by rw [Array.length_toList]; omega, ⟨oc, hA, by rw [o1]; exact q1, by rw [own_clamp hN6]; omega, q3, hget, fun i hi => ?_⟩, fun i hi => ?_⟩
  · have e1 := o4 i hi
    rw [Array.getD_eq_getD_getElem?, hget i hi] at e1; exact e1
  · rw [List.length_append, own_dec_len] at hi
    have hi2 : i < oc.slots.size := by omega
    apply Option.some.inj
    rw [← hget i hi2]
    by_cases c1 : i < cs.length
    · rw [fB i c1, Hh i (by omega), hc i c1]; simp [List.getD_eq_getElem?_getD, List.getElem?_append_left c1]
    · obtain ⟨t, rfl⟩ : ∃ t, i = cs.length + t := ⟨i - cs.length, by omega⟩
      rw [fD t (by omega)]
      have e2 : (cs ++ own_dec nn).getD (cs.length + t) 0 = (own_dec nn).getD t 0 := by simp [List.getD_eq_getElem?_getD, List.getElem?_append_right]
      rw [e2, own_dec_at _ _ (by omega), Jvm.Free.SBG.dgNarrow _ (by omega)]
/-- an exact copy makes a String's array -/
theorem own_arvStr {vs : List Value} (hl : vs.length = cs.length) (hc : ∀ i, i < cs.length → vs.getD i (.int 0) = .int ((cs.getD i 0).toInt8.toInt32)) (V : Arv Z h d kd .byte (Int32.ofNat cs.length) vs (.int 0)) : Arv Z h d kd .byte (Int32.ofNat cs.length) ((cs.map fun c => c.toInt8.toInt32).map Value.int) (.int 0) :=
  V.pad fun i => by
    by_cases hi : i < cs.length
    · rw [own_map_getD _ _ hi, hc i hi]
    · simp [List.getD_eq_getElem?_getD, List.getElem?_eq_none (Nat.le_of_not_lt hi), List.getElem?_eq_none (hl ▸ Nat.le_of_not_lt hi)]
end OwnSB
theorem own_chb0 : ∀ n, n < 256 → (((Int32.ofNat n).toInt8.toInt32 &&& (255 : Int32)).toUInt32.toUInt16.toUInt32.toInt32) = Int32.ofNat n ∧ nar .char (Int32.ofNat n) = Int32.ofNat n := by decide +kernel
theorem own_chb {x : Int32} (h : ¬ x < 0 ∧ ¬ (255 : Int32) < x) : ((x.toInt8.toInt32 &&& (255 : Int32)).toUInt32.toUInt16.toUInt32.toInt32) = x ∧ nar .char x = x := by
  obtain ⟨h1, h2⟩ := h
  rw [Int32.lt_iff_toInt_lt, show (0 : Int32).toInt = 0 from rfl] at h1
  rw [Int32.lt_iff_toInt_lt, show (255 : Int32).toInt = 255 from by decide] at h2
  have e : x = Int32.ofNat x.toInt.toNat := own_ofint (by omega) (by omega)
  have q := own_chb0 x.toInt.toNat (by omega)
  rw [← e] at q
  exact q
theorem own_rngAt {cs : List Int32} (h : ∀ c ∈ cs, ¬ c < 0 ∧ ¬ (255 : Int32) < c) {i : Nat} (hi : i < cs.length) : ¬ cs.getD i 0 < 0 ∧ ¬ (255 : Int32) < cs.getD i 0 := by
  apply h
  rw [List.getD_eq_getElem?_getD, List.getElem?_eq_getElem hi]
  exact List.getElem_mem hi
section OwnLong
variable {Z : State} {h h' : Heap} {b d a : Addr} {kd : ClassId} {N M : Nat} {cs ds : List Int32} {sl : Nat} {v : Value} {ws : List Addr}
/-- the decimal digits of n, the highest first -/
def own_decL (n : Nat) : List Int32 := (List.range (Jvm.Free.SBG.digitsL n)).map fun t => Int32.ofNat (48 + n / 10 ^ (Jvm.Free.SBG.digitsL n - 1 - t) % 10)
theorem own_decL_len (n : Nat) : (own_decL n).length = Jvm.Free.SBG.digitsL n := by simp [own_decL]
theorem own_decL_rng (n : Nat) : ∀ c ∈ own_decL n, ¬ c < 0 ∧ ¬ (255 : Int32) < c := fun c hc => by
  obtain ⟨t, -, rfl⟩ := List.mem_map.mp hc
  have h1 : 48 + n / 10 ^ (Jvm.Free.SBG.digitsL n - 1 - t) % 10 ≤ 1000000 := by omega
  rw [Int32.lt_iff_toInt_lt, Int32.lt_iff_toInt_lt, own_nat h1, show (0 : Int32).toInt = 0 from rfl, show (255 : Int32).toInt = 255 from by decide]
  omega
theorem own_decL_at (n t : Nat) (ht : t < Jvm.Free.SBG.digitsL n) : (own_decL n).getD t 0 = Int32.ofNat (48 + n / 10 ^ (Jvm.Free.SBG.digitsL n - 1 - t) % 10) := by
  simp [own_decL, List.getD_eq_getElem?_getD, ht]
theorem own_gcL {cl : Cell} (F : own_By Z h d kd N cs) (hcl : h[d]? = some cl) {v : Int64} {nn : Nat} {ist d1 d2 : Addr} {cD1 cD2 : Cell} (hO : Jvm.Free.SBG.Ones cD1) (hT : Jvm.Free.SBG.Tens cD2) (hv : ¬ v < 0) (hn : nn ≤ 2 ^ 63) (hN : cs.length + Jvm.Free.SBG.digitsL nn ≤ N)
    (h1 : h'[d]? = some (Jvm.Free.SBG.GetCharsL.outCell ⟨v, nn, cs.length + Jvm.Free.SBG.digitsL nn, d, cl, ist, d1, cD1, d2, cD2⟩)) (h2 : h'.size = h.size) (h3 : ∀ (y : Addr) (cy : Cell), y ≠ d → h[y]? = some cy → h'[y]? = some cy) : Keep h h' [d] ∧ own_By Z h' d kd N (cs ++ own_decL nn) := by
  obtain ⟨E, hl, hN6, vs, hvl, ⟨c2, Ar, q1, S, q3, Hh, G⟩, hc⟩ := F
  obtain rfl : cl = c2 := Option.some.inj (hcl.symm.trans Ar.1)
  rw [own_clamp hN6] at S
  have sg : Jvm.Free.SBG.GetCharsL.sgnL v = 0 := if_neg hv
  have hby : ∀ i, i < cl.slots.size → fits .byte (cl.slots.getD i .null) = true := fun i hi => by
    have e1 := Hh i hi; have e2 := G i hi
    rw [Array.getD_eq_getD_getElem?, e1]; exact e2
  obtain ⟨o1, o2, o3, o4, -⟩ := Jvm.Free.SBG.GetCharsL.outCell_facts ⟨v, nn, cs.length + Jvm.Free.SBG.digitsL nn, d, cl, ist, d1, cD1, d2, cD2⟩ hn (by show Jvm.Free.SBG.digitsL nn + Jvm.Free.SBG.GetCharsL.sgnL v ≤ _; rw [sg]; exact Nat.le_add_left _ _) hby
  obtain ⟨-, fD, fB⟩ := Jvm.Free.SBG.outCellL_fwd ⟨v, nn, cs.length + Jvm.Free.SBG.digitsL nn, d, cl, ist, d1, cD1, d2, cD2⟩ hO hT hn (n0 := cs.length) (by show _ = cs.length + (Jvm.Free.SBG.digitsL nn + Jvm.Free.SBG.GetCharsL.sgnL v); rw [sg]; rfl) (by show cs.length + _ ≤ cl.slots.size; omega)
  generalize Jvm.Free.SBG.GetCharsL.outCell ⟨v, nn, cs.length + Jvm.Free.SBG.digitsL nn, d, cl, ist, d1, cD1, d2, cD2⟩ = oc at *
  have o1 : oc.cls = cl.cls := o1
  have o2 : oc.vm = cl.vm := o2
  have o3 : oc.slots.size = cl.slots.size := o3
  have fD : ∀ t, t < Jvm.Free.SBG.digitsL nn → oc.slots[cs.length + t]? = some (.int (Int32.ofNat (48 + nn / 10 ^ (Jvm.Free.SBG.digitsL nn - 1 - t) % 10))) := fun t ht => by
    have := fD t ht
    rw [show Jvm.Free.SBG.GetCharsL.sgnL _ = 0 from sg, Nat.add_zero] at this; exact this
  have fB : ∀ j, j < cs.length → oc.slots[j]? = cl.slots[j]? := fB
  have hK : Keep h h' [d] := ⟨Nat.le_of_eq h2.symm, fun x c q r => h3 x c (fun e => r (by rw [e]; exact List.mem_cons_self ..)) q, fun x c q => by
    by_cases e : x = d
    · subst e
      obtain rfl : cl = c := Option.some.inj (hcl.symm.trans q)
      exact ⟨oc, h1, o1, o2, o3⟩
    · exact ⟨c, h3 x c e q, rfl, rfl, rfl⟩⟩
  have hA : Arr Z h' d oc .byte := ⟨h1, by
    obtain ⟨a1, kA, a2, comp, a3⟩ := Ar.2.1
    exact ⟨by rw [o2]; exact a1, kA, by rw [o1]; exact a2, comp, a3⟩, by rw [o2]; exact Ar.2.2⟩
  have hget : ∀ i, i < oc.slots.size → oc.slots[i]? = some (oc.slots.toList.getD i (.int 0)) := fun i hi => by
    rw [List.getD_eq_getElem?_getD, Array.getElem?_toList, Array.getElem?_eq_getElem hi]; rfl
  refine ⟨hK, E.keep hK, by rw [List.length_append, own_decL_len]; omega, hN6, oc.slots.toList, by rw [Array.length_toList]; omega, ⟨oc, hA, by rw [o1]; exact q1, by rw [own_clamp hN6]; omega, q3, hget, fun i hi => ?_⟩, fun i hi => ?_⟩
  · have e1 := o4 i hi
    rw [Array.getD_eq_getD_getElem?, hget i hi] at e1; exact e1
  · rw [List.length_append, own_decL_len] at hi
    have hi2 : i < oc.slots.size := by omega
    apply Option.some.inj
    rw [← hget i hi2]
    by_cases c1 : i < cs.length
    · rw [fB i c1, Hh i (by omega), hc i c1]; simp [List.getD_eq_getElem?_getD, List.getElem?_append_left c1]
    · obtain ⟨t, rfl⟩ : ∃ t, i = cs.length + t := ⟨i - cs.length, by omega⟩
      rw [fD t (by omega)]
      have e2 : (cs ++ own_decL nn).getD (cs.length + t) 0 = (own_decL nn).getD t 0 := by simp [List.getD_eq_getElem?_getD, List.getElem?_append_right]
      rw [e2, own_decL_at _ _ (by omega), Jvm.Free.SBG.dgNarrow _ (by omega)]
theorem own_fil {cl A' : Cell} {z x : Int32} {vs : List Value} (F : Arv Z h d kd .byte z vs (.int 0)) (hcl : h[d]? = some cl) (h1 : h'[d]? = some A') (c1 : A'.cls = cl.cls) (c2 : A'.vm = cl.vm) (c3 : A'.slots.size = cl.slots.size) (c4 : ∀ i, i < cl.slots.size → A'.slots[i]? = some (.int x))
    (c5 : ∀ y : Addr, y ≠ d → h'[y]? = h[y]?) (c6 : h'.size = h.size) (hv : fits .byte (.int x) = true) {n : Nat} (hn : z.toNatClampNeg = n) : Keep h h' [d] ∧ Arv Z h' d kd .byte z (List.replicate n (.int x)) (.int 0) := by
  obtain ⟨c2', Ar, q1, S, q3, Hh, G⟩ := F
  obtain rfl : cl = c2' := Option.some.inj (hcl.symm.trans Ar.1)
  have hK : Keep h h' [d] := ⟨Nat.le_of_eq c6.symm, fun y c q r => by rw [c5 y (fun e => r (by rw [e]; exact List.mem_cons_self ..))]; exact q, fun y c q => by
    by_cases e : y = d
    · subst e
      obtain rfl : cl = c := Option.some.inj (hcl.symm.trans q)
      exact ⟨A', h1, c1, c2, c3⟩
    · exact ⟨c, by rw [c5 y e]; exact q, rfl, rfl, rfl⟩⟩
  have hA : Arr Z h' d A' .byte := ⟨h1, by
    obtain ⟨a1, kA, a2, comp, a3⟩ := Ar.2.1
    exact ⟨by rw [c2]; exact a1, kA, by rw [c1]; exact a2, comp, a3⟩, by rw [c2]; exact Ar.2.2⟩
  have hg : ∀ i, i < A'.slots.size → (List.replicate n (Value.int x)).getD i (.int 0) = .int x := fun i hi => by
    rw [List.getD_eq_getElem?_getD, List.getElem?_replicate, if_pos (by omega)]; rfl
  exact ⟨hK, A', hA, by rw [c1]; exact q1, by rw [c3]; exact S, q3, fun i hi => by rw [c4 i (by omega), hg i hi], fun i hi => by rw [hg i hi]; exact hv⟩
theorem own_neLen {t : Addr} {k1 k2 : ClassId} {z1 z2 : Int32} {vs us : List Value} (A : Arv Z h t k1 .byte z1 vs (.int 0)) (B : Arv Z h d k2 .byte z2 us (.int 0)) (hz : z1.toNatClampNeg ≠ z2.toNatClampNeg) : t ≠ d := fun e => by
  subst e
  obtain ⟨c1, Ar, -, S1, -⟩ := A
  obtain ⟨c2, Br, -, S2, -⟩ := B
  obtain rfl : c1 = c2 := Option.some.inj (Ar.1.symm.trans Br.1)
  exact hz (S1.symm.trans S2)
theorem own_bigdiv {n : Nat} (h1 : 0 < n) (h2 : n ≤ 60) : ¬ (2147483647 : Int32) / Int32.ofNat n < (1 : Int32) := by
  have hn : (Int32.ofNat n).toInt = n := own_nat (by omega)
  have hd : ((2147483647 : Int32) / Int32.ofNat n).toInt = 2147483647 / (n : Int) := by
    rw [Int32.toInt_div, hn, show (2147483647 : Int32).toInt = 2147483647 from by decide, Int.tdiv_eq_ediv_of_nonneg (by omega)]
    have b1 : (0 : Int) ≤ 2147483647 / (n : Int) := Int.ediv_nonneg (by omega) (by omega)
    have b2 : 2147483647 / (n : Int) ≤ 2147483647 := Int.ediv_le_self _ (by omega)
    exact Int.bmod_eq_of_le (by omega) (by omega)
  rw [Int32.lt_iff_toInt_lt, hd, show (1 : Int32).toInt = 1 from rfl]
  have : (1 : Int) ≤ 2147483647 / (n : Int) := (Int.le_ediv_iff_mul_le (by omega)).mpr (by omega)
  omega
theorem own_cpb {a : Addr} {n : Nat} (y : Loc) (hy : y ∈ copyLocs a 0 n) : y.base = a := by
  simp only [copyLocs, List.mem_map, List.mem_range] at hy
  obtain ⟨i, -, rfl⟩ := hy; rfl
theorem own_repRng (n : Nat) : ∀ c ∈ List.replicate n (48 : Int32), ¬ c < 0 ∧ ¬ (255 : Int32) < c := fun c hc => by
  obtain rfl := (List.mem_replicate.mp hc).2
  decide
theorem own_repArv {n : Nat} (V : Arv Z h d kd .byte (Int32.ofNat n) (List.replicate n (.int (48 : Int32))) (.int 0)) : Arv Z h d kd .byte (Int32.ofNat (List.replicate n (48 : Int32)).length) (((List.replicate n (48 : Int32)).map fun c => c.toInt8.toInt32).map Value.int) (.int 0) := by
  rw [List.length_replicate, List.map_replicate, List.map_replicate, show (48 : Int32).toInt8.toInt32 = 48 from by decide]; exact V
end OwnLong
theorem own_lrem {p : Program} {l : Launch} {e : Env} {R : Room} {s : State} {m : MethodId} {args : Array Value} {below : List Frame} {meth : Method} {c : Code} {T : State} {locs : List Loc} {cells slots : Nat} {g : JFrame} {target : State} (X : Stand p l e R s m args below meth c T locs cells slots) (hx : p.tables.exec = Jvm.exec) (hg : g.method = m) {x y : Int64} {rest : List Value} (hd : decode c.code g.pc = .ok (.lrem, 1)) (hs : g.stack = .long y :: .long x :: rest) (hy : y ≠ 0)
    (hr : Steps p.tables e below (T.setTop { g with pc := g.pc + 1, stack := .long (x % y) :: rest }) target) : Steps p.tables e below (T.setTop g) target := by
  have q : x - x / y * y = x % y := by
    apply Int64.toInt_inj.mp
    have h1 := Int.mul_tdiv_add_tmod x.toInt y.toInt
    have h2 : (x % y).toInt = x.toInt.tmod y.toInt := Int64.toInt_mod x y
    rw [Int64.toInt_sub, Int64.toInt_mul, Int64.toInt_div, h2]
    have h3 : x.toInt - (x.toInt.tdiv y.toInt) * y.toInt = x.toInt.tmod y.toInt := by rw [Int.mul_comm]; omega
    rw [← h3]
    have b1 := x.toInt_lt; have b2 := Int64.le_toInt x
    have hb : (x.toInt - (x.toInt.tdiv y.toInt) * y.toInt).bmod (2 ^ 64) = x.toInt - (x.toInt.tdiv y.toInt) * y.toInt := by rw [h3, ← h2]; exact Int.bmod_eq_of_le (by have := Int64.le_toInt (x % y); omega) (by have := (x % y).toInt_lt; omega)
    rw [Int.bmod_mul_bmod, Int.sub_bmod_bmod, hb]
  exact XS.lrem X.here hx hg hd hs hy (by rw [q]; exact hr)
theorem own_wN10 : ∀ (f n : Nat), n < 100 ^ f → n < 10 ^ Jvm.Free.SBG.wN f n ∧ (0 < n → 10 ^ (Jvm.Free.SBG.wN f n - 1) ≤ n)
  | 0, n, h => by
    have : n = 0 := by simpa using h
    subst this
    exact ⟨by simp [Jvm.Free.SBG.wN], fun q => absurd q (by omega)⟩
  | f + 1, n, h => by
    have e : Jvm.Free.SBG.wN (f + 1) n = if 100 ≤ n then 2 + Jvm.Free.SBG.wN f (n / 100) else if 9 < n then 2 else 1 := rfl
    rw [e]
    by_cases h1 : 100 ≤ n
    · rw [if_pos h1]
      have hlt : n / 100 < 100 ^ f := by rw [Nat.pow_succ] at h; exact Nat.div_lt_of_lt_mul (by rw [Nat.mul_comm]; exact h)
      obtain ⟨i1, i2⟩ := own_wN10 f (n / 100) hlt
      have hp : 0 < n / 100 := by omega
      have i3 := i2 hp
      refine ⟨?_, fun _ => ?_⟩
      · rw [Nat.pow_add]; have : (10 : Nat) ^ 2 = 100 := by decide
        rw [this]; omega
      · cases hw : Jvm.Free.SBG.wN f (n / 100) with
        | zero => rw [hw] at i1; simp at i1; omega
        | succ k =>
          rw [hw] at i3
          have e2 : 2 + (k + 1) - 1 = k + 2 := by omega
          have e3 : k + 1 - 1 = k := by omega
          rw [e3] at i3
          rw [e2, Nat.pow_add]; have : (10 : Nat) ^ 2 = 100 := by decide
          rw [this]; omega
    · rw [if_neg h1]
      by_cases h2 : 9 < n
      · rw [if_pos h2]; exact ⟨by omega, fun _ => by show 10 ^ 1 ≤ n; omega⟩
      · rw [if_neg h2]; exact ⟨by omega, fun q => by show 10 ^ 0 ≤ n; omega⟩
theorem own_h10 {n : Nat} (h : n < 2 ^ 63) : n < 100 ^ 10 := by
  have e : (100 : Nat) ^ 10 = 100000000000000000000 := by decide
  omega
theorem own_dLlt {n : Nat} (h : n < 2 ^ 63) : n < 10 ^ Jvm.Free.SBG.digitsL n := (own_wN10 10 n (own_h10 h)).1
theorem own_dLge {n : Nat} (h : n < 2 ^ 63) (hp : 0 < n) : 10 ^ (Jvm.Free.SBG.digitsL n - 1) ≤ n := (own_wN10 10 n (own_h10 h)).2 hp
/-- the digits, padded with zeros to any length -/
theorem own_padAt {n k i : Nat} (h : n < 2 ^ 63) (hi : i < k + Jvm.Free.SBG.digitsL n) : (([] ++ List.replicate k (48 : Int32)) ++ own_decL n).getD i 0 = Int32.ofNat (48 + n / 10 ^ (k + Jvm.Free.SBG.digitsL n - 1 - i) % 10) := by
  rw [List.nil_append, List.getD_eq_getElem?_getD]
  by_cases h1 : i < k
  · rw [List.getElem?_append_left (by rw [List.length_replicate]; exact h1), List.getElem?_replicate, if_pos h1]
    have h2 : n / 10 ^ (k + Jvm.Free.SBG.digitsL n - 1 - i) = 0 := Nat.div_eq_of_lt (Nat.lt_of_lt_of_le (own_dLlt h) (Nat.pow_le_pow_right (by decide) (by omega)))
    rw [h2]; rfl
  · rw [List.getElem?_append_right (by rw [List.length_replicate]; omega), List.length_replicate, ← List.getD_eq_getElem?_getD, own_decL_at _ _ (by omega)]
    have e : Jvm.Free.SBG.digitsL n - 1 - (i - k) = k + Jvm.Free.SBG.digitsL n - 1 - i := by omega
    rw [e]
theorem own_padLen (n k : Nat) : (([] ++ List.replicate k (48 : Int32)) ++ own_decL n).length = k + Jvm.Free.SBG.digitsL n := by
  rw [List.nil_append, List.length_append, List.length_replicate, own_decL_len]
theorem own_lnat {n : Nat} (h : n < 2 ^ 63) : (Int64.ofNat n).toInt = n := Int64.toInt_ofNat_of_lt h
theorem own_bm64 {q : Nat} (h : q < 2 ^ 63) : ((q : Nat) : Int).bmod (2 ^ 64) = q := Int.bmod_eq_of_le (by omega) (by omega)
theorem own_ldiv {v : Int64} {n k : Nat} (h : v.toInt = n) (hk : k < 2 ^ 63) (hp : 0 < k) : v / Int64.ofNat k = Int64.ofNat (n / k) := by
  have hn : n < 2 ^ 63 := by have := v.toInt_lt; omega
  have hle : n / k ≤ n := Nat.div_le_self n k
  apply Int64.toInt_inj.mp
  have hq : n / k < 2 ^ 63 := Nat.lt_of_le_of_lt hle hn
  rw [Int64.toInt_div, h, own_lnat hk, own_lnat hq, Int.tdiv_eq_ediv_of_nonneg (by omega)]
  rw [show (n : Int) / (k : Int) = ((n / k : Nat) : Int) from (Int.natCast_ediv n k).symm]
  exact own_bm64 hq
theorem own_lmod {n k : Nat} (hn : n < 2 ^ 63) (hk : k < 2 ^ 63) : Int64.ofNat n % Int64.ofNat k = Int64.ofNat (n % k) := by
  have hle : n % k ≤ n := Nat.mod_le n k
  apply Int64.toInt_inj.mp
  rw [Int64.toInt_mod, own_lnat hn, own_lnat hk, own_lnat (by omega), Int.tmod_eq_emod_of_nonneg (by omega)]
  exact (Int.natCast_emod n k).symm
theorem own_l2i {n : Nat} (hn : n ≤ 1000000) : (Int64.ofNat n).toInt32 = Int32.ofNat n := by
  apply Int32.toInt_inj.mp
  rw [Int64.toInt_toInt32, own_lnat (by omega), own_nat hn]
  exact Int.bmod_eq_of_le (by omega) (by omega)
theorem own_lnz {n : Nat} (hp : 0 < n) (hn : n < 2 ^ 63) : Int64.ofNat n ≠ 0 := fun q => by
  have := congrArg Int64.toInt q
  rw [own_lnat hn, show (0 : Int64).toInt = 0 from rfl] at this; omega
theorem own_land (x : Int64) : ∃ n : Nat, (x &&& (9223372036854775807 : Int64)).toInt = n := by
  have h : (x &&& (9223372036854775807 : Int64)).toInt = x.toInt % 2 ^ 63 := Jvm.Kit.i64_mask x 9223372036854775807 (k := 63) (by decide) (by decide)
  exact ⟨(x.toInt % 2 ^ 63).toNat, by rw [h]; omega⟩
theorem own_eqI {t : Term} {args : Array Value} {s : State} {k : Int32} (h : (Jvm.Cond.eq t (Jvm.Term.int k)).value args s none s [] = some true) : t.eval args s none [] s = some (.int k) := by
  obtain ⟨x, y, h1, h2, h3, h4⟩ := cmp_v (Or.inl h)
  have h5 : (Jvm.Term.int k).eval args s none [] s = some (.int k) := Term.int_eval k
  rw [h5] at h2
  obtain rfl : (Value.int k) = y := Option.some.inj h2
  obtain ⟨z, rfl⟩ := h4
  have h6 : (Jvm.Cond.eq t (Jvm.Term.int k)).value args s none s [] = some (decide (z = k)) := by simp [Cond.value, h1, h5]
  rw [h6] at h
  have h7 : z = k := of_decide_eq_true (Option.some.inj h)
  rw [h1, h7]
theorem own_ord {s : State} {args : Array Value} {t t' : Term} {a b : Addr} {C n d : String} {i j : Int32} (ha : t.eval args s none [] s = some (.ref a)) (hb : t'.eval args s none [] s = some (.ref b))
    (h1 : (Jvm.Cond.eq (Jvm.Term.field t C n d) (Jvm.Term.int i)).value args s none s [] = some true) (h2 : (Jvm.Cond.eq (Jvm.Term.field t' C n d) (Jvm.Term.int j)).value args s none s [] = some true) (hij : i ≠ j) : a ≠ b := fun e => by
  subst e
  have e1 := own_eqI h1; have e2 := own_eqI h2
  rw [fld_at ha] at e1; rw [fld_at hb] at e2
  rw [e1] at e2
  exact hij (Value.int.inj (Option.some.inj e2))
theorem own_d19 {n : Nat} (h : n < 2 ^ 63) : Jvm.Free.SBG.digitsL n ≤ 19 := by
  by_cases h0 : 0 < n
  · have h3 := own_dLge h h0
    have h4 : ¬ 20 ≤ Jvm.Free.SBG.digitsL n := fun q => by
      have h5 : (10 : Nat) ^ 19 ≤ 10 ^ (Jvm.Free.SBG.digitsL n - 1) := Nat.pow_le_pow_right (by decide) (by omega)
      have e : (10 : Nat) ^ 19 = 10000000000000000000 := by decide
      omega
    omega
  · have : n = 0 := by omega
    subst this; decide
theorem own_gek {v : Int64} {n k : Nat} (h : v.toInt = n) (hn : n < 2 ^ 63) (hk : 1 ≤ k) (hk2 : k ≤ 18) {w : Int64} (hw : w.toInt = 10 ^ k) : (if v < w then (0 : Int32) else (1 : Int32)) = if Jvm.Free.SBG.digitsL n ≤ k then (0 : Int32) else (1 : Int32) := by
  have h1 : v < w ↔ n < 10 ^ k := by
    rw [Int64.lt_iff_toInt_lt, h, hw]
    constructor
    · intro q; exact Int.ofNat_lt.mp (by rw [Int.natCast_pow]; exact q)
    · intro q; have := Int.ofNat_lt.mpr q; rw [Int.natCast_pow] at this; exact this
  have h2 : n < 10 ^ k ↔ Jvm.Free.SBG.digitsL n ≤ k := by
    constructor
    · intro q
      by_cases h0 : 0 < n
      · have h3 := own_dLge hn h0
        have h4 : ¬ k + 1 ≤ Jvm.Free.SBG.digitsL n := fun r => by
          have h5 : (10 : Nat) ^ k ≤ 10 ^ (Jvm.Free.SBG.digitsL n - 1) := Nat.pow_le_pow_right (by decide) (by omega)
          omega
        omega
      · have : n = 0 := by omega
        subst this
        have e : Jvm.Free.SBG.digitsL 0 = 1 := by decide
        omega
    · intro q; exact Nat.lt_of_lt_of_le (own_dLlt hn) (Nat.pow_le_pow_right (by decide) q)
  by_cases q : v < w
  · rw [if_pos q, if_pos (h2.mp (h1.mp q))]
  · rw [if_neg q, if_neg fun r => q (h1.mpr (h2.mpr r))]
theorem own_sumd : ∀ d, 1 ≤ d → d ≤ 19 → (((((((((((((((((((1 : Int32) + (if d ≤ 1 then (0 : Int32) else (1 : Int32))) + (if d ≤ 2 then (0 : Int32) else (1 : Int32))) + (if d ≤ 3 then (0 : Int32) else (1 : Int32))) + (if d ≤ 4 then (0 : Int32) else (1 : Int32))) + (if d ≤ 5 then (0 : Int32) else (1 : Int32))) + (if d ≤ 6 then (0 : Int32) else (1 : Int32))) + (if d ≤ 7 then (0 : Int32) else (1 : Int32))) + (if d ≤ 8 then (0 : Int32) else (1 : Int32))) + (if d ≤ 9 then (0 : Int32) else (1 : Int32))) + (if d ≤ 10 then (0 : Int32) else (1 : Int32))) + (if d ≤ 11 then (0 : Int32) else (1 : Int32))) + (if d ≤ 12 then (0 : Int32) else (1 : Int32))) + (if d ≤ 13 then (0 : Int32) else (1 : Int32))) + (if d ≤ 14 then (0 : Int32) else (1 : Int32))) + (if d ≤ 15 then (0 : Int32) else (1 : Int32))) + (if d ≤ 16 then (0 : Int32) else (1 : Int32))) + (if d ≤ 17 then (0 : Int32) else (1 : Int32))) + (if d ≤ 18 then (0 : Int32) else (1 : Int32))) = Int32.ofNat d := by
  intro d h1 h2
  have : d = 1 ∨ d = 2 ∨ d = 3 ∨ d = 4 ∨ d = 5 ∨ d = 6 ∨ d = 7 ∨ d = 8 ∨ d = 9 ∨ d = 10 ∨ d = 11 ∨ d = 12 ∨ d = 13 ∨ d = 14 ∨ d = 15 ∨ d = 16 ∨ d = 17 ∨ d = 18 ∨ d = 19 := by omega
  rcases this with rfl | rfl | rfl | rfl | rfl | rfl | rfl | rfl | rfl | rfl | rfl | rfl | rfl | rfl | rfl | rfl | rfl | rfl | rfl <;> decide
theorem own_sum {vv : Int64} {n : Nat} (h : vv.toInt = n) : (((((((((((((((((((1 : Int32) + (if vv < (10 : Int64) then (0 : Int32) else (1 : Int32))) + (if vv < (100 : Int64) then (0 : Int32) else (1 : Int32))) + (if vv < (1000 : Int64) then (0 : Int32) else (1 : Int32))) + (if vv < (10000 : Int64) then (0 : Int32) else (1 : Int32))) + (if vv < (100000 : Int64) then (0 : Int32) else (1 : Int32))) + (if vv < (1000000 : Int64) then (0 : Int32) else (1 : Int32))) + (if vv < (10000000 : Int64) then (0 : Int32) else (1 : Int32))) + (if vv < (100000000 : Int64) then (0 : Int32) else (1 : Int32))) + (if vv < (1000000000 : Int64) then (0 : Int32) else (1 : Int32))) + (if vv < (10000000000 : Int64) then (0 : Int32) else (1 : Int32))) + (if vv < (100000000000 : Int64) then (0 : Int32) else (1 : Int32))) + (if vv < (1000000000000 : Int64) then (0 : Int32) else (1 : Int32))) + (if vv < (10000000000000 : Int64) then (0 : Int32) else (1 : Int32))) + (if vv < (100000000000000 : Int64) then (0 : Int32) else (1 : Int32))) + (if vv < (1000000000000000 : Int64) then (0 : Int32) else (1 : Int32))) + (if vv < (10000000000000000 : Int64) then (0 : Int32) else (1 : Int32))) + (if vv < (100000000000000000 : Int64) then (0 : Int32) else (1 : Int32))) + (if vv < (1000000000000000000 : Int64) then (0 : Int32) else (1 : Int32))) = Int32.ofNat (Jvm.Free.SBG.digitsL n) := by
  have hn : n < 2 ^ 63 := by have := vv.toInt_lt; omega
  rw [own_gek h hn (k := 1) (by decide) (by decide) (w := (10 : Int64)) (by decide), own_gek h hn (k := 2) (by decide) (by decide) (w := (100 : Int64)) (by decide), own_gek h hn (k := 3) (by decide) (by decide) (w := (1000 : Int64)) (by decide), own_gek h hn (k := 4) (by decide) (by decide) (w := (10000 : Int64)) (by decide), own_gek h hn (k := 5) (by decide) (by decide) (w := (100000 : Int64)) (by decide), own_gek h hn (k := 6) (by decide) (by decide) (w := (1000000 : Int64)) (by decide), own_gek h hn (k := 7) (by decide) (by decide) (w := (10000000 : Int64)) (by decide), own_gek h hn (k := 8) (by decide) (by decide) (w := (100000000 : Int64)) (by decide), own_gek h hn (k := 9) (by decide) (by decide) (w := (1000000000 : Int64)) (by decide), own_gek h hn (k := 10) (by decide) (by decide) (w := (10000000000 : Int64)) (by decide), own_gek h hn (k := 11) (by decide) (by decide) (w := (100000000000 : Int64)) (by decide), own_gek h hn (k := 12) (by decide) (by decide) (w := (1000000000000 : Int64)) (by decide), own_gek h hn (k := 13) (by decide) (by decide) (w := (10000000000000 : Int64)) (by decide), own_gek h hn (k := 14) (by decide) (by decide) (w := (100000000000000 : Int64)) (by decide), own_gek h hn (k := 15) (by decide) (by decide) (w := (1000000000000000 : Int64)) (by decide), own_gek h hn (k := 16) (by decide) (by decide) (w := (10000000000000000 : Int64)) (by decide), own_gek h hn (k := 17) (by decide) (by decide) (w := (100000000000000000 : Int64)) (by decide), own_gek h hn (k := 18) (by decide) (by decide) (w := (1000000000000000000 : Int64)) (by decide)]
  exact own_sumd _ (Jvm.Free.SBG.digitsL_pos n).1 (own_d19 hn)
theorem own_w48 (x : Int32) : -47 ≤ (x % (48 : Int32)).toInt ∧ (x % (48 : Int32)).toInt ≤ 47 := by
  rw [Int32.toInt_mod, show (48 : Int32).toInt = 48 from by decide]
  have h1 := Int.tmod_lt_of_pos x.toInt (b := 48) (by decide)
  have h2 := Int.lt_tmod_of_pos x.toInt (b := 48) (by decide)
  omega
theorem own_cntEx {w : Int32} {d : Nat} (h : -47 ≤ w.toInt ∧ w.toInt ≤ 47) (h1 : 1 ≤ d) (h2 : d ≤ 19) : ∃ k : Nat, (if (0 : Int32) < w - Int32.ofNat d then w - Int32.ofNat d else (0 : Int32)) = Int32.ofNat k ∧ (if w < Int32.ofNat d then Int32.ofNat d else w) = Int32.ofNat (k + d) ∧ k + d ≤ 60 := by
  have hd : (Int32.ofNat d).toInt = d := own_nat (by omega)
  have hs : (w - Int32.ofNat d).toInt = w.toInt - d := by rw [Int32.toInt_sub, hd]; exact Int.bmod_eq_of_le (by omega) (by omega)
  by_cases q : w.toInt < d
  · refine ⟨0, ?_, ?_, by omega⟩
    · rw [if_neg (by rw [Int32.lt_iff_toInt_lt, hs, show (0 : Int32).toInt = 0 from rfl]; omega)]; rfl
    · rw [if_pos (by rw [Int32.lt_iff_toInt_lt, hd]; exact q), Nat.zero_add]
  · refine ⟨(w.toInt - d).toNat, ?_, ?_, by omega⟩
    · by_cases r : 0 < w.toInt - d
      · rw [if_pos (by rw [Int32.lt_iff_toInt_lt, hs, show (0 : Int32).toInt = 0 from rfl]; exact r)]
        exact own_ofint (by omega) (by rw [hs]; omega)
      · rw [if_neg (by rw [Int32.lt_iff_toInt_lt, hs, show (0 : Int32).toInt = 0 from rfl]; exact r), show (w.toInt - d).toNat = 0 from by omega]; rfl
    · rw [if_neg (by rw [Int32.lt_iff_toInt_lt, hd]; exact q)]
      exact own_ofint (by omega) (by omega)
theorem own_posEx (x : Int32) {n : Nat} (h1 : 1 ≤ n) (h2 : n ≤ 60) : ∃ k : Nat, (x &&& (2147483647 : Int32)) % Int32.ofNat n = Int32.ofNat k ∧ k < n := by
  have h : (x &&& (2147483647 : Int32)).toInt = x.toInt % 2 ^ 31 := Jvm.Kit.i32_mask x 2147483647 (k := 31) (by decide) (by decide)
  have hn : (Int32.ofNat n).toInt = n := own_nat (by omega)
  have e : ((x &&& (2147483647 : Int32)) % Int32.ofNat n).toInt = (x.toInt % 2 ^ 31) % n := by rw [Int32.toInt_mod, h, hn, Int.tmod_eq_emod_of_nonneg (by omega)]
  have b1 : 0 ≤ (x.toInt % 2 ^ 31) % (n : Int) := Int.emod_nonneg _ (by omega)
  have b2 : (x.toInt % 2 ^ 31) % (n : Int) < n := Int.emod_lt_of_pos _ (by omega)
  exact ⟨((x.toInt % 2 ^ 31) % (n : Int)).toNat, own_ofint (by omega) (by rw [e]; omega), by omega⟩
theorem own_padAt0 {n k i : Nat} (h1 : i < k) : (([] ++ List.replicate k (48 : Int32)) ++ own_decL n).getD i 0 = (48 : Int32) := by
  rw [List.nil_append, List.getD_eq_getElem?_getD, List.getElem?_append_left (by rw [List.length_replicate]; exact h1), List.getElem?_replicate, if_pos h1]; rfl
theorem own_p10L : ∀ e, e < 19 → ([(.long (1 : Int64)), (.long (10 : Int64)), (.long (100 : Int64)), (.long (1000 : Int64)), (.long (10000 : Int64)), (.long (100000 : Int64)), (.long (1000000 : Int64)), (.long (10000000 : Int64)), (.long (100000000 : Int64)), (.long (1000000000 : Int64)), (.long (10000000000 : Int64)), (.long (100000000000 : Int64)), (.long (1000000000000 : Int64)), (.long (10000000000000 : Int64)), (.long (100000000000000 : Int64)), (.long (1000000000000000 : Int64)), (.long (10000000000000000 : Int64)), (.long (100000000000000000 : Int64)), (.long (1000000000000000000 : Int64))] : List Value).getD e (.long (0 : Int64)) = .long (Int64.ofNat (10 ^ e)) := by decide +kernel
theorem own_p10le {e : Nat} (h : e ≤ 18) : 10 ^ e < 2 ^ 63 := by
  have : 10 ^ e ≤ 10 ^ 18 := Nat.pow_le_pow_right (by decide) h
  have e2 : (10 : Nat) ^ 18 = 1000000000000000000 := by decide
  omega
theorem own_dch : ∀ d, d < 10 → ((48 : Int32) + Int32.ofNat d).toUInt32.toUInt16.toUInt32.toInt32 = Int32.ofNat (48 + d) := by decide +kernel
theorem own_d_jdk_29_method_65_code_0 : decode jdk_29_method_65_code 0 = .ok (.iload_n 0, 1) := by decide +kernel
theorem own_d_jdk_29_method_65_code_1 : decode jdk_29_method_65_code 1 = .ok (.iload_n 1, 1) := by decide +kernel
theorem own_d_jdk_29_method_65_code_2 : decode jdk_29_method_65_code 2 = .ok (.if_icmp .lt 7, 3) := by decide +kernel
theorem own_d_jdk_29_method_65_code_9 : decode jdk_29_method_65_code 9 = .ok (.iload_n 1, 1) := by decide +kernel
theorem own_d_jdk_29_method_65_code_10 : decode jdk_29_method_65_code 10 = .ok (.ireturn, 1) := by decide +kernel
theorem own_d_jdk_29_method_65_code_5 : decode jdk_29_method_65_code 5 = .ok (.iload_n 0, 1) := by decide +kernel
theorem own_d_jdk_29_method_65_code_6 : decode jdk_29_method_65_code 6 = .ok (.goto 4, 3) := by decide +kernel
theorem own_d_jdk_29_method_69_code_0 : decode jdk_29_method_69_code 0 = .ok (.iload_n 0, 1) := by decide +kernel
theorem own_d_jdk_29_method_69_code_1 : decode jdk_29_method_69_code 1 = .ok (.iload_n 1, 1) := by decide +kernel
theorem own_d_jdk_29_method_69_code_2 : decode jdk_29_method_69_code 2 = .ok (.if_icmp .gt 7, 3) := by decide +kernel
theorem own_d_jdk_29_method_69_code_9 : decode jdk_29_method_69_code 9 = .ok (.iload_n 1, 1) := by decide +kernel
theorem own_d_jdk_29_method_69_code_10 : decode jdk_29_method_69_code 10 = .ok (.ireturn, 1) := by decide +kernel
theorem own_d_jdk_29_method_69_code_5 : decode jdk_29_method_69_code 5 = .ok (.iload_n 0, 1) := by decide +kernel
theorem own_d_jdk_29_method_69_code_6 : decode jdk_29_method_69_code 6 = .ok (.goto 4, 3) := by decide +kernel
theorem own_d_jdk_68_method_2_code_0 : decode jdk_68_method_2_code 0 = .ok (.aload_n 0, 1) := by decide +kernel
theorem own_d_jdk_68_method_2_code_1 : decode jdk_68_method_2_code 1 = .ok (.invokespecial 3, 3) := by decide +kernel
theorem own_d_jdk_68_method_2_code_4 : decode jdk_68_method_2_code 4 = .ok (.getstatic 18, 3) := by decide +kernel
theorem own_d_jdk_68_method_2_code_7 : decode jdk_68_method_2_code 7 = .ok (.ifCond .eq 18, 3) := by decide +kernel
theorem own_d_jdk_68_method_2_code_10 : decode jdk_68_method_2_code 10 = .ok (.aload_n 0, 1) := by decide +kernel
theorem own_d_jdk_68_method_2_code_11 : decode jdk_68_method_2_code 11 = .ok (.iload_n 1, 1) := by decide +kernel
theorem own_d_jdk_68_method_2_code_12 : decode jdk_68_method_2_code 12 = .ok (.newarray .byte, 2) := by decide +kernel
theorem own_d_jdk_68_method_2_code_14 : decode jdk_68_method_2_code 14 = .ok (.putfield 15, 3) := by decide +kernel
theorem own_d_jdk_68_method_2_code_17 : decode jdk_68_method_2_code 17 = .ok (.aload_n 0, 1) := by decide +kernel
theorem own_d_jdk_68_method_2_code_18 : decode jdk_68_method_2_code 18 = .ok (.iconst 0, 1) := by decide +kernel
theorem own_d_jdk_68_method_2_code_19 : decode jdk_68_method_2_code 19 = .ok (.putfield 22, 3) := by decide +kernel
theorem own_d_jdk_68_method_2_code_22 : decode jdk_68_method_2_code 22 = .ok (.goto 16, 3) := by decide +kernel
theorem own_d_jdk_68_method_2_code_38 : decode jdk_68_method_2_code 38 = .ok (.return_, 1) := by decide +kernel
theorem own_d_jdk_67_method_1_code_0 : decode jdk_67_method_1_code 0 = .ok (.aload_n 0, 1) := by decide +kernel
theorem own_d_jdk_67_method_1_code_1 : decode jdk_67_method_1_code 1 = .ok (.bipush 16, 2) := by decide +kernel
theorem own_d_jdk_67_method_1_code_3 : decode jdk_67_method_1_code 3 = .ok (.invokespecial 1, 3) := by decide +kernel
theorem own_pd0 : parseMethodDescriptor "(I)V" = some ⟨[.int], none⟩ := by decide +kernel
theorem own_d_jdk_67_method_1_code_6 : decode jdk_67_method_1_code 6 = .ok (.return_, 1) := by decide +kernel
theorem own_d_jdk_68_method_68_code_0 : decode jdk_68_method_68_code 0 = .ok (.getstatic 18, 3) := by decide +kernel
theorem own_d_jdk_68_method_68_code_3 : decode jdk_68_method_68_code 3 = .ok (.ifCond .eq 14, 3) := by decide +kernel
theorem own_d_jdk_68_method_68_code_6 : decode jdk_68_method_68_code 6 = .ok (.aload_n 0, 1) := by decide +kernel
theorem own_d_jdk_68_method_68_code_7 : decode jdk_68_method_68_code 7 = .ok (.getfield 22, 3) := by decide +kernel
theorem own_d_jdk_68_method_68_code_10 : decode jdk_68_method_68_code 10 = .ok (.ifCond .ne 7, 3) := by decide +kernel
theorem own_d_jdk_68_method_68_code_13 : decode jdk_68_method_68_code 13 = .ok (.iconst 1, 1) := by decide +kernel
theorem own_d_jdk_68_method_68_code_14 : decode jdk_68_method_68_code 14 = .ok (.goto 4, 3) := by decide +kernel
theorem own_d_jdk_68_method_68_code_18 : decode jdk_68_method_68_code 18 = .ok (.ireturn, 1) := by decide +kernel
theorem own_d_jdk_48_method_27_code_0 : decode jdk_48_method_27_code 0 = .ok (.iload_n 0, 1) := by decide +kernel
theorem own_d_jdk_48_method_27_code_1 : decode jdk_48_method_27_code 1 = .ok (.iload_n 1, 1) := by decide +kernel
theorem own_d_jdk_48_method_27_code_2 : decode jdk_48_method_27_code 2 = .ok (.iload_n 2, 1) := by decide +kernel
theorem own_d_jdk_48_method_27_code_3 : decode jdk_48_method_27_code 3 = .ok (.invokestatic 194, 3) := by decide +kernel
theorem own_pd1 : parseMethodDescriptor "(II)I" = some ⟨[.int, .int], some .int⟩ := by decide +kernel
theorem own_d_jdk_48_method_27_code_6 : decode jdk_48_method_27_code 6 = .ok (.iadd, 1) := by decide +kernel
theorem own_d_jdk_48_method_27_code_7 : decode jdk_48_method_27_code 7 = .ok (.istore_n 3, 1) := by decide +kernel
theorem own_d_jdk_48_method_27_code_8 : decode jdk_48_method_27_code 8 = .ok (.iconst 0, 1) := by decide +kernel
theorem own_d_jdk_48_method_27_code_9 : decode jdk_48_method_27_code 9 = .ok (.iload_n 3, 1) := by decide +kernel
theorem own_d_jdk_48_method_27_code_10 : decode jdk_48_method_27_code 10 = .ok (.if_icmp .ge 11, 3) := by decide +kernel
theorem own_d_jdk_48_method_27_code_13 : decode jdk_48_method_27_code 13 = .ok (.iload_n 3, 1) := by decide +kernel
theorem own_d_jdk_48_method_27_code_14 : decode jdk_48_method_27_code 14 = .ok (.ldc 200, 2) := by decide +kernel
theorem own_d_jdk_48_method_27_code_16 : decode jdk_48_method_27_code 16 = .ok (.if_icmp .gt 5, 3) := by decide +kernel
theorem own_d_jdk_48_method_27_code_19 : decode jdk_48_method_27_code 19 = .ok (.iload_n 3, 1) := by decide +kernel
theorem own_d_jdk_48_method_27_code_20 : decode jdk_48_method_27_code 20 = .ok (.ireturn, 1) := by decide +kernel
theorem own_d_jdk_68_method_10_code_0 : decode jdk_68_method_10_code 0 = .ok (.aload_n 0, 1) := by decide +kernel
theorem own_d_jdk_68_method_10_code_1 : decode jdk_68_method_10_code 1 = .ok (.getfield 15, 3) := by decide +kernel
theorem own_d_jdk_68_method_10_code_4 : decode jdk_68_method_10_code 4 = .ok (.arraylength, 1) := by decide +kernel
theorem own_d_jdk_68_method_10_code_5 : decode jdk_68_method_10_code 5 = .ok (.istore_n 2, 1) := by decide +kernel
theorem own_d_jdk_68_method_10_code_6 : decode jdk_68_method_10_code 6 = .ok (.iload_n 1, 1) := by decide +kernel
theorem own_d_jdk_68_method_10_code_7 : decode jdk_68_method_10_code 7 = .ok (.aload_n 0, 1) := by decide +kernel
theorem own_d_jdk_68_method_10_code_8 : decode jdk_68_method_10_code 8 = .ok (.getfield 22, 3) := by decide +kernel
theorem own_d_jdk_68_method_10_code_11 : decode jdk_68_method_10_code 11 = .ok (.ishl, 1) := by decide +kernel
theorem own_d_jdk_68_method_10_code_12 : decode jdk_68_method_10_code 12 = .ok (.istore_n 3, 1) := by decide +kernel
theorem own_d_jdk_68_method_10_code_13 : decode jdk_68_method_10_code 13 = .ok (.iload_n 3, 1) := by decide +kernel
theorem own_d_jdk_68_method_10_code_14 : decode jdk_68_method_10_code 14 = .ok (.iload_n 2, 1) := by decide +kernel
theorem own_d_jdk_68_method_10_code_15 : decode jdk_68_method_10_code 15 = .ok (.isub, 1) := by decide +kernel
theorem own_d_jdk_68_method_10_code_16 : decode jdk_68_method_10_code 16 = .ok (.istore 4, 2) := by decide +kernel
theorem own_d_jdk_68_method_10_code_18 : decode jdk_68_method_10_code 18 = .ok (.iload_n 2, 1) := by decide +kernel
theorem own_d_jdk_68_method_10_code_19 : decode jdk_68_method_10_code 19 = .ok (.iload 4, 2) := by decide +kernel
theorem own_d_jdk_68_method_10_code_21 : decode jdk_68_method_10_code 21 = .ok (.iload_n 2, 1) := by decide +kernel
theorem own_d_jdk_68_method_10_code_22 : decode jdk_68_method_10_code 22 = .ok (.iconst 2, 1) := by decide +kernel
theorem own_d_jdk_68_method_10_code_23 : decode jdk_68_method_10_code 23 = .ok (.aload_n 0, 1) := by decide +kernel
theorem own_d_jdk_68_method_10_code_24 : decode jdk_68_method_10_code 24 = .ok (.getfield 22, 3) := by decide +kernel
theorem own_d_jdk_68_method_10_code_27 : decode jdk_68_method_10_code 27 = .ok (.ishl, 1) := by decide +kernel
theorem own_d_jdk_68_method_10_code_28 : decode jdk_68_method_10_code 28 = .ok (.iadd, 1) := by decide +kernel
theorem own_d_jdk_68_method_10_code_29 : decode jdk_68_method_10_code 29 = .ok (.invokestatic 114, 3) := by decide +kernel
theorem own_pd2 : parseMethodDescriptor "(III)I" = some ⟨[.int, .int, .int], some .int⟩ := by decide +kernel
theorem own_d_jdk_68_method_10_code_32 : decode jdk_68_method_10_code 32 = .ok (.istore 5, 2) := by decide +kernel
theorem own_d_jdk_68_method_10_code_34 : decode jdk_68_method_10_code 34 = .ok (.iload 5, 2) := by decide +kernel
theorem own_d_jdk_68_method_10_code_36 : decode jdk_68_method_10_code 36 = .ok (.ldc 39, 2) := by decide +kernel
theorem own_d_jdk_68_method_10_code_38 : decode jdk_68_method_10_code 38 = .ok (.if_icmp .ne 13, 3) := by decide +kernel
theorem own_d_jdk_68_method_10_code_51 : decode jdk_68_method_10_code 51 = .ok (.iload 5, 2) := by decide +kernel
theorem own_d_jdk_68_method_10_code_53 : decode jdk_68_method_10_code 53 = .ok (.aload_n 0, 1) := by decide +kernel
theorem own_d_jdk_68_method_10_code_54 : decode jdk_68_method_10_code 54 = .ok (.getfield 22, 3) := by decide +kernel
theorem own_d_jdk_68_method_10_code_57 : decode jdk_68_method_10_code 57 = .ok (.ishr, 1) := by decide +kernel
theorem own_d_jdk_68_method_10_code_58 : decode jdk_68_method_10_code 58 = .ok (.ireturn, 1) := by decide +kernel
theorem own_d_jdk_65_method_121_code_0 : decode jdk_65_method_121_code 0 = .ok (.iload_n 1, 1) := by decide +kernel
theorem own_d_jdk_65_method_121_code_1 : decode jdk_65_method_121_code 1 = .ok (.aload_n 0, 1) := by decide +kernel
theorem own_d_jdk_65_method_121_code_2 : decode jdk_65_method_121_code 2 = .ok (.arraylength, 1) := by decide +kernel
theorem own_d_jdk_65_method_121_code_3 : decode jdk_65_method_121_code 3 = .ok (.if_icmp .ne 11, 3) := by decide +kernel
theorem own_d_jdk_65_method_121_code_14 : decode jdk_65_method_121_code 14 = .ok (.iload_n 1, 1) := by decide +kernel
theorem own_d_jdk_65_method_121_code_15 : decode jdk_65_method_121_code 15 = .ok (.newarray .byte, 2) := by decide +kernel
theorem own_d_jdk_65_method_121_code_17 : decode jdk_65_method_121_code 17 = .ok (.astore_n 2, 1) := by decide +kernel
theorem own_d_jdk_65_method_121_code_18 : decode jdk_65_method_121_code 18 = .ok (.aload_n 0, 1) := by decide +kernel
theorem own_d_jdk_65_method_121_code_19 : decode jdk_65_method_121_code 19 = .ok (.iconst 0, 1) := by decide +kernel
theorem own_d_jdk_65_method_121_code_20 : decode jdk_65_method_121_code 20 = .ok (.aload_n 2, 1) := by decide +kernel
theorem own_d_jdk_65_method_121_code_21 : decode jdk_65_method_121_code 21 = .ok (.iconst 0, 1) := by decide +kernel
theorem own_d_jdk_65_method_121_code_22 : decode jdk_65_method_121_code 22 = .ok (.aload_n 0, 1) := by decide +kernel
theorem own_d_jdk_65_method_121_code_23 : decode jdk_65_method_121_code 23 = .ok (.arraylength, 1) := by decide +kernel
theorem own_d_jdk_65_method_121_code_24 : decode jdk_65_method_121_code 24 = .ok (.iload_n 1, 1) := by decide +kernel
theorem own_d_jdk_65_method_121_code_25 : decode jdk_65_method_121_code 25 = .ok (.invokestatic 304, 3) := by decide +kernel
theorem own_d_jdk_65_method_121_code_28 : decode jdk_65_method_121_code 28 = .ok (.invokestatic 150, 3) := by decide +kernel
theorem own_d_jdk_65_method_121_code_31 : decode jdk_65_method_121_code 31 = .ok (.aload_n 2, 1) := by decide +kernel
theorem own_d_jdk_65_method_121_code_32 : decode jdk_65_method_121_code 32 = .ok (.areturn, 1) := by decide +kernel
theorem own_d_jdk_68_method_9_code_0 : decode jdk_68_method_9_code 0 = .ok (.aload_n 0, 1) := by decide +kernel
theorem own_d_jdk_68_method_9_code_1 : decode jdk_68_method_9_code 1 = .ok (.getfield 15, 3) := by decide +kernel
theorem own_d_jdk_68_method_9_code_4 : decode jdk_68_method_9_code 4 = .ok (.arraylength, 1) := by decide +kernel
theorem own_d_jdk_68_method_9_code_5 : decode jdk_68_method_9_code 5 = .ok (.aload_n 0, 1) := by decide +kernel
theorem own_d_jdk_68_method_9_code_6 : decode jdk_68_method_9_code 6 = .ok (.getfield 22, 3) := by decide +kernel
theorem own_d_jdk_68_method_9_code_9 : decode jdk_68_method_9_code 9 = .ok (.ishr, 1) := by decide +kernel
theorem own_d_jdk_68_method_9_code_10 : decode jdk_68_method_9_code 10 = .ok (.istore_n 2, 1) := by decide +kernel
theorem own_d_jdk_68_method_9_code_11 : decode jdk_68_method_9_code 11 = .ok (.iload_n 1, 1) := by decide +kernel
theorem own_d_jdk_68_method_9_code_12 : decode jdk_68_method_9_code 12 = .ok (.iload_n 2, 1) := by decide +kernel
theorem own_d_jdk_68_method_9_code_13 : decode jdk_68_method_9_code 13 = .ok (.isub, 1) := by decide +kernel
theorem own_d_jdk_68_method_9_code_14 : decode jdk_68_method_9_code 14 = .ok (.ifCond .le 24, 3) := by decide +kernel
theorem own_d_jdk_68_method_9_code_17 : decode jdk_68_method_9_code 17 = .ok (.aload_n 0, 1) := by decide +kernel
theorem own_d_jdk_68_method_9_code_18 : decode jdk_68_method_9_code 18 = .ok (.aload_n 0, 1) := by decide +kernel
theorem own_d_jdk_68_method_9_code_19 : decode jdk_68_method_9_code 19 = .ok (.getfield 15, 3) := by decide +kernel
theorem own_d_jdk_68_method_9_code_22 : decode jdk_68_method_9_code 22 = .ok (.aload_n 0, 1) := by decide +kernel
theorem own_d_jdk_68_method_9_code_23 : decode jdk_68_method_9_code 23 = .ok (.iload_n 1, 1) := by decide +kernel
theorem own_d_jdk_68_method_9_code_24 : decode jdk_68_method_9_code 24 = .ok (.invokevirtual 104, 3) := by decide +kernel
theorem own_pd3 : parseMethodDescriptor "(I)I" = some ⟨[.int], some .int⟩ := by decide +kernel
theorem own_d_jdk_68_method_9_code_27 : decode jdk_68_method_9_code 27 = .ok (.aload_n 0, 1) := by decide +kernel
theorem own_d_jdk_68_method_9_code_28 : decode jdk_68_method_9_code 28 = .ok (.getfield 22, 3) := by decide +kernel
theorem own_d_jdk_68_method_9_code_31 : decode jdk_68_method_9_code 31 = .ok (.ishl, 1) := by decide +kernel
theorem own_pd4 : parseMethodDescriptor "([BI)[B" = some ⟨[(.array .byte), .int], some (.array .byte)⟩ := by decide +kernel
theorem own_d_jdk_68_method_9_code_32 : decode jdk_68_method_9_code 32 = .ok (.invokestatic 108, 3) := by decide +kernel
theorem own_d_jdk_68_method_9_code_35 : decode jdk_68_method_9_code 35 = .ok (.putfield 15, 3) := by decide +kernel
theorem own_d_jdk_68_method_9_code_38 : decode jdk_68_method_9_code 38 = .ok (.return_, 1) := by decide +kernel
theorem own_d_jdk_42_method_152_code_0 : decode jdk_42_method_152_code 0 = .ok (.getstatic 38, 3) := by decide +kernel
theorem own_d_jdk_42_method_152_code_3 : decode jdk_42_method_152_code 3 = .ok (.ifCond .eq 10, 3) := by decide +kernel
theorem own_d_jdk_42_method_152_code_6 : decode jdk_42_method_152_code 6 = .ok (.aload_n 0, 1) := by decide +kernel
theorem own_d_jdk_42_method_152_code_7 : decode jdk_42_method_152_code 7 = .ok (.getfield 15, 3) := by decide +kernel
theorem own_d_jdk_42_method_152_code_10 : decode jdk_42_method_152_code 10 = .ok (.goto 4, 3) := by decide +kernel
theorem own_d_jdk_42_method_152_code_14 : decode jdk_42_method_152_code 14 = .ok (.ireturn, 1) := by decide +kernel
theorem own_d_jdk_42_method_54_code_0 : decode jdk_42_method_54_code 0 = .ok (.aload_n 0, 1) := by decide +kernel
theorem own_d_jdk_42_method_54_code_1 : decode jdk_42_method_54_code 1 = .ok (.getfield 9, 3) := by decide +kernel
theorem own_d_jdk_42_method_54_code_4 : decode jdk_42_method_54_code 4 = .ok (.arraylength, 1) := by decide +kernel
theorem own_d_jdk_42_method_54_code_5 : decode jdk_42_method_54_code 5 = .ok (.aload_n 0, 1) := by decide +kernel
theorem own_d_jdk_42_method_54_code_6 : decode jdk_42_method_54_code 6 = .ok (.invokevirtual 335, 3) := by decide +kernel
theorem own_pd5 : parseMethodDescriptor "()B" = some ⟨[], some .byte⟩ := by decide +kernel
theorem own_d_jdk_42_method_54_code_9 : decode jdk_42_method_54_code 9 = .ok (.ishr, 1) := by decide +kernel
theorem own_d_jdk_42_method_54_code_10 : decode jdk_42_method_54_code 10 = .ok (.ireturn, 1) := by decide +kernel
theorem own_d_jdk_42_method_154_code_0 : decode jdk_42_method_154_code 0 = .ok (.getstatic 38, 3) := by decide +kernel
theorem own_d_jdk_42_method_154_code_3 : decode jdk_42_method_154_code 3 = .ok (.ifCond .eq 14, 3) := by decide +kernel
theorem own_d_jdk_42_method_154_code_6 : decode jdk_42_method_154_code 6 = .ok (.aload_n 0, 1) := by decide +kernel
theorem own_d_jdk_42_method_154_code_7 : decode jdk_42_method_154_code 7 = .ok (.getfield 15, 3) := by decide +kernel
theorem own_d_jdk_42_method_154_code_10 : decode jdk_42_method_154_code 10 = .ok (.ifCond .ne 7, 3) := by decide +kernel
theorem own_d_jdk_42_method_154_code_13 : decode jdk_42_method_154_code 13 = .ok (.iconst 1, 1) := by decide +kernel
theorem own_d_jdk_42_method_154_code_14 : decode jdk_42_method_154_code 14 = .ok (.goto 4, 3) := by decide +kernel
theorem own_d_jdk_42_method_154_code_18 : decode jdk_42_method_154_code 18 = .ok (.ireturn, 1) := by decide +kernel
theorem own_d_jdk_41_method_11_code_0 : decode jdk_41_method_11_code 0 = .ok (.iload_n 0, 1) := by decide +kernel
theorem own_d_jdk_41_method_11_code_1 : decode jdk_41_method_11_code 1 = .ok (.ifCond .lt 8, 3) := by decide +kernel
theorem own_d_jdk_41_method_11_code_4 : decode jdk_41_method_11_code 4 = .ok (.iload_n 0, 1) := by decide +kernel
theorem own_d_jdk_41_method_11_code_5 : decode jdk_41_method_11_code 5 = .ok (.iload_n 1, 1) := by decide +kernel
theorem own_d_jdk_41_method_11_code_6 : decode jdk_41_method_11_code 6 = .ok (.if_icmp .lt 10, 3) := by decide +kernel
theorem own_d_jdk_41_method_11_code_16 : decode jdk_41_method_11_code 16 = .ok (.iload_n 0, 1) := by decide +kernel
theorem own_d_jdk_41_method_11_code_17 : decode jdk_41_method_11_code 17 = .ok (.ireturn, 1) := by decide +kernel
theorem own_d_jdk_42_method_155_code_0 : decode jdk_42_method_155_code 0 = .ok (.iload_n 0, 1) := by decide +kernel
theorem own_d_jdk_42_method_155_code_1 : decode jdk_42_method_155_code 1 = .ok (.iload_n 1, 1) := by decide +kernel
theorem own_d_jdk_42_method_155_code_2 : decode jdk_42_method_155_code 2 = .ok (.getstatic 1053, 3) := by decide +kernel
theorem own_d_jdk_42_method_155_code_5 : decode jdk_42_method_155_code 5 = .ok (.invokestatic 1059, 3) := by decide +kernel
theorem own_pd6 : parseMethodDescriptor "(IILjava/util/function/BiFunction;)I" = some ⟨[.int, .int, (.object "java/util/function/BiFunction")], some .int⟩ := by decide +kernel
theorem own_d_jdk_42_method_155_code_8 : decode jdk_42_method_155_code 8 = .ok (.pop, 1) := by decide +kernel
theorem own_d_jdk_42_method_155_code_9 : decode jdk_42_method_155_code 9 = .ok (.return_, 1) := by decide +kernel
theorem own_d_jdk_43_method_2_code_0 : decode jdk_43_method_2_code 0 = .ok (.iload_n 1, 1) := by decide +kernel
theorem own_d_jdk_43_method_2_code_1 : decode jdk_43_method_2_code 1 = .ok (.aload_n 0, 1) := by decide +kernel
theorem own_d_jdk_43_method_2_code_2 : decode jdk_43_method_2_code 2 = .ok (.arraylength, 1) := by decide +kernel
theorem own_d_jdk_43_method_2_code_3 : decode jdk_43_method_2_code 3 = .ok (.invokestatic 9, 3) := by decide +kernel
theorem own_pd7 : parseMethodDescriptor "(II)V" = some ⟨[.int, .int], none⟩ := by decide +kernel
theorem own_d_jdk_43_method_2_code_6 : decode jdk_43_method_2_code 6 = .ok (.aload_n 0, 1) := by decide +kernel
theorem own_d_jdk_43_method_2_code_7 : decode jdk_43_method_2_code 7 = .ok (.iload_n 1, 1) := by decide +kernel
theorem own_d_jdk_43_method_2_code_8 : decode jdk_43_method_2_code 8 = .ok (.baload, 1) := by decide +kernel
theorem own_d_jdk_43_method_2_code_9 : decode jdk_43_method_2_code 9 = .ok (.sipush 255, 3) := by decide +kernel
theorem own_d_jdk_43_method_2_code_12 : decode jdk_43_method_2_code 12 = .ok (.iand, 1) := by decide +kernel
theorem own_d_jdk_43_method_2_code_13 : decode jdk_43_method_2_code 13 = .ok (.i2c, 1) := by decide +kernel
theorem own_d_jdk_43_method_2_code_14 : decode jdk_43_method_2_code 14 = .ok (.ireturn, 1) := by decide +kernel
theorem own_d_jdk_42_method_56_code_0 : decode jdk_42_method_56_code 0 = .ok (.aload_n 0, 1) := by decide +kernel
theorem own_d_jdk_42_method_56_code_1 : decode jdk_42_method_56_code 1 = .ok (.invokevirtual 492, 3) := by decide +kernel
theorem own_pd8 : parseMethodDescriptor "()Z" = some ⟨[], some .boolean⟩ := by decide +kernel
theorem own_d_jdk_42_method_56_code_4 : decode jdk_42_method_56_code 4 = .ok (.ifCond .eq 12, 3) := by decide +kernel
theorem own_d_jdk_42_method_56_code_7 : decode jdk_42_method_56_code 7 = .ok (.aload_n 0, 1) := by decide +kernel
theorem own_d_jdk_42_method_56_code_8 : decode jdk_42_method_56_code 8 = .ok (.getfield 9, 3) := by decide +kernel
theorem own_d_jdk_42_method_56_code_11 : decode jdk_42_method_56_code 11 = .ok (.iload_n 1, 1) := by decide +kernel
theorem own_d_jdk_42_method_56_code_12 : decode jdk_42_method_56_code 12 = .ok (.invokestatic 495, 3) := by decide +kernel
theorem own_pd9 : parseMethodDescriptor "([BI)C" = some ⟨[(.array .byte), .int], some .char⟩ := by decide +kernel
theorem own_d_jdk_42_method_56_code_15 : decode jdk_42_method_56_code 15 = .ok (.ireturn, 1) := by decide +kernel
theorem own_d_jdk_68_method_71_code_0 : decode jdk_68_method_71_code 0 = .ok (.getstatic 18, 3) := by decide +kernel
theorem own_d_jdk_68_method_71_code_3 : decode jdk_68_method_71_code 3 = .ok (.ifCond .eq 18, 3) := by decide +kernel
theorem own_d_jdk_68_method_71_code_6 : decode jdk_68_method_71_code 6 = .ok (.aload_n 0, 1) := by decide +kernel
theorem own_d_jdk_68_method_71_code_7 : decode jdk_68_method_71_code 7 = .ok (.getfield 22, 3) := by decide +kernel
theorem own_d_jdk_68_method_71_code_10 : decode jdk_68_method_71_code 10 = .ok (.aload_n 1, 1) := by decide +kernel
theorem own_d_jdk_68_method_71_code_11 : decode jdk_68_method_71_code 11 = .ok (.invokevirtual 40, 3) := by decide +kernel
theorem own_d_jdk_68_method_71_code_14 : decode jdk_68_method_71_code 14 = .ok (.if_icmp .eq 7, 3) := by decide +kernel
theorem own_d_jdk_68_method_71_code_21 : decode jdk_68_method_71_code 21 = .ok (.return_, 1) := by decide +kernel
theorem own_d_jdk_42_method_147_code_0 : decode jdk_42_method_147_code 0 = .ok (.aload_n 0, 1) := by decide +kernel
theorem own_d_jdk_42_method_147_code_1 : decode jdk_42_method_147_code 1 = .ok (.invokevirtual 335, 3) := by decide +kernel
theorem own_d_jdk_42_method_147_code_4 : decode jdk_42_method_147_code 4 = .ok (.iload_n 3, 1) := by decide +kernel
theorem own_d_jdk_42_method_147_code_5 : decode jdk_42_method_147_code 5 = .ok (.if_icmp .ne 23, 3) := by decide +kernel
theorem own_d_jdk_42_method_147_code_8 : decode jdk_42_method_147_code 8 = .ok (.aload_n 0, 1) := by decide +kernel
theorem own_d_jdk_42_method_147_code_9 : decode jdk_42_method_147_code 9 = .ok (.getfield 9, 3) := by decide +kernel
theorem own_d_jdk_42_method_147_code_12 : decode jdk_42_method_147_code 12 = .ok (.iconst 0, 1) := by decide +kernel
theorem own_d_jdk_42_method_147_code_13 : decode jdk_42_method_147_code 13 = .ok (.aload_n 1, 1) := by decide +kernel
theorem own_d_jdk_42_method_147_code_14 : decode jdk_42_method_147_code 14 = .ok (.iload_n 2, 1) := by decide +kernel
theorem own_d_jdk_42_method_147_code_15 : decode jdk_42_method_147_code 15 = .ok (.iload_n 3, 1) := by decide +kernel
theorem own_d_jdk_42_method_147_code_16 : decode jdk_42_method_147_code 16 = .ok (.ishl, 1) := by decide +kernel
theorem own_d_jdk_42_method_147_code_17 : decode jdk_42_method_147_code 17 = .ok (.aload_n 0, 1) := by decide +kernel
theorem own_d_jdk_42_method_147_code_18 : decode jdk_42_method_147_code 18 = .ok (.getfield 9, 3) := by decide +kernel
theorem own_d_jdk_42_method_147_code_21 : decode jdk_42_method_147_code 21 = .ok (.arraylength, 1) := by decide +kernel
theorem own_d_jdk_42_method_147_code_22 : decode jdk_42_method_147_code 22 = .ok (.invokestatic 212, 3) := by decide +kernel
theorem own_d_jdk_42_method_147_code_25 : decode jdk_42_method_147_code 25 = .ok (.goto 18, 3) := by decide +kernel
theorem own_d_jdk_42_method_147_code_43 : decode jdk_42_method_147_code 43 = .ok (.return_, 1) := by decide +kernel
theorem own_d_jdk_68_method_73_code_0 : decode jdk_68_method_73_code 0 = .ok (.aload_n 0, 1) := by decide +kernel
theorem own_d_jdk_68_method_73_code_1 : decode jdk_68_method_73_code 1 = .ok (.aload_n 2, 1) := by decide +kernel
theorem own_d_jdk_68_method_73_code_2 : decode jdk_68_method_73_code 2 = .ok (.invokevirtual 397, 3) := by decide +kernel
theorem own_pd10 : parseMethodDescriptor "(Ljava/lang/String;)V" = some ⟨[(.object "java/lang/String")], none⟩ := by decide +kernel
theorem own_d_jdk_68_method_73_code_5 : decode jdk_68_method_73_code 5 = .ok (.aload_n 2, 1) := by decide +kernel
theorem own_d_jdk_68_method_73_code_6 : decode jdk_68_method_73_code 6 = .ok (.aload_n 0, 1) := by decide +kernel
theorem own_d_jdk_68_method_73_code_7 : decode jdk_68_method_73_code 7 = .ok (.getfield 15, 3) := by decide +kernel
theorem own_d_jdk_68_method_73_code_10 : decode jdk_68_method_73_code 10 = .ok (.iload_n 1, 1) := by decide +kernel
theorem own_d_jdk_68_method_73_code_11 : decode jdk_68_method_73_code 11 = .ok (.aload_n 0, 1) := by decide +kernel
theorem own_d_jdk_68_method_73_code_12 : decode jdk_68_method_73_code 12 = .ok (.getfield 22, 3) := by decide +kernel
theorem own_d_jdk_68_method_73_code_15 : decode jdk_68_method_73_code 15 = .ok (.invokevirtual 399, 3) := by decide +kernel
theorem own_pd11 : parseMethodDescriptor "([BIB)V" = some ⟨[(.array .byte), .int, .byte], none⟩ := by decide +kernel
theorem own_d_jdk_68_method_73_code_18 : decode jdk_68_method_73_code 18 = .ok (.return_, 1) := by decide +kernel
theorem own_d_jdk_68_method_22_code_0 : decode jdk_68_method_22_code 0 = .ok (.aload_n 1, 1) := by decide +kernel
theorem own_d_jdk_68_method_22_code_1 : decode jdk_68_method_22_code 1 = .ok (.ifnonnull 8, 3) := by decide +kernel
theorem own_d_jdk_68_method_22_code_9 : decode jdk_68_method_22_code 9 = .ok (.aload_n 1, 1) := by decide +kernel
theorem own_d_jdk_68_method_22_code_10 : decode jdk_68_method_22_code 10 = .ok (.invokevirtual 32, 3) := by decide +kernel
theorem own_pd12 : parseMethodDescriptor "()I" = some ⟨[], some .int⟩ := by decide +kernel
theorem own_d_jdk_68_method_22_code_13 : decode jdk_68_method_22_code 13 = .ok (.istore_n 2, 1) := by decide +kernel
theorem own_d_jdk_68_method_22_code_14 : decode jdk_68_method_22_code 14 = .ok (.aload_n 0, 1) := by decide +kernel
theorem own_d_jdk_68_method_22_code_15 : decode jdk_68_method_22_code 15 = .ok (.aload_n 0, 1) := by decide +kernel
theorem own_d_jdk_68_method_22_code_16 : decode jdk_68_method_22_code 16 = .ok (.getfield 79, 3) := by decide +kernel
theorem own_d_jdk_68_method_22_code_19 : decode jdk_68_method_22_code 19 = .ok (.iload_n 2, 1) := by decide +kernel
theorem own_d_jdk_68_method_22_code_20 : decode jdk_68_method_22_code 20 = .ok (.iadd, 1) := by decide +kernel
theorem own_d_jdk_68_method_22_code_21 : decode jdk_68_method_22_code 21 = .ok (.invokevirtual 100, 3) := by decide +kernel
theorem own_d_jdk_68_method_22_code_24 : decode jdk_68_method_22_code 24 = .ok (.aload_n 0, 1) := by decide +kernel
theorem own_d_jdk_68_method_22_code_25 : decode jdk_68_method_22_code 25 = .ok (.aload_n 0, 1) := by decide +kernel
theorem own_d_jdk_68_method_22_code_26 : decode jdk_68_method_22_code 26 = .ok (.getfield 79, 3) := by decide +kernel
theorem own_d_jdk_68_method_22_code_29 : decode jdk_68_method_22_code 29 = .ok (.aload_n 1, 1) := by decide +kernel
theorem own_d_jdk_68_method_22_code_30 : decode jdk_68_method_22_code 30 = .ok (.invokevirtual 208, 3) := by decide +kernel
theorem own_pd13 : parseMethodDescriptor "(ILjava/lang/String;)V" = some ⟨[.int, (.object "java/lang/String")], none⟩ := by decide +kernel
theorem own_d_jdk_68_method_22_code_33 : decode jdk_68_method_22_code 33 = .ok (.aload_n 0, 1) := by decide +kernel
theorem own_d_jdk_68_method_22_code_34 : decode jdk_68_method_22_code 34 = .ok (.dup, 1) := by decide +kernel
theorem own_d_jdk_68_method_22_code_35 : decode jdk_68_method_22_code 35 = .ok (.getfield 79, 3) := by decide +kernel
theorem own_d_jdk_68_method_22_code_38 : decode jdk_68_method_22_code 38 = .ok (.iload_n 2, 1) := by decide +kernel
theorem own_d_jdk_68_method_22_code_39 : decode jdk_68_method_22_code 39 = .ok (.iadd, 1) := by decide +kernel
theorem own_d_jdk_68_method_22_code_40 : decode jdk_68_method_22_code 40 = .ok (.putfield 79, 3) := by decide +kernel
theorem own_d_jdk_68_method_22_code_43 : decode jdk_68_method_22_code 43 = .ok (.aload_n 0, 1) := by decide +kernel
theorem own_d_jdk_68_method_22_code_44 : decode jdk_68_method_22_code 44 = .ok (.areturn, 1) := by decide +kernel
theorem own_d_jdk_67_method_7_code_0 : decode jdk_67_method_7_code 0 = .ok (.aload_n 0, 1) := by decide +kernel
theorem own_d_jdk_67_method_7_code_1 : decode jdk_67_method_7_code 1 = .ok (.aload_n 1, 1) := by decide +kernel
theorem own_d_jdk_67_method_7_code_2 : decode jdk_67_method_7_code 2 = .ok (.invokespecial 29, 3) := by decide +kernel
theorem own_pd14 : parseMethodDescriptor "(Ljava/lang/String;)Ljava/lang/AbstractStringBuilder;" = some ⟨[(.object "java/lang/String")], some (.object "java/lang/AbstractStringBuilder")⟩ := by decide +kernel
theorem own_d_jdk_67_method_7_code_5 : decode jdk_67_method_7_code 5 = .ok (.pop, 1) := by decide +kernel
theorem own_d_jdk_67_method_7_code_6 : decode jdk_67_method_7_code 6 = .ok (.aload_n 0, 1) := by decide +kernel
theorem own_d_jdk_67_method_7_code_7 : decode jdk_67_method_7_code 7 = .ok (.areturn, 1) := by decide +kernel
theorem own_d_jdk_65_method_131_code_0 : decode jdk_65_method_131_code 0 = .ok (.iload_n 1, 1) := by decide +kernel
theorem own_d_jdk_65_method_131_code_1 : decode jdk_65_method_131_code 1 = .ok (.iload_n 0, 1) := by decide +kernel
theorem own_d_jdk_65_method_131_code_2 : decode jdk_65_method_131_code 2 = .ok (.if_icmp .ge 35, 3) := by decide +kernel
theorem own_d_jdk_65_method_131_code_37 : decode jdk_65_method_131_code 37 = .ok (.return_, 1) := by decide +kernel
theorem own_d_jdk_65_method_133_code_0 : decode jdk_65_method_133_code 0 = .ok (.iload_n 1, 1) := by decide +kernel
theorem own_d_jdk_65_method_133_code_1 : decode jdk_65_method_133_code 1 = .ok (.iload_n 2, 1) := by decide +kernel
theorem own_d_jdk_65_method_133_code_2 : decode jdk_65_method_133_code 2 = .ok (.invokestatic 343, 3) := by decide +kernel
theorem own_d_jdk_65_method_133_code_5 : decode jdk_65_method_133_code 5 = .ok (.iload_n 2, 1) := by decide +kernel
theorem own_d_jdk_65_method_133_code_6 : decode jdk_65_method_133_code 6 = .ok (.iload_n 1, 1) := by decide +kernel
theorem own_d_jdk_65_method_133_code_7 : decode jdk_65_method_133_code 7 = .ok (.isub, 1) := by decide +kernel
theorem own_d_jdk_65_method_133_code_8 : decode jdk_65_method_133_code 8 = .ok (.istore_n 3, 1) := by decide +kernel
theorem own_d_jdk_65_method_133_code_9 : decode jdk_65_method_133_code 9 = .ok (.iload_n 3, 1) := by decide +kernel
theorem own_d_jdk_65_method_133_code_10 : decode jdk_65_method_133_code 10 = .ok (.newarray .byte, 2) := by decide +kernel
theorem own_d_jdk_65_method_133_code_12 : decode jdk_65_method_133_code 12 = .ok (.astore 4, 2) := by decide +kernel
theorem own_d_jdk_65_method_133_code_14 : decode jdk_65_method_133_code 14 = .ok (.aload_n 0, 1) := by decide +kernel
theorem own_d_jdk_65_method_133_code_15 : decode jdk_65_method_133_code 15 = .ok (.iload_n 1, 1) := by decide +kernel
theorem own_d_jdk_65_method_133_code_16 : decode jdk_65_method_133_code 16 = .ok (.aload 4, 2) := by decide +kernel
theorem own_d_jdk_65_method_133_code_18 : decode jdk_65_method_133_code 18 = .ok (.iconst 0, 1) := by decide +kernel
theorem own_d_jdk_65_method_133_code_19 : decode jdk_65_method_133_code 19 = .ok (.aload_n 0, 1) := by decide +kernel
theorem own_d_jdk_65_method_133_code_20 : decode jdk_65_method_133_code 20 = .ok (.arraylength, 1) := by decide +kernel
theorem own_d_jdk_65_method_133_code_21 : decode jdk_65_method_133_code 21 = .ok (.iload_n 1, 1) := by decide +kernel
theorem own_d_jdk_65_method_133_code_22 : decode jdk_65_method_133_code 22 = .ok (.isub, 1) := by decide +kernel
theorem own_d_jdk_65_method_133_code_23 : decode jdk_65_method_133_code 23 = .ok (.iload_n 3, 1) := by decide +kernel
theorem own_d_jdk_65_method_133_code_24 : decode jdk_65_method_133_code 24 = .ok (.invokestatic 304, 3) := by decide +kernel
theorem own_d_jdk_65_method_133_code_27 : decode jdk_65_method_133_code 27 = .ok (.invokestatic 150, 3) := by decide +kernel
theorem own_d_jdk_65_method_133_code_30 : decode jdk_65_method_133_code 30 = .ok (.aload 4, 2) := by decide +kernel
theorem own_d_jdk_65_method_133_code_32 : decode jdk_65_method_133_code 32 = .ok (.areturn, 1) := by decide +kernel
theorem own_d_jdk_65_method_132_code_0 : decode jdk_65_method_132_code 0 = .ok (.iload_n 1, 1) := by decide +kernel
theorem own_d_jdk_65_method_132_code_1 : decode jdk_65_method_132_code 1 = .ok (.ifCond .ne 9, 3) := by decide +kernel
theorem own_d_jdk_65_method_132_code_4 : decode jdk_65_method_132_code 4 = .ok (.iload_n 2, 1) := by decide +kernel
theorem own_d_jdk_65_method_132_code_5 : decode jdk_65_method_132_code 5 = .ok (.aload_n 0, 1) := by decide +kernel
theorem own_d_jdk_65_method_132_code_6 : decode jdk_65_method_132_code 6 = .ok (.arraylength, 1) := by decide +kernel
theorem own_d_jdk_65_method_132_code_7 : decode jdk_65_method_132_code 7 = .ok (.if_icmp .eq 10, 3) := by decide +kernel
theorem own_d_jdk_65_method_132_code_17 : decode jdk_65_method_132_code 17 = .ok (.aload_n 0, 1) := by decide +kernel
theorem own_d_jdk_65_method_132_code_18 : decode jdk_65_method_132_code 18 = .ok (.invokevirtual 310, 3) := by decide +kernel
theorem own_d_jdk_65_method_132_code_21 : decode jdk_65_method_132_code 21 = .ok (.checkcast 311, 3) := by decide +kernel
theorem own_d_jdk_65_method_132_code_24 : decode jdk_65_method_132_code 24 = .ok (.areturn, 1) := by decide +kernel
theorem own_d_jdk_65_method_132_code_10 : decode jdk_65_method_132_code 10 = .ok (.aload_n 0, 1) := by decide +kernel
theorem own_d_jdk_65_method_132_code_11 : decode jdk_65_method_132_code 11 = .ok (.iload_n 1, 1) := by decide +kernel
theorem own_d_jdk_65_method_132_code_12 : decode jdk_65_method_132_code 12 = .ok (.iload_n 2, 1) := by decide +kernel
theorem own_d_jdk_65_method_132_code_13 : decode jdk_65_method_132_code 13 = .ok (.invokestatic 339, 3) := by decide +kernel
theorem own_pd15 : parseMethodDescriptor "([BII)[B" = some ⟨[(.array .byte), .int, .int], some (.array .byte)⟩ := by decide +kernel
theorem own_d_jdk_65_method_132_code_16 : decode jdk_65_method_132_code 16 = .ok (.areturn, 1) := by decide +kernel
theorem own_d_jdk_68_method_64_code_0 : decode jdk_68_method_64_code 0 = .ok (.aload_n 0, 1) := by decide +kernel
theorem own_d_jdk_68_method_64_code_1 : decode jdk_68_method_64_code 1 = .ok (.getfield 15, 3) := by decide +kernel
theorem own_d_jdk_68_method_64_code_4 : decode jdk_68_method_64_code 4 = .ok (.areturn, 1) := by decide +kernel
theorem own_d_jdk_68_method_6_code_0 : decode jdk_68_method_6_code 0 = .ok (.aload_n 0, 1) := by decide +kernel
theorem own_d_jdk_68_method_6_code_1 : decode jdk_68_method_6_code 1 = .ok (.getfield 79, 3) := by decide +kernel
theorem own_d_jdk_68_method_6_code_4 : decode jdk_68_method_6_code 4 = .ok (.ireturn, 1) := by decide +kernel
theorem own_d_jdk_67_method_93_code_0 : decode jdk_67_method_93_code 0 = .ok (.aload_n 0, 1) := by decide +kernel
theorem own_d_jdk_67_method_93_code_1 : decode jdk_67_method_93_code 1 = .ok (.invokespecial 343, 3) := by decide +kernel
theorem own_d_jdk_67_method_93_code_4 : decode jdk_67_method_93_code 4 = .ok (.ireturn, 1) := by decide +kernel
theorem own_d_jdk_42_method_150_code_0 : decode jdk_42_method_150_code 0 = .ok (.aload_n 0, 1) := by decide +kernel
theorem own_d_jdk_42_method_150_code_1 : decode jdk_42_method_150_code 1 = .ok (.invokespecial 1, 3) := by decide +kernel
theorem own_d_jdk_42_method_150_code_4 : decode jdk_42_method_150_code 4 = .ok (.aload_n 1, 1) := by decide +kernel
theorem own_d_jdk_42_method_150_code_5 : decode jdk_42_method_150_code 5 = .ok (.invokevirtual 552, 3) := by decide +kernel
theorem own_pd16 : parseMethodDescriptor "()[B" = some ⟨[], some (.array .byte)⟩ := by decide +kernel
theorem own_d_jdk_42_method_150_code_8 : decode jdk_42_method_150_code 8 = .ok (.astore_n 3, 1) := by decide +kernel
theorem own_d_jdk_42_method_150_code_9 : decode jdk_42_method_150_code 9 = .ok (.aload_n 1, 1) := by decide +kernel
theorem own_d_jdk_42_method_150_code_10 : decode jdk_42_method_150_code 10 = .ok (.invokevirtual 549, 3) := by decide +kernel
theorem own_d_jdk_42_method_150_code_13 : decode jdk_42_method_150_code 13 = .ok (.istore 4, 2) := by decide +kernel
theorem own_d_jdk_42_method_150_code_15 : decode jdk_42_method_150_code 15 = .ok (.aload_n 1, 1) := by decide +kernel
theorem own_d_jdk_42_method_150_code_16 : decode jdk_42_method_150_code 16 = .ok (.invokevirtual 1047, 3) := by decide +kernel
theorem own_d_jdk_42_method_150_code_19 : decode jdk_42_method_150_code 19 = .ok (.ifCond .eq 22, 3) := by decide +kernel
theorem own_d_jdk_42_method_150_code_22 : decode jdk_42_method_150_code 22 = .ok (.aload_n 0, 1) := by decide +kernel
theorem own_d_jdk_42_method_150_code_23 : decode jdk_42_method_150_code 23 = .ok (.iconst 0, 1) := by decide +kernel
theorem own_d_jdk_42_method_150_code_24 : decode jdk_42_method_150_code 24 = .ok (.putfield 15, 3) := by decide +kernel
theorem own_d_jdk_42_method_150_code_27 : decode jdk_42_method_150_code 27 = .ok (.aload_n 0, 1) := by decide +kernel
theorem own_d_jdk_42_method_150_code_28 : decode jdk_42_method_150_code 28 = .ok (.aload_n 3, 1) := by decide +kernel
theorem own_d_jdk_42_method_150_code_29 : decode jdk_42_method_150_code 29 = .ok (.iconst 0, 1) := by decide +kernel
theorem own_d_jdk_42_method_150_code_30 : decode jdk_42_method_150_code 30 = .ok (.iload 4, 2) := by decide +kernel
theorem own_d_jdk_42_method_150_code_32 : decode jdk_42_method_150_code 32 = .ok (.invokestatic 54, 3) := by decide +kernel
theorem own_d_jdk_42_method_150_code_35 : decode jdk_42_method_150_code 35 = .ok (.putfield 9, 3) := by decide +kernel
theorem own_d_jdk_42_method_150_code_38 : decode jdk_42_method_150_code 38 = .ok (.goto 59, 3) := by decide +kernel
theorem own_d_jdk_42_method_150_code_97 : decode jdk_42_method_150_code 97 = .ok (.return_, 1) := by decide +kernel
theorem own_d_jdk_42_method_53_code_0 : decode jdk_42_method_53_code 0 = .ok (.aload_n 0, 1) := by decide +kernel
theorem own_d_jdk_42_method_53_code_1 : decode jdk_42_method_53_code 1 = .ok (.aload_n 1, 1) := by decide +kernel
theorem own_d_jdk_42_method_53_code_2 : decode jdk_42_method_53_code 2 = .ok (.aconst_null, 1) := by decide +kernel
theorem own_d_jdk_42_method_53_code_3 : decode jdk_42_method_53_code 3 = .ok (.invokespecial 489, 3) := by decide +kernel
theorem own_pd17 : parseMethodDescriptor "(Ljava/lang/AbstractStringBuilder;Ljava/lang/Void;)V" = some ⟨[(.object "java/lang/AbstractStringBuilder"), (.object "java/lang/Void")], none⟩ := by decide +kernel
theorem own_d_jdk_42_method_53_code_6 : decode jdk_42_method_53_code 6 = .ok (.return_, 1) := by decide +kernel
theorem own_d_jdk_67_method_42_code_0 : decode jdk_67_method_42_code 0 = .ok (.new 18, 3) := by decide +kernel
theorem own_d_jdk_67_method_42_code_3 : decode jdk_67_method_42_code 3 = .ok (.dup, 1) := by decide +kernel
theorem own_d_jdk_67_method_42_code_4 : decode jdk_67_method_42_code 4 = .ok (.aload_n 0, 1) := by decide +kernel
theorem own_d_jdk_67_method_42_code_5 : decode jdk_67_method_42_code 5 = .ok (.invokespecial 137, 3) := by decide +kernel
theorem own_pd18 : parseMethodDescriptor "(Ljava/lang/StringBuilder;)V" = some ⟨[(.object "java/lang/StringBuilder")], none⟩ := by decide +kernel
theorem own_d_jdk_67_method_42_code_8 : decode jdk_67_method_42_code 8 = .ok (.areturn, 1) := by decide +kernel
theorem own_d_jdk_42_method_151_code_0 : decode jdk_42_method_151_code 0 = .ok (.aload_n 0, 1) := by decide +kernel
theorem own_d_jdk_42_method_151_code_1 : decode jdk_42_method_151_code 1 = .ok (.invokespecial 1, 3) := by decide +kernel
theorem own_d_jdk_42_method_151_code_4 : decode jdk_42_method_151_code 4 = .ok (.aload_n 0, 1) := by decide +kernel
theorem own_d_jdk_42_method_151_code_5 : decode jdk_42_method_151_code 5 = .ok (.aload_n 1, 1) := by decide +kernel
theorem own_d_jdk_42_method_151_code_6 : decode jdk_42_method_151_code 6 = .ok (.putfield 9, 3) := by decide +kernel
theorem own_d_jdk_42_method_151_code_9 : decode jdk_42_method_151_code 9 = .ok (.aload_n 0, 1) := by decide +kernel
theorem own_d_jdk_42_method_151_code_10 : decode jdk_42_method_151_code 10 = .ok (.iload_n 2, 1) := by decide +kernel
theorem own_d_jdk_42_method_151_code_11 : decode jdk_42_method_151_code 11 = .ok (.putfield 15, 3) := by decide +kernel
theorem own_d_jdk_42_method_151_code_14 : decode jdk_42_method_151_code 14 = .ok (.return_, 1) := by decide +kernel
theorem own_d_jdk_35_method_12_code_0 : decode jdk_35_method_12_code 0 = .ok (.lload_n 0, 1) := by decide +kernel
theorem own_d_jdk_35_method_12_code_1 : decode jdk_35_method_12_code 1 = .ok (.invokestatic 118, 3) := by decide +kernel
theorem own_pd19 : parseMethodDescriptor "(J)I" = some ⟨[.long], some .int⟩ := by decide +kernel
theorem own_d_jdk_35_method_12_code_4 : decode jdk_35_method_12_code 4 = .ok (.istore_n 2, 1) := by decide +kernel
theorem own_d_jdk_35_method_12_code_5 : decode jdk_35_method_12_code 5 = .ok (.getstatic 13, 3) := by decide +kernel
theorem own_d_jdk_35_method_12_code_8 : decode jdk_35_method_12_code 8 = .ok (.ifCond .eq 24, 3) := by decide +kernel
theorem own_d_jdk_35_method_12_code_11 : decode jdk_35_method_12_code 11 = .ok (.iload_n 2, 1) := by decide +kernel
theorem own_d_jdk_35_method_12_code_12 : decode jdk_35_method_12_code 12 = .ok (.newarray .byte, 2) := by decide +kernel
theorem own_d_jdk_35_method_12_code_14 : decode jdk_35_method_12_code 14 = .ok (.astore_n 3, 1) := by decide +kernel
theorem own_d_jdk_35_method_12_code_15 : decode jdk_35_method_12_code 15 = .ok (.lload_n 0, 1) := by decide +kernel
theorem own_d_jdk_35_method_12_code_16 : decode jdk_35_method_12_code 16 = .ok (.iload_n 2, 1) := by decide +kernel
theorem own_d_jdk_35_method_12_code_17 : decode jdk_35_method_12_code 17 = .ok (.aload_n 3, 1) := by decide +kernel
theorem own_d_jdk_35_method_12_code_18 : decode jdk_35_method_12_code 18 = .ok (.invokestatic 121, 3) := by decide +kernel
theorem own_pd20 : parseMethodDescriptor "(JI[B)I" = some ⟨[.long, .int, (.array .byte)], some .int⟩ := by decide +kernel
theorem own_d_jdk_35_method_12_code_21 : decode jdk_35_method_12_code 21 = .ok (.pop, 1) := by decide +kernel
theorem own_d_jdk_35_method_12_code_22 : decode jdk_35_method_12_code 22 = .ok (.new 5, 3) := by decide +kernel
theorem own_d_jdk_35_method_12_code_25 : decode jdk_35_method_12_code 25 = .ok (.dup, 1) := by decide +kernel
theorem own_d_jdk_35_method_12_code_26 : decode jdk_35_method_12_code 26 = .ok (.aload_n 3, 1) := by decide +kernel
theorem own_d_jdk_35_method_12_code_27 : decode jdk_35_method_12_code 27 = .ok (.iconst 0, 1) := by decide +kernel
theorem own_d_jdk_35_method_12_code_28 : decode jdk_35_method_12_code 28 = .ok (.invokespecial 112, 3) := by decide +kernel
theorem own_pd21 : parseMethodDescriptor "([BB)V" = some ⟨[(.array .byte), .byte], none⟩ := by decide +kernel
theorem own_d_jdk_35_method_12_code_31 : decode jdk_35_method_12_code 31 = .ok (.areturn, 1) := by decide +kernel
theorem own_d_jdk_42_method_145_code_0 : decode jdk_42_method_145_code 0 = .ok (.iload_n 1, 1) := by decide +kernel
theorem own_d_jdk_42_method_145_code_1 : decode jdk_42_method_145_code 1 = .ok (.ifCond .ge 31, 3) := by decide +kernel
theorem own_d_jdk_42_method_145_code_32 : decode jdk_42_method_145_code 32 = .ok (.iload_n 1, 1) := by decide +kernel
theorem own_d_jdk_42_method_145_code_33 : decode jdk_42_method_145_code 33 = .ok (.iconst 1, 1) := by decide +kernel
theorem own_d_jdk_42_method_145_code_34 : decode jdk_42_method_145_code 34 = .ok (.if_icmp .ne 5, 3) := by decide +kernel
theorem own_d_jdk_42_method_145_code_37 : decode jdk_42_method_145_code 37 = .ok (.aload_n 0, 1) := by decide +kernel
theorem own_d_jdk_42_method_145_code_38 : decode jdk_42_method_145_code 38 = .ok (.areturn, 1) := by decide +kernel
theorem own_d_jdk_42_method_145_code_39 : decode jdk_42_method_145_code 39 = .ok (.aload_n 0, 1) := by decide +kernel
theorem own_d_jdk_42_method_145_code_40 : decode jdk_42_method_145_code 40 = .ok (.getfield 9, 3) := by decide +kernel
theorem own_d_jdk_42_method_145_code_43 : decode jdk_42_method_145_code 43 = .ok (.arraylength, 1) := by decide +kernel
theorem own_d_jdk_42_method_145_code_44 : decode jdk_42_method_145_code 44 = .ok (.istore_n 2, 1) := by decide +kernel
theorem own_d_jdk_42_method_145_code_45 : decode jdk_42_method_145_code 45 = .ok (.iload_n 2, 1) := by decide +kernel
theorem own_d_jdk_42_method_145_code_46 : decode jdk_42_method_145_code 46 = .ok (.ifCond .eq 7, 3) := by decide +kernel
theorem own_d_jdk_42_method_145_code_49 : decode jdk_42_method_145_code 49 = .ok (.iload_n 1, 1) := by decide +kernel
theorem own_d_jdk_42_method_145_code_50 : decode jdk_42_method_145_code 50 = .ok (.ifCond .ne 6, 3) := by decide +kernel
theorem own_d_jdk_42_method_145_code_53 : decode jdk_42_method_145_code 53 = .ok (.ldc 7, 2) := by decide +kernel
theorem own_in_sa : ∀ d ∈ Bundle.stringAtoms, d ∈ tables_1 := by decide +kernel
theorem own_d_jdk_42_method_145_code_55 : decode jdk_42_method_145_code 55 = .ok (.areturn, 1) := by decide +kernel
theorem own_d_jdk_42_method_145_code_56 : decode jdk_42_method_145_code 56 = .ok (.ldc_w 943, 3) := by decide +kernel
theorem own_d_jdk_42_method_145_code_59 : decode jdk_42_method_145_code 59 = .ok (.iload_n 1, 1) := by decide +kernel
theorem own_d_jdk_42_method_145_code_60 : decode jdk_42_method_145_code 60 = .ok (.idiv, 1) := by decide +kernel
theorem own_d_jdk_42_method_145_code_61 : decode jdk_42_method_145_code 61 = .ok (.iload_n 2, 1) := by decide +kernel
theorem own_d_jdk_42_method_145_code_62 : decode jdk_42_method_145_code 62 = .ok (.if_icmp .ge 14, 3) := by decide +kernel
theorem own_d_jdk_42_method_145_code_76 : decode jdk_42_method_145_code 76 = .ok (.iload_n 2, 1) := by decide +kernel
theorem own_d_jdk_42_method_145_code_77 : decode jdk_42_method_145_code 77 = .ok (.iconst 1, 1) := by decide +kernel
theorem own_d_jdk_42_method_145_code_78 : decode jdk_42_method_145_code 78 = .ok (.if_icmp .ne 30, 3) := by decide +kernel
theorem own_d_jdk_42_method_145_code_81 : decode jdk_42_method_145_code 81 = .ok (.iload_n 1, 1) := by decide +kernel
theorem own_d_jdk_42_method_145_code_82 : decode jdk_42_method_145_code 82 = .ok (.newarray .byte, 2) := by decide +kernel
theorem own_d_jdk_42_method_145_code_84 : decode jdk_42_method_145_code 84 = .ok (.astore_n 3, 1) := by decide +kernel
theorem own_d_jdk_42_method_145_code_85 : decode jdk_42_method_145_code 85 = .ok (.aload_n 3, 1) := by decide +kernel
theorem own_d_jdk_42_method_145_code_86 : decode jdk_42_method_145_code 86 = .ok (.aload_n 0, 1) := by decide +kernel
theorem own_d_jdk_42_method_145_code_87 : decode jdk_42_method_145_code 87 = .ok (.getfield 9, 3) := by decide +kernel
theorem own_d_jdk_42_method_145_code_90 : decode jdk_42_method_145_code 90 = .ok (.iconst 0, 1) := by decide +kernel
theorem own_d_jdk_42_method_145_code_91 : decode jdk_42_method_145_code 91 = .ok (.baload, 1) := by decide +kernel
theorem own_d_jdk_42_method_145_code_92 : decode jdk_42_method_145_code 92 = .ok (.invokestatic 1041, 3) := by decide +kernel
theorem own_d_jdk_42_method_145_code_95 : decode jdk_42_method_145_code 95 = .ok (.new 10, 3) := by decide +kernel
theorem own_d_jdk_42_method_145_code_98 : decode jdk_42_method_145_code 98 = .ok (.dup, 1) := by decide +kernel
theorem own_d_jdk_42_method_145_code_99 : decode jdk_42_method_145_code 99 = .ok (.aload_n 3, 1) := by decide +kernel
theorem own_d_jdk_42_method_145_code_100 : decode jdk_42_method_145_code 100 = .ok (.aload_n 0, 1) := by decide +kernel
theorem own_d_jdk_42_method_145_code_101 : decode jdk_42_method_145_code 101 = .ok (.getfield 15, 3) := by decide +kernel
theorem own_d_jdk_42_method_145_code_104 : decode jdk_42_method_145_code 104 = .ok (.invokespecial 209, 3) := by decide +kernel
theorem own_d_jdk_42_method_145_code_107 : decode jdk_42_method_145_code 107 = .ok (.areturn, 1) := by decide +kernel
theorem own_d_prog_10_method_5_code_0 : decode prog_10_method_5_code 0 = .ok (.lload_n 0, 1) := by decide +kernel
theorem own_d_prog_10_method_5_code_1 : decode prog_10_method_5_code 1 = .ok (.invokestatic 94, 3) := by decide +kernel
theorem own_pd22 : parseMethodDescriptor "(J)Ljava/lang/String;" = some ⟨[.long], some (.object "java/lang/String")⟩ := by decide +kernel
theorem own_d_prog_10_method_5_code_4 : decode prog_10_method_5_code 4 = .ok (.astore_n 3, 1) := by decide +kernel
theorem own_d_prog_10_method_5_code_5 : decode prog_10_method_5_code 5 = .ok (.new 78, 3) := by decide +kernel
theorem own_d_prog_10_method_5_code_8 : decode prog_10_method_5_code 8 = .ok (.dup, 1) := by decide +kernel
theorem own_d_prog_10_method_5_code_9 : decode prog_10_method_5_code 9 = .ok (.invokespecial 80, 3) := by decide +kernel
theorem own_pd23 : parseMethodDescriptor "()V" = some ⟨[], none⟩ := by decide +kernel
theorem own_d_prog_10_method_5_code_12 : decode prog_10_method_5_code 12 = .ok (.ldc 97, 2) := by decide +kernel
theorem own_d_prog_10_method_5_code_14 : decode prog_10_method_5_code 14 = .ok (.iconst 0, 1) := by decide +kernel
theorem own_d_prog_10_method_5_code_15 : decode prog_10_method_5_code 15 = .ok (.iload_n 2, 1) := by decide +kernel
theorem own_d_prog_10_method_5_code_16 : decode prog_10_method_5_code 16 = .ok (.aload_n 3, 1) := by decide +kernel
theorem own_d_prog_10_method_5_code_17 : decode prog_10_method_5_code 17 = .ok (.invokevirtual 99, 3) := by decide +kernel
theorem own_d_prog_10_method_5_code_20 : decode prog_10_method_5_code 20 = .ok (.isub, 1) := by decide +kernel
theorem own_d_prog_10_method_5_code_21 : decode prog_10_method_5_code 21 = .ok (.invokestatic 103, 3) := by decide +kernel
theorem own_pd24 : parseMethodDescriptor "(I)Ljava/lang/String;" = some ⟨[.int], some (.object "java/lang/String")⟩ := by decide +kernel
theorem own_d_prog_10_method_5_code_24 : decode prog_10_method_5_code 24 = .ok (.invokevirtual 109, 3) := by decide +kernel
theorem own_pd25 : parseMethodDescriptor "(Ljava/lang/String;)Ljava/lang/StringBuilder;" = some ⟨[(.object "java/lang/String")], some (.object "java/lang/StringBuilder")⟩ := by decide +kernel
theorem own_d_prog_10_method_5_code_27 : decode prog_10_method_5_code 27 = .ok (.invokevirtual 83, 3) := by decide +kernel
theorem own_d_prog_10_method_5_code_30 : decode prog_10_method_5_code 30 = .ok (.aload_n 3, 1) := by decide +kernel
theorem own_d_prog_10_method_5_code_31 : decode prog_10_method_5_code 31 = .ok (.invokevirtual 83, 3) := by decide +kernel
theorem own_d_prog_10_method_5_code_34 : decode prog_10_method_5_code 34 = .ok (.invokevirtual 91, 3) := by decide +kernel
theorem own_pd26 : parseMethodDescriptor "()Ljava/lang/String;" = some ⟨[], some (.object "java/lang/String")⟩ := by decide +kernel
theorem own_d_prog_10_method_5_code_37 : decode prog_10_method_5_code 37 = .ok (.areturn, 1) := by decide +kernel
theorem own_d_method_2_code_0 : decode method_2_code 0 = .ok (.lload_n 0, 1) := by decide +kernel
theorem own_d_method_2_code_1 : decode method_2_code 1 = .ok (.lload_n 2, 1) := by decide +kernel
theorem own_d_method_2_code_2 : decode method_2_code 2 = .ok (.lcmp, 1) := by decide +kernel
theorem own_d_method_2_code_3 : decode method_2_code 3 = .ok (.ifCond .lt 7, 3) := by decide +kernel
theorem own_d_method_2_code_10 : decode method_2_code 10 = .ok (.iconst 0, 1) := by decide +kernel
theorem own_d_method_2_code_11 : decode method_2_code 11 = .ok (.ireturn, 1) := by decide +kernel
theorem own_d_method_2_code_6 : decode method_2_code 6 = .ok (.iconst 1, 1) := by decide +kernel
theorem own_d_method_2_code_7 : decode method_2_code 7 = .ok (.goto 4, 3) := by decide +kernel
theorem own_pd27 : parseMethodDescriptor "(JJ)I" = some ⟨[.long, .long], some .int⟩ := by decide +kernel
theorem own_pd28 : parseMethodDescriptor "(JI)Ljava/lang/String;" = some ⟨[.long, .int], some (.object "java/lang/String")⟩ := by decide +kernel
theorem own_pd29 : parseMethodDescriptor "(I)C" = some ⟨[.int], some .char⟩ := by decide +kernel
theorem own_ef_own_maxN (m : MethodId) (x : Nat) (y : Nat) : entryFrame m #[(.int (Int32.ofNat x)), (.int (Int32.ofNat y))] 2 = mkF m 0 #[.val (.int (Int32.ofNat x)), .val (.int (Int32.ofNat y))] [] := by first | (simp [entryFrame, mkF, argsToLocals, own_cI, own_cJ, own_cR, own_cN]; done) | rfl
abbrev own_F_own_maxN (m : MethodId) (x : Nat) (y : Nat) : JFrame := entryFrame m #[(.int (Int32.ofNat x)), (.int (Int32.ofNat y))] 2
def Q_own_maxN (Z : State) (x : Nat) (y : Nat) (h0 : Heap) (n0 : Nat) (v : Option Value) (h : Heap) (L : List Loc) : Prop := v = some (.int (Int32.ofNat (max x y))) ∧ Fr n0 L ∧ h = h0
set_option maxRecDepth 65536 in
set_option maxHeartbeats 40000000 in
theorem own_maxN (l : Launch) (Z : State) (a0 : Array Value) (hw : ∀ d ∈ tables_1, d.before a0 Z = true) (ws : List Jvm.Cond) (x : Nat) (y : Nat) (h0 : Heap) (n0 : Nat) (O0 : Old Z n0 h0) (hxs : x ≤ 1000000) (hys : y ≤ 1000000) :
    MetFree l (⟨"java/lang/Math", "max", "(II)I"⟩ : MethodName) (head1 (Jvm.Cond.code (⟨"java/lang/Math", "max", "(II)I"⟩ : MethodName) jdk_29_method_65_code 2 (some .int) :: ws) ({ frames := 0, cells := 0, slots := 0, locals := 0 } : Room)) (fun aa_ U_ => aa_ = #[(.int (Int32.ofNat x)), (.int (Int32.ofNat y))] ∧ Z.Warmed39 U_.vm ∧ U_.heap = h0) (fun _ _ _ _ _ => True) (fun _ U_ o_ V_ => ∃ v_ L_, o_ = .returned v_ ∧ Q_own_maxN Z x y h0 n0 v_ V_.heap L_ ∧ FrameEnd U_ o_ V_ L_ ({ frames := 0, cells := 0, slots := 0, locals := 0 } : Room).cells ({ frames := 0, cells := 0, slots := 0, locals := 0 } : Room).slots) := by
  refine MetFree.of_bodySF (Jvm.Free.JP.mathPlain rfl (by decide +kernel)) hisR ?_
  intro p e s m args below meth c s₁ Bd hml0 hP hK
  obtain ⟨rfl, hZ, hh⟩ := hP
  have hx := Bd.exec
  have hby := Bd.bytes
  have hml : c.maxLocals = 2 := hml0
  have hown : s.vm.findClass "java/lang/Math" = some m.cls := findClass_of_methodNamed Bd.named
  have hnm := (name_of_methodNamed Bd.named Bd.method).1
  have X0 : Stand p l e ({ frames := 0, cells := 0, slots := 0, locals := 0 } : Room) s m #[(.int (Int32.ofNat x)), (.int (Int32.ofNat y))] below meth c s₁ [] 0 0 := Stand.of_body Bd
  have e0 : s₁.heap = h0 := by rw [← hh, Bd.state]; rfl
  have N0 := Fr.nil n0
  have K0 : Keep h0 h0 [] := Keep.refl _ _
  have r0 : GoTo p.tables e below s₁ (own_F_own_maxN m x y) s₁ (mkF m 0 #[.val (.int (Int32.ofNat x)), .val (.int (Int32.ofNat y))] []) := fun tt_ kk_ => castTop (own_ef_own_maxN m x y) kk_
  have r1 : GoTo p.tables e below s₁ (own_F_own_maxN m x y) s₁ (mkF m 2 #[.val (.int (Int32.ofNat x)), .val (.int (Int32.ofNat y))] [(.int (Int32.ofNat y)), (.int (Int32.ofNat x))]) := fun tt_ kk_ => r0 tt_ (by
      show Steps p.tables e below (s₁.setTop (mkF m 0 #[.val (.int (Int32.ofNat x)), .val (.int (Int32.ofNat y))] [])) _
      refine XS.iloadN X0.here hx rfl (hb hby own_d_jdk_29_method_65_code_0) rfl ?_
      show Steps p.tables e below (s₁.setTop (mkF m 1 #[.val (.int (Int32.ofNat x)), .val (.int (Int32.ofNat y))] [(.int (Int32.ofNat x))])) _
      refine XS.iloadN X0.here hx rfl (hb hby own_d_jdk_29_method_65_code_1) rfl ?_
      show Steps p.tables e below (s₁.setTop (mkF m 2 #[.val (.int (Int32.ofNat x)), .val (.int (Int32.ofNat y))] [(.int (Int32.ofNat y)), (.int (Int32.ofNat x))])) _
      exact kk_)
  by_cases hc2 : (Int32.ofNat x) < (Int32.ofNat y)
  · obtain ⟨fs, hr, hrun, hended, hW, hsame⟩ := X0.leave (v := some (.int (Int32.ofNat y))) (fun h => by rw [Bd.returns] at h; cases h)
    refine ⟨_, _, r1 _ ?_, hrun, hended, _, _, rfl, ?_, ⟨_, rfl⟩, hW, hsame.mono (by decide) (by decide)⟩
    · show Steps p.tables e below (s₁.setTop (mkF m 2 #[.val (.int (Int32.ofNat x)), .val (.int (Int32.ofNat y))] [(.int (Int32.ofNat y)), (.int (Int32.ofNat x))])) _
      refine XS.icmpYes X0.here hx rfl (pc0 := 2) (pc' := 9) rfl (hb hby own_d_jdk_29_method_65_code_2) rfl (tlt hc2).1 (by decide) (by decide) ?_
      show Steps p.tables e below (s₁.setTop (mkF m 9 #[.val (.int (Int32.ofNat x)), .val (.int (Int32.ofNat y))] [])) _
      refine XS.iloadN X0.here hx rfl (hb hby own_d_jdk_29_method_65_code_9) rfl ?_
      show Steps p.tables e below (s₁.setTop (mkF m 10 #[.val (.int (Int32.ofNat x)), .val (.int (Int32.ofNat y))] [(.int (Int32.ofNat y))])) _
      exact retI X0 hx Bd.returns (hb hby own_d_jdk_29_method_65_code_10) hr
    · show Q_own_maxN Z x y h0 n0 _ s₁.heap _
      rw [e0]
      exact ⟨(own_maxT ((own_ltN hxs hys).mp hc2)), N0, rfl⟩
  · obtain ⟨fs, hr, hrun, hended, hW, hsame⟩ := X0.leave (v := some (.int (Int32.ofNat x))) (fun h => by rw [Bd.returns] at h; cases h)
    refine ⟨_, _, r1 _ ?_, hrun, hended, _, _, rfl, ?_, ⟨_, rfl⟩, hW, hsame.mono (by decide) (by decide)⟩
    · show Steps p.tables e below (s₁.setTop (mkF m 2 #[.val (.int (Int32.ofNat x)), .val (.int (Int32.ofNat y))] [(.int (Int32.ofNat y)), (.int (Int32.ofNat x))])) _
      refine XS.icmpNo X0.here hx rfl (hb hby own_d_jdk_29_method_65_code_2) rfl (flt hc2).1 ?_
      show Steps p.tables e below (s₁.setTop (mkF m 5 #[.val (.int (Int32.ofNat x)), .val (.int (Int32.ofNat y))] [])) _
      refine XS.iloadN X0.here hx rfl (hb hby own_d_jdk_29_method_65_code_5) rfl ?_
      show Steps p.tables e below (s₁.setTop (mkF m 6 #[.val (.int (Int32.ofNat x)), .val (.int (Int32.ofNat y))] [(.int (Int32.ofNat x))])) _
      refine XS.goto X0.here hx rfl (pc0 := 6) (pc' := 10) rfl (hb hby own_d_jdk_29_method_65_code_6) (by decide) (by decide) ?_
      show Steps p.tables e below (s₁.setTop (mkF m 10 #[.val (.int (Int32.ofNat x)), .val (.int (Int32.ofNat y))] [(.int (Int32.ofNat x))])) _
      exact retI X0 hx Bd.returns (hb hby own_d_jdk_29_method_65_code_10) hr
    · show Q_own_maxN Z x y h0 n0 _ s₁.heap _
      rw [e0]
      exact ⟨(own_maxF (fun z => hc2 ((own_ltN hxs hys).mpr z))), N0, rfl⟩
theorem own_ef_own_minN (m : MethodId) (x : Nat) (y : Nat) : entryFrame m #[(.int (Int32.ofNat x)), (.int (Int32.ofNat y))] 2 = mkF m 0 #[.val (.int (Int32.ofNat x)), .val (.int (Int32.ofNat y))] [] := by first | (simp [entryFrame, mkF, argsToLocals, own_cI, own_cJ, own_cR, own_cN]; done) | rfl
abbrev own_F_own_minN (m : MethodId) (x : Nat) (y : Nat) : JFrame := entryFrame m #[(.int (Int32.ofNat x)), (.int (Int32.ofNat y))] 2
def Q_own_minN (Z : State) (x : Nat) (y : Nat) (h0 : Heap) (n0 : Nat) (v : Option Value) (h : Heap) (L : List Loc) : Prop := v = some (.int (Int32.ofNat (min x y))) ∧ Fr n0 L ∧ h = h0
set_option maxRecDepth 65536 in
set_option maxHeartbeats 40000000 in
theorem own_minN (l : Launch) (Z : State) (a0 : Array Value) (hw : ∀ d ∈ tables_1, d.before a0 Z = true) (ws : List Jvm.Cond) (x : Nat) (y : Nat) (h0 : Heap) (n0 : Nat) (O0 : Old Z n0 h0) (hxs : x ≤ 1000000) (hys : y ≤ 1000000) :
    MetFree l (⟨"java/lang/Math", "min", "(II)I"⟩ : MethodName) (head1 (Jvm.Cond.code (⟨"java/lang/Math", "min", "(II)I"⟩ : MethodName) jdk_29_method_69_code 2 (some .int) :: ws) ({ frames := 0, cells := 0, slots := 0, locals := 0 } : Room)) (fun aa_ U_ => aa_ = #[(.int (Int32.ofNat x)), (.int (Int32.ofNat y))] ∧ Z.Warmed39 U_.vm ∧ U_.heap = h0) (fun _ _ _ _ _ => True) (fun _ U_ o_ V_ => ∃ v_ L_, o_ = .returned v_ ∧ Q_own_minN Z x y h0 n0 v_ V_.heap L_ ∧ FrameEnd U_ o_ V_ L_ ({ frames := 0, cells := 0, slots := 0, locals := 0 } : Room).cells ({ frames := 0, cells := 0, slots := 0, locals := 0 } : Room).slots) := by
  refine MetFree.of_bodySF (Jvm.Free.JP.mathPlain rfl (by decide +kernel)) hisR ?_
  intro p e s m args below meth c s₁ Bd hml0 hP hK
  obtain ⟨rfl, hZ, hh⟩ := hP
  have hx := Bd.exec
  have hby := Bd.bytes
  have hml : c.maxLocals = 2 := hml0
  have hown : s.vm.findClass "java/lang/Math" = some m.cls := findClass_of_methodNamed Bd.named
  have hnm := (name_of_methodNamed Bd.named Bd.method).1
  have X0 : Stand p l e ({ frames := 0, cells := 0, slots := 0, locals := 0 } : Room) s m #[(.int (Int32.ofNat x)), (.int (Int32.ofNat y))] below meth c s₁ [] 0 0 := Stand.of_body Bd
  have e0 : s₁.heap = h0 := by rw [← hh, Bd.state]; rfl
  have N0 := Fr.nil n0
  have K0 : Keep h0 h0 [] := Keep.refl _ _
  have r0 : GoTo p.tables e below s₁ (own_F_own_minN m x y) s₁ (mkF m 0 #[.val (.int (Int32.ofNat x)), .val (.int (Int32.ofNat y))] []) := fun tt_ kk_ => castTop (own_ef_own_minN m x y) kk_
  have r1 : GoTo p.tables e below s₁ (own_F_own_minN m x y) s₁ (mkF m 2 #[.val (.int (Int32.ofNat x)), .val (.int (Int32.ofNat y))] [(.int (Int32.ofNat y)), (.int (Int32.ofNat x))]) := fun tt_ kk_ => r0 tt_ (by
      show Steps p.tables e below (s₁.setTop (mkF m 0 #[.val (.int (Int32.ofNat x)), .val (.int (Int32.ofNat y))] [])) _
      refine XS.iloadN X0.here hx rfl (hb hby own_d_jdk_29_method_69_code_0) rfl ?_
      show Steps p.tables e below (s₁.setTop (mkF m 1 #[.val (.int (Int32.ofNat x)), .val (.int (Int32.ofNat y))] [(.int (Int32.ofNat x))])) _
      refine XS.iloadN X0.here hx rfl (hb hby own_d_jdk_29_method_69_code_1) rfl ?_
      show Steps p.tables e below (s₁.setTop (mkF m 2 #[.val (.int (Int32.ofNat x)), .val (.int (Int32.ofNat y))] [(.int (Int32.ofNat y)), (.int (Int32.ofNat x))])) _
      exact kk_)
  by_cases hc2 : (Int32.ofNat y) < (Int32.ofNat x)
  · obtain ⟨fs, hr, hrun, hended, hW, hsame⟩ := X0.leave (v := some (.int (Int32.ofNat y))) (fun h => by rw [Bd.returns] at h; cases h)
    refine ⟨_, _, r1 _ ?_, hrun, hended, _, _, rfl, ?_, ⟨_, rfl⟩, hW, hsame.mono (by decide) (by decide)⟩
    · show Steps p.tables e below (s₁.setTop (mkF m 2 #[.val (.int (Int32.ofNat x)), .val (.int (Int32.ofNat y))] [(.int (Int32.ofNat y)), (.int (Int32.ofNat x))])) _
      refine XS.icmpYes X0.here hx rfl (pc0 := 2) (pc' := 9) rfl (hb hby own_d_jdk_29_method_69_code_2) rfl (tlt hc2).2.2.1 (by decide) (by decide) ?_
      show Steps p.tables e below (s₁.setTop (mkF m 9 #[.val (.int (Int32.ofNat x)), .val (.int (Int32.ofNat y))] [])) _
      refine XS.iloadN X0.here hx rfl (hb hby own_d_jdk_29_method_69_code_9) rfl ?_
      show Steps p.tables e below (s₁.setTop (mkF m 10 #[.val (.int (Int32.ofNat x)), .val (.int (Int32.ofNat y))] [(.int (Int32.ofNat y))])) _
      exact retI X0 hx Bd.returns (hb hby own_d_jdk_29_method_69_code_10) hr
    · show Q_own_minN Z x y h0 n0 _ s₁.heap _
      rw [e0]
      exact ⟨(own_minT ((own_ltN hys hxs).mp hc2)), N0, rfl⟩
  · obtain ⟨fs, hr, hrun, hended, hW, hsame⟩ := X0.leave (v := some (.int (Int32.ofNat x))) (fun h => by rw [Bd.returns] at h; cases h)
    refine ⟨_, _, r1 _ ?_, hrun, hended, _, _, rfl, ?_, ⟨_, rfl⟩, hW, hsame.mono (by decide) (by decide)⟩
    · show Steps p.tables e below (s₁.setTop (mkF m 2 #[.val (.int (Int32.ofNat x)), .val (.int (Int32.ofNat y))] [(.int (Int32.ofNat y)), (.int (Int32.ofNat x))])) _
      refine XS.icmpNo X0.here hx rfl (hb hby own_d_jdk_29_method_69_code_2) rfl (flt hc2).2.2.1 ?_
      show Steps p.tables e below (s₁.setTop (mkF m 5 #[.val (.int (Int32.ofNat x)), .val (.int (Int32.ofNat y))] [])) _
      refine XS.iloadN X0.here hx rfl (hb hby own_d_jdk_29_method_69_code_5) rfl ?_
      show Steps p.tables e below (s₁.setTop (mkF m 6 #[.val (.int (Int32.ofNat x)), .val (.int (Int32.ofNat y))] [(.int (Int32.ofNat x))])) _
      refine XS.goto X0.here hx rfl (pc0 := 6) (pc' := 10) rfl (hb hby own_d_jdk_29_method_69_code_6) (by decide) (by decide) ?_
      show Steps p.tables e below (s₁.setTop (mkF m 10 #[.val (.int (Int32.ofNat x)), .val (.int (Int32.ofNat y))] [(.int (Int32.ofNat x))])) _
      exact retI X0 hx Bd.returns (hb hby own_d_jdk_29_method_69_code_10) hr
    · show Q_own_minN Z x y h0 n0 _ s₁.heap _
      rw [e0]
      exact ⟨(own_minF (fun z => hc2 ((own_ltN hys hxs).mpr z))), N0, rfl⟩
theorem own_pn_own_asbinit : plainName "java/lang/AbstractStringBuilder" = true := by first | (simp [plainName, overriddenIn]; done) | decide +kernel
theorem own_ef_own_asbinit (m : MethodId) (b : Addr) : entryFrame m #[(.ref b), (.int (16 : Int32))] 2 = mkF m 0 #[.val (.ref b), .val (.int (16 : Int32))] [] := by first | (simp [entryFrame, mkF, argsToLocals, own_cI, own_cJ, own_cR, own_cN]; done) | rfl
abbrev own_F_own_asbinit (m : MethodId) (b : Addr) : JFrame := entryFrame m #[(.ref b), (.int (16 : Int32))] 2
def Q_own_asbinit (Z : State) (b : Addr) (gCS : Int32) (h0 : Heap) (n0 : Nat) (v : Option Value) (h : Heap) (L : List Loc) : Prop := ∃ (d : Addr), ∃ (kd : ClassId), v = none ∧ Fr n0 L ∧ Keep h0 h [b] ∧ (h0.size ≤ d) ∧ (n0 ≤ d) ∧ (own_SB Z h b d kd 16 ([] : List Int32))
set_option maxRecDepth 65536 in
set_option maxHeartbeats 40000000 in
theorem own_asbinit (l : Launch) (Z : State) (a0 : Array Value) (hw : ∀ d ∈ tables_1, d.before a0 Z = true) (ws : List Jvm.Cond) (b : Addr) (gCS : Int32) (h0 : Heap) (n0 : Nat) (O0 : Old Z n0 h0) (hp0 : Exa Z h0 b "java/lang/StringBuilder") (hp1 : n0 ≤ b) (hp2 : Fld Z h0 b "java/lang/AbstractStringBuilder" "value" "[B" .null) (hp3 : Fld Z h0 b "java/lang/AbstractStringBuilder" "coder" "B" (.int (0 : Int32))) (hp4 : Fld Z h0 b "java/lang/AbstractStringBuilder" "count" "I" (.int (0 : Int32))) (hp5 : Sta Z Z.heap "java/lang/String" "COMPACT_STRINGS" "Z" (.int gCS)) (hG1 : ¬ gCS = (0 : Int32)) :
    MetFree l (⟨"java/lang/AbstractStringBuilder", "<init>", "(I)V"⟩ : MethodName) (head1 (Jvm.Cond.code (⟨"java/lang/AbstractStringBuilder", "<init>", "(I)V"⟩ : MethodName) jdk_68_method_2_code 2 none :: ws) ({ frames := 1, cells := 1, slots := 16, locals := 12 } : Room)) (fun aa_ U_ => aa_ = #[(.ref b), (.int (16 : Int32))] ∧ Z.Warmed39 U_.vm ∧ U_.heap = h0) (fun _ _ _ _ _ => True) (fun _ U_ o_ V_ => ∃ v_ L_, o_ = .returned v_ ∧ Q_own_asbinit Z b gCS h0 n0 v_ V_.heap L_ ∧ FrameEnd U_ o_ V_ L_ ({ frames := 1, cells := 1, slots := 16, locals := 12 } : Room).cells ({ frames := 1, cells := 1, slots := 16, locals := 12 } : Room).slots) := by
  refine MetFree.of_bodySF (plainFor_of_name own_pn_own_asbinit) hisR ?_
  intro p e s m args below meth c s₁ Bd hml0 hP hK
  obtain ⟨rfl, hZ, hh⟩ := hP
  have hx := Bd.exec
  have hby := Bd.bytes
  have hml : c.maxLocals = 2 := hml0
  have hown : s.vm.findClass "java/lang/AbstractStringBuilder" = some m.cls := findClass_of_methodNamed Bd.named
  have hnm := (name_of_methodNamed Bd.named Bd.method).1
  have X0 : Stand p l e ({ frames := 1, cells := 1, slots := 16, locals := 12 } : Room) s m #[(.ref b), (.int (16 : Int32))] below meth c s₁ [] 0 0 := Stand.of_body Bd
  have e0 : s₁.heap = h0 := by rw [← hh, Bd.state]; rfl
  have N0 := Fr.nil n0
  have K0 : Keep h0 h0 [b] := Keep.refl _ _
  have r0 : GoTo p.tables e below s₁ (own_F_own_asbinit m b) s₁ (mkF m 0 #[.val (.ref b), .val (.int (16 : Int32))] []) := fun tt_ kk_ => castTop (own_ef_own_asbinit m b) kk_
  obtain ⟨T1, X1, e1, st1⟩ := initO X0 hx hZ hown (hw _ (List.mem_of_getElem? (i := 74) rfl)) (hw _ (List.mem_of_getElem? (i := 56) rfl)) (hw _ (List.mem_of_getElem? (i := 57) rfl)) e0 (g := (mkF m 1 #[.val (.ref b), .val (.int (16 : Int32))] [(.ref b)])) rfl (by rw [hml]; rfl) rfl (hb hby own_d_jdk_68_method_2_code_1) (by decide) (W := 0) (by show 2 * 0 + _ ≤ _; exact Nat.le_of_eq rfl) (by decide)
  obtain ⟨T2, X2, e2, st2⟩ := getS2 X1 hx hZ hown (host := "") (Or.inl (hw _ (List.mem_of_getElem? (i := 75) rfl))) Via.refl e1 (hp5.ext (O0.keep K0 (allS hp1 all0)).2) (g := (mkF m 4 #[.val (.ref b), .val (.int (16 : Int32))] [])) rfl (hb hby own_d_jdk_68_method_2_code_4)
  obtain ⟨T3, h3, k3, X3, e3, E3, A3, Ex3, st3⟩ := newPE X2 hx hZ (hw _ (List.mem_of_getElem? (i := 42) rfl)) e2 (g := (mkF m 12 #[.val (.ref b), .val (.int (16 : Int32))] [(.int (16 : Int32)), (.ref b)])) rfl (hb hby own_d_jdk_68_method_2_code_12) rfl (by decide) (cap := 16) (by decide) (by decide) (by decide) (by decide) (ad := "[B") (by decide)
  obtain ⟨b3, gg3⟩ : ∃ z, z = h0.size := ⟨_, rfl⟩
  rw [← gg3] at A3 Ex3 st3
  have ne4 : b ≠ b3 := Nat.ne_of_lt (Nat.lt_of_lt_of_le hp0.lt (Nat.le_of_eq gg3.symm))
  have g5 : n0 ≤ b3 := Nat.le_trans (Nat.le_trans (own_le O0) K0.1) (Nat.le_of_eq gg3.symm)
  have b6 : h0.size ≤ b3 := Nat.le_trans K0.1 (Nat.le_of_eq gg3.symm)
  have K7 : Keep h0 h3 [b] := K0.ext E3
  have V3 : Arv Z h3 b3 k3 .byte (16 : Int32) [] (.int (0 : Int32)) := Arv.new A3 (by decide)
  have f8 : Fld Z h3 b "java/lang/AbstractStringBuilder" "value" "[B" .null := (hp2.ext E3)
  have f9 : Exa Z h3 b "java/lang/StringBuilder" := (hp0.ext E3)
  obtain ⟨T10, h10, X10, e10, W10, st10⟩ := putF X3 hx hZ hown (host := "") (Or.inl (hw _ (List.mem_of_getElem? (i := 76) rfl))) Via.refl e3 f8 f9 (Or.inl (hw _ (List.mem_of_getElem? (i := 77) rfl))) (hw _ (List.mem_of_getElem? (i := 63) rfl)) (ty := (.array .byte)) (by decide) rfl rfl (g := (mkF m 14 #[.val (.ref b), .val (.int (16 : Int32))] [(.ref b3), (.ref b)])) rfl rfl (hb hby own_d_jdk_68_method_2_code_14)
  have K11 : Keep h0 h10 [b] := K7.wr W10 (Or.inl (List.mem_of_getElem? (i := 0) rfl))
  have Fw10 : Fld Z h10 b "java/lang/AbstractStringBuilder" "value" "[B" (.ref b3) := f8.same W10
  have N10 := Fr.snoc X10 N0 hp1
  have f12 : Fld Z h10 b "java/lang/AbstractStringBuilder" "coder" "B" (.int (0 : Int32)) := ((hp3.ext E3).other W10 (Or.inr (Jvm.RoadKit.slot_ne (Or.inl (hw _ (List.mem_of_getElem? (i := 79) rfl))) (Or.inl (hw _ (List.mem_of_getElem? (i := 77) rfl))) (by decide) (t := .byte) (t' := (.array .byte)) (by decide) (by decide))))
  have f13 : Exa Z h10 b "java/lang/StringBuilder" := (f9.wr W10)
  obtain ⟨T14, h14, X14, e14, W14, st14⟩ := putFN X10 hx hZ hown (hw _ (List.mem_of_getElem? (i := 78) rfl)) Via.refl e10 f12 f13 (Or.inl (hw _ (List.mem_of_getElem? (i := 79) rfl))) (hw _ (List.mem_of_getElem? (i := 63) rfl)) (ty := .byte) (v' := (.int (nar .byte (0 : Int32)))) (by decide) rfl (fits_nar_byte _) (g := (mkF m 19 #[.val (.ref b), .val (.int (16 : Int32))] [(.int (0 : Int32)), (.ref b)])) rfl rfl (hb hby own_d_jdk_68_method_2_code_19)
  have K15 : Keep h0 h14 [b] := K11.wr W14 (Or.inl (List.mem_of_getElem? (i := 0) rfl))
  have Fw14 : Fld Z h14 b "java/lang/AbstractStringBuilder" "coder" "B" (.int (nar .byte (0 : Int32))) := f12.same W14
  have N14 := Fr.snoc X14 N10 hp1
  have f16 : Fld Z h14 b "java/lang/AbstractStringBuilder" "coder" "B" (.int (0 : Int32)) := by rw [show (nar .byte (0 : Int32)) = (0 : Int32) from (by decide)] at Fw14; exact Fw14
  have f17 : Arv Z h14 b3 k3 .byte (16 : Int32) [] (.int (0 : Int32)) := ((V3.other W10 (Ne.symm ne4)).other W14 (Ne.symm ne4))
  have f18 : Exa Z h14 b "java/lang/StringBuilder" := (f13.wr W14)
  have f19 : Fld Z h14 b "java/lang/AbstractStringBuilder" "value" "[B" (.ref b3) := (Fw10.other W14 (Or.inr (Jvm.RoadKit.slot_ne (Or.inl (hw _ (List.mem_of_getElem? (i := 77) rfl))) (Or.inl (hw _ (List.mem_of_getElem? (i := 79) rfl))) (by decide) (t := (.array .byte)) (t' := .byte) (by decide) (by decide))))
  have f20 : Fld Z h14 b "java/lang/AbstractStringBuilder" "count" "I" (.int (0 : Int32)) := (((hp4.ext E3).other W10 (Or.inr (Jvm.RoadKit.slot_ne (Or.inl (hw _ (List.mem_of_getElem? (i := 112) rfl))) (Or.inl (hw _ (List.mem_of_getElem? (i := 77) rfl))) (by decide) (t := .int) (t' := (.array .byte)) (by decide) (by decide)))).other W14 (Or.inr (Jvm.RoadKit.slot_ne (Or.inl (hw _ (List.mem_of_getElem? (i := 112) rfl))) (Or.inl (hw _ (List.mem_of_getElem? (i := 79) rfl))) (by decide) (t := .int) (t' := .byte) (by decide) (by decide))))
  have f21 : Exa Z h14 b3 "[B" := ((Ex3.wr W10).wr W14)
  obtain ⟨fs, hr, hrun, hended, hW, hsame⟩ := X14.leave (v := none) (fun _ => rfl)
  refine ⟨_, _, r0 _ ?_, hrun, hended, _, _, rfl, ?_, ⟨_, rfl⟩, hW, hsame.mono (by decide) (by decide)⟩
  · show Steps p.tables e below (s₁.setTop (mkF m 0 #[.val (.ref b), .val (.int (16 : Int32))] [])) _
    refine XS.aloadN X0.here hx rfl (hb hby own_d_jdk_68_method_2_code_0) rfl rfl ?_
    show Steps p.tables e below (s₁.setTop (mkF m 1 #[.val (.ref b), .val (.int (16 : Int32))] [(.ref b)])) _
    refine st1 _ ?_
    show Steps p.tables e below (T1.setTop (mkF m 4 #[.val (.ref b), .val (.int (16 : Int32))] [])) _
    refine st2 _ ?_
    show Steps p.tables e below (T2.setTop (mkF m 7 #[.val (.ref b), .val (.int (16 : Int32))] [(.int gCS)])) _
    refine XS.ifNo X2.here hx rfl (hb hby own_d_jdk_68_method_2_code_7) rfl ((if0 _ _).trans (feq hG1).1) ?_
    show Steps p.tables e below (T2.setTop (mkF m 10 #[.val (.ref b), .val (.int (16 : Int32))] [])) _
    refine XS.aloadN X2.here hx rfl (hb hby own_d_jdk_68_method_2_code_10) rfl rfl ?_
    show Steps p.tables e below (T2.setTop (mkF m 11 #[.val (.ref b), .val (.int (16 : Int32))] [(.ref b)])) _
    refine XS.iloadN X2.here hx rfl (hb hby own_d_jdk_68_method_2_code_11) rfl ?_
    show Steps p.tables e below (T2.setTop (mkF m 12 #[.val (.ref b), .val (.int (16 : Int32))] [(.int (16 : Int32)), (.ref b)])) _
    refine st3 _ ?_
    show Steps p.tables e below (T3.setTop (mkF m 14 #[.val (.ref b), .val (.int (16 : Int32))] [(.ref b3), (.ref b)])) _
    refine st10 _ ?_
    show Steps p.tables e below (T10.setTop (mkF m 17 #[.val (.ref b), .val (.int (16 : Int32))] [])) _
    refine XS.aloadN X10.here hx rfl (hb hby own_d_jdk_68_method_2_code_17) rfl rfl ?_
    show Steps p.tables e below (T10.setTop (mkF m 18 #[.val (.ref b), .val (.int (16 : Int32))] [(.ref b)])) _
    refine XS.iconst X10.here hx rfl (hb hby own_d_jdk_68_method_2_code_18) ?_
    show Steps p.tables e below (T10.setTop (mkF m 19 #[.val (.ref b), .val (.int (16 : Int32))] [(.int (0 : Int32)), (.ref b)])) _
    refine st14 _ ?_
    show Steps p.tables e below (T14.setTop (mkF m 22 #[.val (.ref b), .val (.int (16 : Int32))] [])) _
    refine XS.goto X14.here hx rfl (pc0 := 22) (pc' := 38) rfl (hb hby own_d_jdk_68_method_2_code_22) (by decide) (by decide) ?_
    show Steps p.tables e below (T14.setTop (mkF m 38 #[.val (.ref b), .val (.int (16 : Int32))] [])) _
    exact X14.returnOut hx Bd.returns (hb hby own_d_jdk_68_method_2_code_38) hr
  · show Q_own_asbinit Z b gCS h0 n0 _ T14.heap _
    rw [e14]
    exact ⟨b3, k3, rfl, N14, K15, b6, g5, ⟨f18, f19, f16, f20, own_By.new f21 (by decide) f17, fun _ q => nomatch q⟩⟩
theorem own_pn_own_sbinit : plainName "java/lang/StringBuilder" = true := by first | (simp [plainName, overriddenIn]; done) | decide +kernel
theorem own_ef_own_sbinit (m : MethodId) (b : Addr) : entryFrame m #[(.ref b)] 1 = mkF m 0 #[.val (.ref b)] [] := by first | (simp [entryFrame, mkF, argsToLocals, own_cI, own_cJ, own_cR, own_cN]; done) | rfl
abbrev own_F_own_sbinit (m : MethodId) (b : Addr) : JFrame := entryFrame m #[(.ref b)] 1
def Q_own_sbinit (Z : State) (b : Addr) (gCS : Int32) (h0 : Heap) (n0 : Nat) (v : Option Value) (h : Heap) (L : List Loc) : Prop := ∃ (d : Addr), ∃ (kd : ClassId), v = none ∧ Fr n0 L ∧ Keep h0 h [b] ∧ (h0.size ≤ d) ∧ (n0 ≤ d) ∧ (own_SB Z h b d kd 16 ([] : List Int32))
set_option maxRecDepth 65536 in
set_option maxHeartbeats 40000000 in
theorem own_sbinit (l : Launch) (Z : State) (a0 : Array Value) (hw : ∀ d ∈ tables_1, d.before a0 Z = true) (ws : List Jvm.Cond) (b : Addr) (gCS : Int32) (h0 : Heap) (n0 : Nat) (O0 : Old Z n0 h0) (hp0 : Exa Z h0 b "java/lang/StringBuilder") (hp1 : n0 ≤ b) (hp2 : Fld Z h0 b "java/lang/AbstractStringBuilder" "value" "[B" .null) (hp3 : Fld Z h0 b "java/lang/AbstractStringBuilder" "coder" "B" (.int (0 : Int32))) (hp4 : Fld Z h0 b "java/lang/AbstractStringBuilder" "count" "I" (.int (0 : Int32))) (hp5 : Sta Z Z.heap "java/lang/String" "COMPACT_STRINGS" "Z" (.int gCS)) (hG1 : ¬ gCS = (0 : Int32)) :
    MetFree l (⟨"java/lang/StringBuilder", "<init>", "()V"⟩ : MethodName) (head1 (Jvm.Cond.code (⟨"java/lang/StringBuilder", "<init>", "()V"⟩ : MethodName) jdk_67_method_1_code 1 none :: ws) ({ frames := 2, cells := 1, slots := 16, locals := 25 } : Room)) (fun aa_ U_ => aa_ = #[(.ref b)] ∧ Z.Warmed39 U_.vm ∧ U_.heap = h0) (fun _ _ _ _ _ => True) (fun _ U_ o_ V_ => ∃ v_ L_, o_ = .returned v_ ∧ Q_own_sbinit Z b gCS h0 n0 v_ V_.heap L_ ∧ FrameEnd U_ o_ V_ L_ ({ frames := 2, cells := 1, slots := 16, locals := 25 } : Room).cells ({ frames := 2, cells := 1, slots := 16, locals := 25 } : Room).slots) := by
  refine MetFree.of_bodySF (plainFor_of_name own_pn_own_sbinit) hisR ?_
  intro p e s m args below meth c s₁ Bd hml0 hP hK
  obtain ⟨rfl, hZ, hh⟩ := hP
  have hx := Bd.exec
  have hby := Bd.bytes
  have hml : c.maxLocals = 1 := hml0
  have hown : s.vm.findClass "java/lang/StringBuilder" = some m.cls := findClass_of_methodNamed Bd.named
  have hnm := (name_of_methodNamed Bd.named Bd.method).1
  have X0 : Stand p l e ({ frames := 2, cells := 1, slots := 16, locals := 25 } : Room) s m #[(.ref b)] below meth c s₁ [] 0 0 := Stand.of_body Bd
  have e0 : s₁.heap = h0 := by rw [← hh, Bd.state]; rfl
  have N0 := Fr.nil n0
  have K0 : Keep h0 h0 [b] := Keep.refl _ _
  have r0 : GoTo p.tables e below s₁ (own_F_own_sbinit m b) s₁ (mkF m 0 #[.val (.ref b)] []) := fun tt_ kk_ => castTop (own_ef_own_sbinit m b) kk_
  obtain ⟨_, _, ⟨T1, L1, k1, n1⟩, -, X1, ⟨Lc1, hQ1, l1, y1, z1⟩, st1⟩ := X0.specialBack hx (y := (⟨"java/lang/AbstractStringBuilder", "<init>", "(I)V"⟩ : MethodName)) rfl hown (mvT hZ (hw _ (List.mem_of_getElem? (i := 68) rfl))) (mvT hZ (hw _ (List.mem_of_getElem? (i := 69) rfl))) (mvT hZ (hw _ (List.mem_of_getElem? (i := 73) rfl))) (by decide) (backOf (W := 0) (own_asbinit l Z a0 hw [] (b) (gCS) h0 n0 (O0.keep K0 (allS hp1 all0)) (hp0) (hp1) (hp2) (hp3) (hp4) (hp5) (hG1)) hZ (hw _ (List.mem_of_getElem? (i := 73) rfl)) (hw _ (List.mem_of_getElem? (i := 72) rfl)) (by decide) (by decide)) (g := (mkF m 3 #[.val (.ref b)] [(.int (16 : Int32)), (.ref b)])) rfl (by rw [hml]; rfl) (Steps.refl _) (a := b) (argsL := [(.int (16 : Int32))]) (rest := []) (lenOf own_pd0 rfl) rfl (by show 2 * 0 + _ ≤ _; exact Nat.le_of_eq rfl) (hb hby own_d_jdk_67_method_1_code_3) (fun _ _ => ⟨rfl, e0, (by decide : 0 + 1 ≤ _), (by decide : 0 + 16 ≤ _)⟩)
  dsimp only [Pt.U, Pt.locs, Pt.cells, Pt.slots] at X1 l1 y1 z1 st1 hQ1
  subst l1 y1 z1
  obtain ⟨d_1, kd_1, rfl, Nq1, Kq1, po1_0, po1_1, po1_2⟩ := hQ1
  have N1 := Fr.app N0 Nq1
  have ne2 : b ≠ d_1 := Nat.ne_of_lt (Nat.lt_of_lt_of_le hp0.lt po1_0)
  have g3 : n0 ≤ d_1 := Nat.le_trans (Nat.le_trans (own_le O0) K0.1) po1_0
  have b4 : h0.size ≤ d_1 := Nat.le_trans K0.1 po1_0
  have K5 : Keep h0 T1.heap [b] := K0.trans Kq1 (allS (Or.inl (List.mem_of_getElem? (i := 0) rfl)) all0)
  obtain ⟨fs, hr, hrun, hended, hW, hsame⟩ := X1.leave (v := none) (fun _ => rfl)
  refine ⟨_, _, r0 _ ?_, hrun, hended, _, _, rfl, ?_, ⟨_, rfl⟩, hW, hsame.mono (by decide) (by decide)⟩
  · show Steps p.tables e below (s₁.setTop (mkF m 0 #[.val (.ref b)] [])) _
    refine XS.aloadN X0.here hx rfl (hb hby own_d_jdk_67_method_1_code_0) rfl rfl ?_
    show Steps p.tables e below (s₁.setTop (mkF m 1 #[.val (.ref b)] [(.ref b)])) _
    refine XS.bipush X0.here hx rfl (hb hby own_d_jdk_67_method_1_code_1) ?_
    show Steps p.tables e below (s₁.setTop (mkF m 3 #[.val (.ref b)] [(.int (16 : Int32)), (.ref b)])) _
    refine st1.trans ?_
    show Steps p.tables e below (T1.setTop (mkF m 6 #[.val (.ref b)] [])) _
    exact X1.returnOut hx Bd.returns (hb hby own_d_jdk_67_method_1_code_6) hr
  · show Q_own_sbinit Z b gCS h0 n0 _ T1.heap _
    exact ⟨d_1, kd_1, rfl, N1, K5, b4, po1_1, po1_2⟩
theorem own_pn_own_isL : plainName "java/lang/AbstractStringBuilder" = true := by first | (simp [plainName, overriddenIn]; done) | decide +kernel
theorem own_ef_own_isL (m : MethodId) (b : Addr) : entryFrame m #[(.ref b)] 1 = mkF m 0 #[.val (.ref b)] [] := by first | (simp [entryFrame, mkF, argsToLocals, own_cI, own_cJ, own_cR, own_cN]; done) | rfl
abbrev own_F_own_isL (m : MethodId) (b : Addr) : JFrame := entryFrame m #[(.ref b)] 1
def Q_own_isL (Z : State) (b : Addr) (gCS : Int32) (h0 : Heap) (n0 : Nat) (v : Option Value) (h : Heap) (L : List Loc) : Prop := v = some (.int (1 : Int32)) ∧ Fr n0 L ∧ h = h0
set_option maxRecDepth 65536 in
set_option maxHeartbeats 40000000 in
theorem own_isL (l : Launch) (Z : State) (a0 : Array Value) (hw : ∀ d ∈ tables_1, d.before a0 Z = true) (ws : List Jvm.Cond) (b : Addr) (gCS : Int32) (h0 : Heap) (n0 : Nat) (O0 : Old Z n0 h0) (hp0 : Fld Z h0 b "java/lang/AbstractStringBuilder" "coder" "B" (.int (0 : Int32))) (hp1 : Sta Z Z.heap "java/lang/String" "COMPACT_STRINGS" "Z" (.int gCS)) (hG1 : ¬ gCS = (0 : Int32)) :
    MetFree l (⟨"java/lang/AbstractStringBuilder", "isLatin1", "()Z"⟩ : MethodName) (head1 (Jvm.Cond.code (⟨"java/lang/AbstractStringBuilder", "isLatin1", "()Z"⟩ : MethodName) jdk_68_method_68_code 1 (some .boolean) :: ws) ({ frames := 0, cells := 0, slots := 0, locals := 0 } : Room)) (fun aa_ U_ => aa_ = #[(.ref b)] ∧ Z.Warmed39 U_.vm ∧ U_.heap = h0) (fun _ _ _ _ _ => True) (fun _ U_ o_ V_ => ∃ v_ L_, o_ = .returned v_ ∧ Q_own_isL Z b gCS h0 n0 v_ V_.heap L_ ∧ FrameEnd U_ o_ V_ L_ ({ frames := 0, cells := 0, slots := 0, locals := 0 } : Room).cells ({ frames := 0, cells := 0, slots := 0, locals := 0 } : Room).slots) := by
  refine MetFree.of_bodySF (plainFor_of_name own_pn_own_isL) hisR ?_
  intro p e s m args below meth c s₁ Bd hml0 hP hK
  obtain ⟨rfl, hZ, hh⟩ := hP
  have hx := Bd.exec
  have hby := Bd.bytes
  have hml : c.maxLocals = 1 := hml0
  have hown : s.vm.findClass "java/lang/AbstractStringBuilder" = some m.cls := findClass_of_methodNamed Bd.named
  have hnm := (name_of_methodNamed Bd.named Bd.method).1
  have X0 : Stand p l e ({ frames := 0, cells := 0, slots := 0, locals := 0 } : Room) s m #[(.ref b)] below meth c s₁ [] 0 0 := Stand.of_body Bd
  have e0 : s₁.heap = h0 := by rw [← hh, Bd.state]; rfl
  have N0 := Fr.nil n0
  have K0 : Keep h0 h0 [] := Keep.refl _ _
  have r0 : GoTo p.tables e below s₁ (own_F_own_isL m b) s₁ (mkF m 0 #[.val (.ref b)] []) := fun tt_ kk_ => castTop (own_ef_own_isL m b) kk_
  obtain ⟨T1, X1, e1, st1⟩ := getS2 X0 hx hZ hown (host := "") (Or.inl (hw _ (List.mem_of_getElem? (i := 75) rfl))) Via.refl e0 (hp1.ext (O0.keep K0 all0).2) (g := (mkF m 0 #[.val (.ref b)] [])) rfl (hb hby own_d_jdk_68_method_68_code_0)
  obtain ⟨T2, X2, e2, st2⟩ := getF X1 hx hZ hown (host := "") (Or.inl (hw _ (List.mem_of_getElem? (i := 78) rfl))) Via.refl e1 hp0 (g := (mkF m 7 #[.val (.ref b)] [(.ref b)])) rfl rfl (hb hby own_d_jdk_68_method_68_code_7)
  obtain ⟨fs, hr, hrun, hended, hW, hsame⟩ := X2.leave (v := some (.int (nar .boolean (1 : Int32)))) (fun h => by rw [Bd.returns] at h; cases h)
  refine ⟨_, _, r0 _ ?_, hrun, hended, _, _, rfl, ?_, ⟨_, rfl⟩, hW, hsame.mono (by decide) (by decide)⟩
  · show Steps p.tables e below (s₁.setTop (mkF m 0 #[.val (.ref b)] [])) _
    refine st1 _ ?_
    show Steps p.tables e below (T1.setTop (mkF m 3 #[.val (.ref b)] [(.int gCS)])) _
    refine XS.ifNo X1.here hx rfl (hb hby own_d_jdk_68_method_68_code_3) rfl ((if0 _ _).trans (feq hG1).1) ?_
    show Steps p.tables e below (T1.setTop (mkF m 6 #[.val (.ref b)] [])) _
    refine XS.aloadN X1.here hx rfl (hb hby own_d_jdk_68_method_68_code_6) rfl rfl ?_
    show Steps p.tables e below (T1.setTop (mkF m 7 #[.val (.ref b)] [(.ref b)])) _
    refine st2 _ ?_
    show Steps p.tables e below (T2.setTop (mkF m 10 #[.val (.ref b)] [(.int (0 : Int32))])) _
    refine XS.ifNo X2.here hx rfl (hb hby own_d_jdk_68_method_68_code_10) rfl ((if0 _ _).trans (teq rfl).2) ?_
    show Steps p.tables e below (T2.setTop (mkF m 13 #[.val (.ref b)] [])) _
    refine XS.iconst X2.here hx rfl (hb hby own_d_jdk_68_method_68_code_13) ?_
    show Steps p.tables e below (T2.setTop (mkF m 14 #[.val (.ref b)] [(.int (1 : Int32))])) _
    refine XS.goto X2.here hx rfl (pc0 := 14) (pc' := 18) rfl (hb hby own_d_jdk_68_method_68_code_14) (by decide) (by decide) ?_
    show Steps p.tables e below (T2.setTop (mkF m 18 #[.val (.ref b)] [(.int (1 : Int32))])) _
    exact retN X2 hx (t := .boolean) Bd.returns (by simp) (hb hby own_d_jdk_68_method_68_code_18) hr
  · show Q_own_isL Z b gCS h0 n0 _ T2.heap _
    rw [e2]
    exact ⟨rfl, N0, rfl⟩
theorem own_pn_own_newLen : plainName "jdk/internal/util/ArraysSupport" = true := by first | (simp [plainName, overriddenIn]; done) | decide +kernel
theorem own_ef_own_newLen (m : MethodId) (x : Nat) (y : Nat) (z : Nat) : entryFrame m #[(.int (Int32.ofNat x)), (.int (Int32.ofNat y)), (.int (Int32.ofNat z))] 4 = mkF m 0 #[.val (.int (Int32.ofNat x)), .val (.int (Int32.ofNat y)), .val (.int (Int32.ofNat z)), .unset] [] := by first | (simp [entryFrame, mkF, argsToLocals, own_cI, own_cJ, own_cR, own_cN]; done) | rfl
abbrev own_F_own_newLen (m : MethodId) (x : Nat) (y : Nat) (z : Nat) : JFrame := entryFrame m #[(.int (Int32.ofNat x)), (.int (Int32.ofNat y)), (.int (Int32.ofNat z))] 4
def Q_own_newLen (Z : State) (x : Nat) (y : Nat) (z : Nat) (h0 : Heap) (n0 : Nat) (v : Option Value) (h : Heap) (L : List Loc) : Prop := v = some (.int (Int32.ofNat (x + max y z))) ∧ Fr n0 L ∧ h = h0
set_option maxRecDepth 65536 in
set_option maxHeartbeats 40000000 in
theorem own_newLen (l : Launch) (Z : State) (a0 : Array Value) (hw : ∀ d ∈ tables_1, d.before a0 Z = true) (ws : List Jvm.Cond) (x : Nat) (y : Nat) (z : Nat) (h0 : Heap) (n0 : Nat) (O0 : Old Z n0 h0) (hxs : x ≤ 300000) (hys : y ≤ 300000) (hzs : z ≤ 300000) (hx0 : 0 < x) :
    MetFree l (⟨"jdk/internal/util/ArraysSupport", "newLength", "(III)I"⟩ : MethodName) (head1 (Jvm.Cond.code (⟨"jdk/internal/util/ArraysSupport", "newLength", "(III)I"⟩ : MethodName) jdk_48_method_27_code 4 (some .int) :: ws) ({ frames := 1, cells := 0, slots := 0, locals := 14 } : Room)) (fun aa_ U_ => aa_ = #[(.int (Int32.ofNat x)), (.int (Int32.ofNat y)), (.int (Int32.ofNat z))] ∧ Z.Warmed39 U_.vm ∧ U_.heap = h0) (fun _ _ _ _ _ => True) (fun _ U_ o_ V_ => ∃ v_ L_, o_ = .returned v_ ∧ Q_own_newLen Z x y z h0 n0 v_ V_.heap L_ ∧ FrameEnd U_ o_ V_ L_ ({ frames := 1, cells := 0, slots := 0, locals := 14 } : Room).cells ({ frames := 1, cells := 0, slots := 0, locals := 14 } : Room).slots) := by
  refine MetFree.of_bodySF (plainFor_of_name own_pn_own_newLen) hisR ?_
  intro p e s m args below meth c s₁ Bd hml0 hP hK
  obtain ⟨rfl, hZ, hh⟩ := hP
  have hx := Bd.exec
  have hby := Bd.bytes
  have hml : c.maxLocals = 4 := hml0
  have hown : s.vm.findClass "jdk/internal/util/ArraysSupport" = some m.cls := findClass_of_methodNamed Bd.named
  have hnm := (name_of_methodNamed Bd.named Bd.method).1
  have X0 : Stand p l e ({ frames := 1, cells := 0, slots := 0, locals := 14 } : Room) s m #[(.int (Int32.ofNat x)), (.int (Int32.ofNat y)), (.int (Int32.ofNat z))] below meth c s₁ [] 0 0 := Stand.of_body Bd
  have e0 : s₁.heap = h0 := by rw [← hh, Bd.state]; rfl
  have N0 := Fr.nil n0
  have K0 : Keep h0 h0 [] := Keep.refl _ _
  have r0 : GoTo p.tables e below s₁ (own_F_own_newLen m x y z) s₁ (mkF m 0 #[.val (.int (Int32.ofNat x)), .val (.int (Int32.ofNat y)), .val (.int (Int32.ofNat z)), .unset] []) := fun tt_ kk_ => castTop (own_ef_own_newLen m x y z) kk_
  obtain ⟨_, _, ⟨T1, L1, k1, n1⟩, -, X1, ⟨Lc1, hQ1, l1, y1, z1⟩, st1⟩ := Jvm.LawKit.callS X0 hx (y := (⟨"java/lang/Math", "max", "(II)I"⟩ : MethodName)) hown (mvT hZ (hw _ (List.mem_of_getElem? (i := 219) rfl))) (mvT hZ (hw _ (List.mem_of_getElem? (i := 25) rfl))) (mvT hZ (hw _ (List.mem_of_getElem? (i := 26) rfl))) (mvT hZ (hw _ (List.mem_of_getElem? (i := 27) rfl))) (by decide) (backOf (W := 1) (own_maxN l Z a0 hw [] (y) (z) h0 n0 (O0.keep K0 all0) (by omega) (by omega)) hZ (hw _ (List.mem_of_getElem? (i := 27) rfl)) (hw _ (List.mem_of_getElem? (i := 26) rfl)) (by decide) (by decide)) (g := (mkF m 3 #[.val (.int (Int32.ofNat x)), .val (.int (Int32.ofNat y)), .val (.int (Int32.ofNat z)), .unset] [(.int (Int32.ofNat z)), (.int (Int32.ofNat y)), (.int (Int32.ofNat x))])) rfl (by rw [hml]; rfl) (argsL := [(.int (Int32.ofNat y)), (.int (Int32.ofNat z))]) (rest := [(.int (Int32.ofNat x))]) (lenOf own_pd1 rfl) rfl (by show 2 * 0 + _ ≤ _; exact Nat.le_of_eq rfl) (hb hby own_d_jdk_48_method_27_code_3) (fun _ _ => ⟨rfl, e0, (by decide : 0 + 0 ≤ _), (by decide : 0 + 0 ≤ _)⟩)
  dsimp only [Pt.U, Pt.locs, Pt.cells, Pt.slots] at X1 l1 y1 z1 st1 hQ1
  subst l1 y1 z1
  obtain ⟨rfl, Nq1, hh1⟩ := hQ1
  have N1 := Fr.app N0 Nq1
  have r2 : GoTo p.tables e below s₁ (own_F_own_newLen m x y z) T1 (mkF m 7 #[.val (.int (Int32.ofNat x)), .val (.int (Int32.ofNat y)), .val (.int (Int32.ofNat z)), .unset] [(.int ((Int32.ofNat x) + (Int32.ofNat (max y z))))]) := fun tt_ kk_ => r0 tt_ (by
      show Steps p.tables e below (s₁.setTop (mkF m 0 #[.val (.int (Int32.ofNat x)), .val (.int (Int32.ofNat y)), .val (.int (Int32.ofNat z)), .unset] [])) _
      refine XS.iloadN X0.here hx rfl (hb hby own_d_jdk_48_method_27_code_0) rfl ?_
      show Steps p.tables e below (s₁.setTop (mkF m 1 #[.val (.int (Int32.ofNat x)), .val (.int (Int32.ofNat y)), .val (.int (Int32.ofNat z)), .unset] [(.int (Int32.ofNat x))])) _
      refine XS.iloadN X0.here hx rfl (hb hby own_d_jdk_48_method_27_code_1) rfl ?_
      show Steps p.tables e below (s₁.setTop (mkF m 2 #[.val (.int (Int32.ofNat x)), .val (.int (Int32.ofNat y)), .val (.int (Int32.ofNat z)), .unset] [(.int (Int32.ofNat y)), (.int (Int32.ofNat x))])) _
      refine XS.iloadN X0.here hx rfl (hb hby own_d_jdk_48_method_27_code_2) rfl ?_
      show Steps p.tables e below (s₁.setTop (mkF m 3 #[.val (.int (Int32.ofNat x)), .val (.int (Int32.ofNat y)), .val (.int (Int32.ofNat z)), .unset] [(.int (Int32.ofNat z)), (.int (Int32.ofNat y)), (.int (Int32.ofNat x))])) _
      refine st1 _ ?_
      show Steps p.tables e below (T1.setTop (mkF m 6 #[.val (.int (Int32.ofNat x)), .val (.int (Int32.ofNat y)), .val (.int (Int32.ofNat z)), .unset] [(.int (Int32.ofNat (max y z))), (.int (Int32.ofNat x))])) _
      refine XS.iadd X1.here hx rfl (hb hby own_d_jdk_48_method_27_code_6) rfl ?_
      show Steps p.tables e below (T1.setTop (mkF m 7 #[.val (.int (Int32.ofNat x)), .val (.int (Int32.ofNat y)), .val (.int (Int32.ofNat z)), .unset] [(.int ((Int32.ofNat x) + (Int32.ofNat (max y z))))])) _
      exact kk_)
  have r3 : GoTo p.tables e below s₁ (own_F_own_newLen m x y z) T1 (mkF m 7 #[.val (.int (Int32.ofNat x)), .val (.int (Int32.ofNat y)), .val (.int (Int32.ofNat z)), .unset] [(.int (Int32.ofNat (x + max y z)))]) := Eq.mp (congrArg (fun zz_ => GoTo p.tables e below s₁ (own_F_own_newLen m x y z) T1 (mkF m 7 #[.val (.int (Int32.ofNat x)), .val (.int (Int32.ofNat y)), .val (.int (Int32.ofNat z)), .unset] [(.int zz_)])) (show ((Int32.ofNat x) + (Int32.ofNat (max y z))) = (Int32.ofNat (x + max y z)) from own_addN)) r2
  have hb1 : x + max y z ≤ 1000000 := by omega
  obtain ⟨fs, hr, hrun, hended, hW, hsame⟩ := X1.leave (v := some (.int (Int32.ofNat (x + max y z)))) (fun h => by rw [Bd.returns] at h; cases h)
  refine ⟨_, _, r3 _ ?_, hrun, hended, _, _, rfl, ?_, ⟨_, rfl⟩, hW, hsame.mono (by decide) (by decide)⟩
  · show Steps p.tables e below (T1.setTop (mkF m 7 #[.val (.int (Int32.ofNat x)), .val (.int (Int32.ofNat y)), .val (.int (Int32.ofNat z)), .unset] [(.int (Int32.ofNat (x + max y z)))])) _
    refine XS.istoreN X1.here hx rfl (hb hby own_d_jdk_48_method_27_code_7) rfl (l' := #[.val (.int (Int32.ofNat x)), .val (.int (Int32.ofNat y)), .val (.int (Int32.ofNat z)), .val (.int (Int32.ofNat (x + max y z)))]) rfl ?_
    show Steps p.tables e below (T1.setTop (mkF m 8 #[.val (.int (Int32.ofNat x)), .val (.int (Int32.ofNat y)), .val (.int (Int32.ofNat z)), .val (.int (Int32.ofNat (x + max y z)))] [])) _
    refine XS.iconst X1.here hx rfl (hb hby own_d_jdk_48_method_27_code_8) ?_
    show Steps p.tables e below (T1.setTop (mkF m 9 #[.val (.int (Int32.ofNat x)), .val (.int (Int32.ofNat y)), .val (.int (Int32.ofNat z)), .val (.int (Int32.ofNat (x + max y z)))] [(.int (0 : Int32))])) _
    refine XS.iloadN X1.here hx rfl (hb hby own_d_jdk_48_method_27_code_9) rfl ?_
    show Steps p.tables e below (T1.setTop (mkF m 10 #[.val (.int (Int32.ofNat x)), .val (.int (Int32.ofNat y)), .val (.int (Int32.ofNat z)), .val (.int (Int32.ofNat (x + max y z)))] [(.int (Int32.ofNat (x + max y z))), (.int (0 : Int32))])) _
    refine XS.icmpNo X1.here hx rfl (hb hby own_d_jdk_48_method_27_code_10) rfl (tlt ((own_ltN (a := 0) (by decide) hb1).mpr (by omega))).2.1 ?_
    show Steps p.tables e below (T1.setTop (mkF m 13 #[.val (.int (Int32.ofNat x)), .val (.int (Int32.ofNat y)), .val (.int (Int32.ofNat z)), .val (.int (Int32.ofNat (x + max y z)))] [])) _
    refine XS.iloadN X1.here hx rfl (hb hby own_d_jdk_48_method_27_code_13) rfl ?_
    show Steps p.tables e below (T1.setTop (mkF m 14 #[.val (.int (Int32.ofNat x)), .val (.int (Int32.ofNat y)), .val (.int (Int32.ofNat z)), .val (.int (Int32.ofNat (x + max y z)))] [(.int (Int32.ofNat (x + max y z)))])) _
    refine X1.ldcI hx hown (mvT hZ (hw _ (List.mem_of_getElem? (i := 220) rfl))) rfl (hb hby own_d_jdk_48_method_27_code_14) ?_
    show Steps p.tables e below (T1.setTop (mkF m 16 #[.val (.int (Int32.ofNat x)), .val (.int (Int32.ofNat y)), .val (.int (Int32.ofNat z)), .val (.int (Int32.ofNat (x + max y z)))] [(.int (2147483639 : Int32)), (.int (Int32.ofNat (x + max y z)))])) _
    refine XS.icmpNo X1.here hx rfl (hb hby own_d_jdk_48_method_27_code_16) rfl (flt (by rw [Int32.lt_iff_toInt_lt, own_nat hb1, show (2147483639 : Int32).toInt = 2147483639 from by decide]; omega)).2.2.1 ?_
    show Steps p.tables e below (T1.setTop (mkF m 19 #[.val (.int (Int32.ofNat x)), .val (.int (Int32.ofNat y)), .val (.int (Int32.ofNat z)), .val (.int (Int32.ofNat (x + max y z)))] [])) _
    refine XS.iloadN X1.here hx rfl (hb hby own_d_jdk_48_method_27_code_19) rfl ?_
    show Steps p.tables e below (T1.setTop (mkF m 20 #[.val (.int (Int32.ofNat x)), .val (.int (Int32.ofNat y)), .val (.int (Int32.ofNat z)), .val (.int (Int32.ofNat (x + max y z)))] [(.int (Int32.ofNat (x + max y z)))])) _
    exact retI X1 hx Bd.returns (hb hby own_d_jdk_48_method_27_code_20) hr
  · show Q_own_newLen Z x y z h0 n0 _ T1.heap _
    rw [hh1]
    exact ⟨rfl, N1, rfl⟩
theorem own_pn_own_newCap : plainName "java/lang/AbstractStringBuilder" = true := by first | (simp [plainName, overriddenIn]; done) | decide +kernel
theorem own_ef_own_newCap (m : MethodId) (b : Addr) (mm : Nat) : entryFrame m #[(.ref b), (.int (Int32.ofNat mm))] 6 = mkF m 0 #[.val (.ref b), .val (.int (Int32.ofNat mm)), .unset, .unset, .unset, .unset] [] := by first | (simp [entryFrame, mkF, argsToLocals, own_cI, own_cJ, own_cR, own_cN]; done) | rfl
abbrev own_F_own_newCap (m : MethodId) (b : Addr) (mm : Nat) : JFrame := entryFrame m #[(.ref b), (.int (Int32.ofNat mm))] 6
def Q_own_newCap (Z : State) (b : Addr) (d : Addr) (kd : ClassId) (N : Nat) (cs : List Int32) (mm : Nat) (h0 : Heap) (n0 : Nat) (v : Option Value) (h : Heap) (L : List Loc) : Prop := v = some (.int (Int32.ofNat (N + max (mm - N) (N + 2)))) ∧ Fr n0 L ∧ h = h0
set_option maxRecDepth 65536 in
set_option maxHeartbeats 40000000 in
theorem own_newCap (l : Launch) (Z : State) (a0 : Array Value) (hw : ∀ d ∈ tables_1, d.before a0 Z = true) (ws : List Jvm.Cond) (b : Addr) (d : Addr) (kd : ClassId) (N : Nat) (cs : List Int32) (mm : Nat) (h0 : Heap) (n0 : Nat) (O0 : Old Z n0 h0) (hp0 : Fld Z h0 b "java/lang/AbstractStringBuilder" "value" "[B" (.ref d)) (hp1 : Fld Z h0 b "java/lang/AbstractStringBuilder" "coder" "B" (.int (0 : Int32))) (hp2 : own_By Z h0 d kd N cs) (hmm : mm ≤ 200000) (hNb : N ≤ 100000) (hNp : 0 < N) (hNm : N ≤ mm) :
    MetFree l (⟨"java/lang/AbstractStringBuilder", "newCapacity", "(I)I"⟩ : MethodName) (head1 (Jvm.Cond.code (⟨"java/lang/AbstractStringBuilder", "newCapacity", "(I)I"⟩ : MethodName) jdk_68_method_10_code 6 (some .int) :: ws) ({ frames := 2, cells := 0, slots := 0, locals := 29 } : Room)) (fun aa_ U_ => aa_ = #[(.ref b), (.int (Int32.ofNat mm))] ∧ Z.Warmed39 U_.vm ∧ U_.heap = h0) (fun _ _ _ _ _ => True) (fun _ U_ o_ V_ => ∃ v_ L_, o_ = .returned v_ ∧ Q_own_newCap Z b d kd N cs mm h0 n0 v_ V_.heap L_ ∧ FrameEnd U_ o_ V_ L_ ({ frames := 2, cells := 0, slots := 0, locals := 29 } : Room).cells ({ frames := 2, cells := 0, slots := 0, locals := 29 } : Room).slots) := by
  refine MetFree.of_bodySF (plainFor_of_name own_pn_own_newCap) hisR ?_
  intro p e s m args below meth c s₁ Bd hml0 hP hK
  obtain ⟨rfl, hZ, hh⟩ := hP
  have hx := Bd.exec
  have hby := Bd.bytes
  have hml : c.maxLocals = 6 := hml0
  have hown : s.vm.findClass "java/lang/AbstractStringBuilder" = some m.cls := findClass_of_methodNamed Bd.named
  have hnm := (name_of_methodNamed Bd.named Bd.method).1
  have X0 : Stand p l e ({ frames := 2, cells := 0, slots := 0, locals := 29 } : Room) s m #[(.ref b), (.int (Int32.ofNat mm))] below meth c s₁ [] 0 0 := Stand.of_body Bd
  have e0 : s₁.heap = h0 := by rw [← hh, Bd.state]; rfl
  have N0 := Fr.nil n0
  have K0 : Keep h0 h0 [] := Keep.refl _ _
  have r0 : GoTo p.tables e below s₁ (own_F_own_newCap m b mm) s₁ (mkF m 0 #[.val (.ref b), .val (.int (Int32.ofNat mm)), .unset, .unset, .unset, .unset] []) := fun tt_ kk_ => castTop (own_ef_own_newCap m b mm) kk_
  obtain ⟨vs1, hvl1, hva1, hvc1⟩ := own_By.arv hp2
  obtain ⟨T2, X2, e2, st2⟩ := getF X0 hx hZ hown (host := "") (Or.inl (hw _ (List.mem_of_getElem? (i := 76) rfl))) Via.refl e0 hp0 (g := (mkF m 1 #[.val (.ref b), .val (.int (Int32.ofNat mm)), .unset, .unset, .unset, .unset] [(.ref b)])) rfl rfl (hb hby own_d_jdk_68_method_10_code_1)
  obtain ⟨cl3, Ar3, q3, S3, NN3, H3, G3⟩ := id hva1
  obtain ⟨T4, X4, e4, st4⟩ := getF X2 hx hZ hown (host := "") (Or.inl (hw _ (List.mem_of_getElem? (i := 78) rfl))) Via.refl e2 hp1 (g := (mkF m 8 #[.val (.ref b), .val (.int (Int32.ofNat mm)), .val (.int (Int32.ofNat N)), .unset, .unset, .unset] [(.ref b), (.int (Int32.ofNat mm))])) rfl rfl (hb hby own_d_jdk_68_method_10_code_8)
  have r5 : GoTo p.tables e below s₁ (own_F_own_newCap m b mm) T4 (mkF m 12 #[.val (.ref b), .val (.int (Int32.ofNat mm)), .val (.int (Int32.ofNat N)), .unset, .unset, .unset] [(.int ((Int32.ofNat mm) <<< ((0 : Int32) &&& 31)))]) := fun tt_ kk_ => r0 tt_ (by
      show Steps p.tables e below (s₁.setTop (mkF m 0 #[.val (.ref b), .val (.int (Int32.ofNat mm)), .unset, .unset, .unset, .unset] [])) _
      refine XS.aloadN X0.here hx rfl (hb hby own_d_jdk_68_method_10_code_0) rfl rfl ?_
      show Steps p.tables e below (s₁.setTop (mkF m 1 #[.val (.ref b), .val (.int (Int32.ofNat mm)), .unset, .unset, .unset, .unset] [(.ref b)])) _
      refine st2 _ ?_
      show Steps p.tables e below (T2.setTop (mkF m 4 #[.val (.ref b), .val (.int (Int32.ofNat mm)), .unset, .unset, .unset, .unset] [(.ref d)])) _
      refine X2.arraylength hx (by rw [e2]; exact Ar3.1) (State.isArrayOf_alike hZ.alike Ar3.2.1) (g := (mkF m 4 #[.val (.ref b), .val (.int (Int32.ofNat mm)), .unset, .unset, .unset, .unset] [(.ref d)])) rfl rfl (hb hby own_d_jdk_68_method_10_code_4) _ ?_
      rw [len_of S3 NN3]
      show Steps p.tables e below (T2.setTop (mkF m 5 #[.val (.ref b), .val (.int (Int32.ofNat mm)), .unset, .unset, .unset, .unset] [(.int (Int32.ofNat N))])) _
      refine XS.istoreN X2.here hx rfl (hb hby own_d_jdk_68_method_10_code_5) rfl (l' := #[.val (.ref b), .val (.int (Int32.ofNat mm)), .val (.int (Int32.ofNat N)), .unset, .unset, .unset]) rfl ?_
      show Steps p.tables e below (T2.setTop (mkF m 6 #[.val (.ref b), .val (.int (Int32.ofNat mm)), .val (.int (Int32.ofNat N)), .unset, .unset, .unset] [])) _
      refine XS.iloadN X2.here hx rfl (hb hby own_d_jdk_68_method_10_code_6) rfl ?_
      show Steps p.tables e below (T2.setTop (mkF m 7 #[.val (.ref b), .val (.int (Int32.ofNat mm)), .val (.int (Int32.ofNat N)), .unset, .unset, .unset] [(.int (Int32.ofNat mm))])) _
      refine XS.aloadN X2.here hx rfl (hb hby own_d_jdk_68_method_10_code_7) rfl rfl ?_
      show Steps p.tables e below (T2.setTop (mkF m 8 #[.val (.ref b), .val (.int (Int32.ofNat mm)), .val (.int (Int32.ofNat N)), .unset, .unset, .unset] [(.ref b), (.int (Int32.ofNat mm))])) _
      refine st4 _ ?_
      show Steps p.tables e below (T4.setTop (mkF m 11 #[.val (.ref b), .val (.int (Int32.ofNat mm)), .val (.int (Int32.ofNat N)), .unset, .unset, .unset] [(.int (0 : Int32)), (.int (Int32.ofNat mm))])) _
      refine XS.ishl X4.here hx rfl (hb hby own_d_jdk_68_method_10_code_11) rfl ?_
      show Steps p.tables e below (T4.setTop (mkF m 12 #[.val (.ref b), .val (.int (Int32.ofNat mm)), .val (.int (Int32.ofNat N)), .unset, .unset, .unset] [(.int ((Int32.ofNat mm) <<< ((0 : Int32) &&& 31)))])) _
      exact kk_)
  have r6 : GoTo p.tables e below s₁ (own_F_own_newCap m b mm) T4 (mkF m 12 #[.val (.ref b), .val (.int (Int32.ofNat mm)), .val (.int (Int32.ofNat N)), .unset, .unset, .unset] [(.int (Int32.ofNat mm))]) := Eq.mp (congrArg (fun zz_ => GoTo p.tables e below s₁ (own_F_own_newCap m b mm) T4 (mkF m 12 #[.val (.ref b), .val (.int (Int32.ofNat mm)), .val (.int (Int32.ofNat N)), .unset, .unset, .unset] [(.int zz_)])) (show ((Int32.ofNat mm) <<< ((0 : Int32) &&& 31)) = (Int32.ofNat mm) from own_shl0 _)) r5
  have r7 : GoTo p.tables e below s₁ (own_F_own_newCap m b mm) T4 (mkF m 16 #[.val (.ref b), .val (.int (Int32.ofNat mm)), .val (.int (Int32.ofNat N)), .val (.int (Int32.ofNat mm)), .unset, .unset] [(.int ((Int32.ofNat mm) - (Int32.ofNat N)))]) := fun tt_ kk_ => r6 tt_ (by
      show Steps p.tables e below (T4.setTop (mkF m 12 #[.val (.ref b), .val (.int (Int32.ofNat mm)), .val (.int (Int32.ofNat N)), .unset, .unset, .unset] [(.int (Int32.ofNat mm))])) _
      refine XS.istoreN X4.here hx rfl (hb hby own_d_jdk_68_method_10_code_12) rfl (l' := #[.val (.ref b), .val (.int (Int32.ofNat mm)), .val (.int (Int32.ofNat N)), .val (.int (Int32.ofNat mm)), .unset, .unset]) rfl ?_
      show Steps p.tables e below (T4.setTop (mkF m 13 #[.val (.ref b), .val (.int (Int32.ofNat mm)), .val (.int (Int32.ofNat N)), .val (.int (Int32.ofNat mm)), .unset, .unset] [])) _
      refine XS.iloadN X4.here hx rfl (hb hby own_d_jdk_68_method_10_code_13) rfl ?_
      show Steps p.tables e below (T4.setTop (mkF m 14 #[.val (.ref b), .val (.int (Int32.ofNat mm)), .val (.int (Int32.ofNat N)), .val (.int (Int32.ofNat mm)), .unset, .unset] [(.int (Int32.ofNat mm))])) _
      refine XS.iloadN X4.here hx rfl (hb hby own_d_jdk_68_method_10_code_14) rfl ?_
      show Steps p.tables e below (T4.setTop (mkF m 15 #[.val (.ref b), .val (.int (Int32.ofNat mm)), .val (.int (Int32.ofNat N)), .val (.int (Int32.ofNat mm)), .unset, .unset] [(.int (Int32.ofNat N)), (.int (Int32.ofNat mm))])) _
      refine XS.isub X4.here hx rfl (hb hby own_d_jdk_68_method_10_code_15) rfl ?_
      show Steps p.tables e below (T4.setTop (mkF m 16 #[.val (.ref b), .val (.int (Int32.ofNat mm)), .val (.int (Int32.ofNat N)), .val (.int (Int32.ofNat mm)), .unset, .unset] [(.int ((Int32.ofNat mm) - (Int32.ofNat N)))])) _
      exact kk_)
  have r8 : GoTo p.tables e below s₁ (own_F_own_newCap m b mm) T4 (mkF m 16 #[.val (.ref b), .val (.int (Int32.ofNat mm)), .val (.int (Int32.ofNat N)), .val (.int (Int32.ofNat mm)), .unset, .unset] [(.int (Int32.ofNat (mm - N)))]) := Eq.mp (congrArg (fun zz_ => GoTo p.tables e below s₁ (own_F_own_newCap m b mm) T4 (mkF m 16 #[.val (.ref b), .val (.int (Int32.ofNat mm)), .val (.int (Int32.ofNat N)), .val (.int (Int32.ofNat mm)), .unset, .unset] [(.int zz_)])) (show ((Int32.ofNat mm) - (Int32.ofNat N)) = (Int32.ofNat (mm - N)) from own_subN hNm)) r7
  obtain ⟨T9, X9, e9, st9⟩ := getF X4 hx hZ hown (host := "") (Or.inl (hw _ (List.mem_of_getElem? (i := 78) rfl))) Via.refl e4 hp1 (g := (mkF m 24 #[.val (.ref b), .val (.int (Int32.ofNat mm)), .val (.int (Int32.ofNat N)), .val (.int (Int32.ofNat mm)), .val (.int (Int32.ofNat (mm - N))), .unset] [(.ref b), (.int (2 : Int32)), (.int (Int32.ofNat N)), (.int (Int32.ofNat (mm - N))), (.int (Int32.ofNat N))])) rfl rfl (hb hby own_d_jdk_68_method_10_code_24)
  have r10 : GoTo p.tables e below s₁ (own_F_own_newCap m b mm) T9 (mkF m 28 #[.val (.ref b), .val (.int (Int32.ofNat mm)), .val (.int (Int32.ofNat N)), .val (.int (Int32.ofNat mm)), .val (.int (Int32.ofNat (mm - N))), .unset] [(.int ((2 : Int32) <<< ((0 : Int32) &&& 31))), (.int (Int32.ofNat N)), (.int (Int32.ofNat (mm - N))), (.int (Int32.ofNat N))]) := fun tt_ kk_ => r8 tt_ (by
      show Steps p.tables e below (T4.setTop (mkF m 16 #[.val (.ref b), .val (.int (Int32.ofNat mm)), .val (.int (Int32.ofNat N)), .val (.int (Int32.ofNat mm)), .unset, .unset] [(.int (Int32.ofNat (mm - N)))])) _
      refine XS.istore X4.here hx rfl (hb hby own_d_jdk_68_method_10_code_16) rfl (l' := #[.val (.ref b), .val (.int (Int32.ofNat mm)), .val (.int (Int32.ofNat N)), .val (.int (Int32.ofNat mm)), .val (.int (Int32.ofNat (mm - N))), .unset]) rfl ?_
      show Steps p.tables e below (T4.setTop (mkF m 18 #[.val (.ref b), .val (.int (Int32.ofNat mm)), .val (.int (Int32.ofNat N)), .val (.int (Int32.ofNat mm)), .val (.int (Int32.ofNat (mm - N))), .unset] [])) _
      refine XS.iloadN X4.here hx rfl (hb hby own_d_jdk_68_method_10_code_18) rfl ?_
      show Steps p.tables e below (T4.setTop (mkF m 19 #[.val (.ref b), .val (.int (Int32.ofNat mm)), .val (.int (Int32.ofNat N)), .val (.int (Int32.ofNat mm)), .val (.int (Int32.ofNat (mm - N))), .unset] [(.int (Int32.ofNat N))])) _
      refine XS.iload X4.here hx rfl (hb hby own_d_jdk_68_method_10_code_19) rfl ?_
      show Steps p.tables e below (T4.setTop (mkF m 21 #[.val (.ref b), .val (.int (Int32.ofNat mm)), .val (.int (Int32.ofNat N)), .val (.int (Int32.ofNat mm)), .val (.int (Int32.ofNat (mm - N))), .unset] [(.int (Int32.ofNat (mm - N))), (.int (Int32.ofNat N))])) _
      refine XS.iloadN X4.here hx rfl (hb hby own_d_jdk_68_method_10_code_21) rfl ?_
      show Steps p.tables e below (T4.setTop (mkF m 22 #[.val (.ref b), .val (.int (Int32.ofNat mm)), .val (.int (Int32.ofNat N)), .val (.int (Int32.ofNat mm)), .val (.int (Int32.ofNat (mm - N))), .unset] [(.int (Int32.ofNat N)), (.int (Int32.ofNat (mm - N))), (.int (Int32.ofNat N))])) _
      refine XS.iconst X4.here hx rfl (hb hby own_d_jdk_68_method_10_code_22) ?_
      show Steps p.tables e below (T4.setTop (mkF m 23 #[.val (.ref b), .val (.int (Int32.ofNat mm)), .val (.int (Int32.ofNat N)), .val (.int (Int32.ofNat mm)), .val (.int (Int32.ofNat (mm - N))), .unset] [(.int (2 : Int32)), (.int (Int32.ofNat N)), (.int (Int32.ofNat (mm - N))), (.int (Int32.ofNat N))])) _
      refine XS.aloadN X4.here hx rfl (hb hby own_d_jdk_68_method_10_code_23) rfl rfl ?_
      show Steps p.tables e below (T4.setTop (mkF m 24 #[.val (.ref b), .val (.int (Int32.ofNat mm)), .val (.int (Int32.ofNat N)), .val (.int (Int32.ofNat mm)), .val (.int (Int32.ofNat (mm - N))), .unset] [(.ref b), (.int (2 : Int32)), (.int (Int32.ofNat N)), (.int (Int32.ofNat (mm - N))), (.int (Int32.ofNat N))])) _
      refine st9 _ ?_
      show Steps p.tables e below (T9.setTop (mkF m 27 #[.val (.ref b), .val (.int (Int32.ofNat mm)), .val (.int (Int32.ofNat N)), .val (.int (Int32.ofNat mm)), .val (.int (Int32.ofNat (mm - N))), .unset] [(.int (0 : Int32)), (.int (2 : Int32)), (.int (Int32.ofNat N)), (.int (Int32.ofNat (mm - N))), (.int (Int32.ofNat N))])) _
      refine XS.ishl X9.here hx rfl (hb hby own_d_jdk_68_method_10_code_27) rfl ?_
      show Steps p.tables e below (T9.setTop (mkF m 28 #[.val (.ref b), .val (.int (Int32.ofNat mm)), .val (.int (Int32.ofNat N)), .val (.int (Int32.ofNat mm)), .val (.int (Int32.ofNat (mm - N))), .unset] [(.int ((2 : Int32) <<< ((0 : Int32) &&& 31))), (.int (Int32.ofNat N)), (.int (Int32.ofNat (mm - N))), (.int (Int32.ofNat N))])) _
      exact kk_)
  have r11 : GoTo p.tables e below s₁ (own_F_own_newCap m b mm) T9 (mkF m 28 #[.val (.ref b), .val (.int (Int32.ofNat mm)), .val (.int (Int32.ofNat N)), .val (.int (Int32.ofNat mm)), .val (.int (Int32.ofNat (mm - N))), .unset] [(.int (2 : Int32)), (.int (Int32.ofNat N)), (.int (Int32.ofNat (mm - N))), (.int (Int32.ofNat N))]) := Eq.mp (congrArg (fun zz_ => GoTo p.tables e below s₁ (own_F_own_newCap m b mm) T9 (mkF m 28 #[.val (.ref b), .val (.int (Int32.ofNat mm)), .val (.int (Int32.ofNat N)), .val (.int (Int32.ofNat mm)), .val (.int (Int32.ofNat (mm - N))), .unset] [(.int zz_), (.int (Int32.ofNat N)), (.int (Int32.ofNat (mm - N))), (.int (Int32.ofNat N))])) (show ((2 : Int32) <<< ((0 : Int32) &&& 31)) = (2 : Int32) from own_shl0 _)) r10
  have r12 : GoTo p.tables e below s₁ (own_F_own_newCap m b mm) T9 (mkF m 29 #[.val (.ref b), .val (.int (Int32.ofNat mm)), .val (.int (Int32.ofNat N)), .val (.int (Int32.ofNat mm)), .val (.int (Int32.ofNat (mm - N))), .unset] [(.int ((Int32.ofNat N) + (2 : Int32))), (.int (Int32.ofNat (mm - N))), (.int (Int32.ofNat N))]) := fun tt_ kk_ => r11 tt_ (by
      show Steps p.tables e below (T9.setTop (mkF m 28 #[.val (.ref b), .val (.int (Int32.ofNat mm)), .val (.int (Int32.ofNat N)), .val (.int (Int32.ofNat mm)), .val (.int (Int32.ofNat (mm - N))), .unset] [(.int (2 : Int32)), (.int (Int32.ofNat N)), (.int (Int32.ofNat (mm - N))), (.int (Int32.ofNat N))])) _
      refine XS.iadd X9.here hx rfl (hb hby own_d_jdk_68_method_10_code_28) rfl ?_
      show Steps p.tables e below (T9.setTop (mkF m 29 #[.val (.ref b), .val (.int (Int32.ofNat mm)), .val (.int (Int32.ofNat N)), .val (.int (Int32.ofNat mm)), .val (.int (Int32.ofNat (mm - N))), .unset] [(.int ((Int32.ofNat N) + (2 : Int32))), (.int (Int32.ofNat (mm - N))), (.int (Int32.ofNat N))])) _
      exact kk_)
  have r13 : GoTo p.tables e below s₁ (own_F_own_newCap m b mm) T9 (mkF m 29 #[.val (.ref b), .val (.int (Int32.ofNat mm)), .val (.int (Int32.ofNat N)), .val (.int (Int32.ofNat mm)), .val (.int (Int32.ofNat (mm - N))), .unset] [(.int (Int32.ofNat (N + 2))), (.int (Int32.ofNat (mm - N))), (.int (Int32.ofNat N))]) := Eq.mp (congrArg (fun zz_ => GoTo p.tables e below s₁ (own_F_own_newCap m b mm) T9 (mkF m 29 #[.val (.ref b), .val (.int (Int32.ofNat mm)), .val (.int (Int32.ofNat N)), .val (.int (Int32.ofNat mm)), .val (.int (Int32.ofNat (mm - N))), .unset] [(.int zz_), (.int (Int32.ofNat (mm - N))), (.int (Int32.ofNat N))])) (show ((Int32.ofNat N) + (2 : Int32)) = (Int32.ofNat (N + 2)) from own_addN (a := N) (b := 2))) r12
  obtain ⟨_, _, ⟨T14, L14, k14, n14⟩, -, X14, ⟨Lc14, hQ14, l14, y14, z14⟩, st14⟩ := Jvm.LawKit.callS X9 hx (y := (⟨"jdk/internal/util/ArraysSupport", "newLength", "(III)I"⟩ : MethodName)) hown (mvT hZ (hw _ (List.mem_of_getElem? (i := 215) rfl))) (mvT hZ (hw _ (List.mem_of_getElem? (i := 216) rfl))) (mvT hZ (hw _ (List.mem_of_getElem? (i := 217) rfl))) (mvT hZ (hw _ (List.mem_of_getElem? (i := 218) rfl))) (by decide) (backOf (W := 0) (own_newLen l Z a0 hw [] (N) ((mm - N)) ((N + 2)) h0 n0 (O0.keep K0 all0) (by omega) (by omega) (by omega) (hNp)) hZ (hw _ (List.mem_of_getElem? (i := 218) rfl)) (hw _ (List.mem_of_getElem? (i := 217) rfl)) (by decide) (by decide)) (g := (mkF m 29 #[.val (.ref b), .val (.int (Int32.ofNat mm)), .val (.int (Int32.ofNat N)), .val (.int (Int32.ofNat mm)), .val (.int (Int32.ofNat (mm - N))), .unset] [(.int (Int32.ofNat (N + 2))), (.int (Int32.ofNat (mm - N))), (.int (Int32.ofNat N))])) rfl (by rw [hml]; rfl) (argsL := [(.int (Int32.ofNat N)), (.int (Int32.ofNat (mm - N))), (.int (Int32.ofNat (N + 2)))]) (rest := []) (lenOf own_pd2 rfl) rfl (by show 2 * 0 + _ ≤ _; exact Nat.le_of_eq rfl) (hb hby own_d_jdk_68_method_10_code_29) (fun _ _ => ⟨rfl, e9, (by decide : 0 + 0 ≤ _), (by decide : 0 + 0 ≤ _)⟩)
  dsimp only [Pt.U, Pt.locs, Pt.cells, Pt.slots] at X14 l14 y14 z14 st14 hQ14
  subst l14 y14 z14
  obtain ⟨rfl, Nq14, hh14⟩ := hQ14
  have N14 := Fr.app N0 Nq14
  obtain ⟨T15, X15, e15, st15⟩ := getF X14 hx hZ hown (host := "") (Or.inl (hw _ (List.mem_of_getElem? (i := 78) rfl))) Via.refl hh14 hp1 (g := (mkF m 54 #[.val (.ref b), .val (.int (Int32.ofNat mm)), .val (.int (Int32.ofNat N)), .val (.int (Int32.ofNat mm)), .val (.int (Int32.ofNat (mm - N))), .val (.int (Int32.ofNat (N + max (mm - N) (N + 2))))] [(.ref b), (.int (Int32.ofNat (N + max (mm - N) (N + 2))))])) rfl rfl (hb hby own_d_jdk_68_method_10_code_54)
  have r16 : GoTo p.tables e below s₁ (own_F_own_newCap m b mm) T15 (mkF m 58 #[.val (.ref b), .val (.int (Int32.ofNat mm)), .val (.int (Int32.ofNat N)), .val (.int (Int32.ofNat mm)), .val (.int (Int32.ofNat (mm - N))), .val (.int (Int32.ofNat (N + max (mm - N) (N + 2))))] [(.int ((Int32.ofNat (N + max (mm - N) (N + 2))) >>> ((0 : Int32) &&& 31)))]) := fun tt_ kk_ => r13 tt_ (by
      show Steps p.tables e below (T9.setTop (mkF m 29 #[.val (.ref b), .val (.int (Int32.ofNat mm)), .val (.int (Int32.ofNat N)), .val (.int (Int32.ofNat mm)), .val (.int (Int32.ofNat (mm - N))), .unset] [(.int (Int32.ofNat (N + 2))), (.int (Int32.ofNat (mm - N))), (.int (Int32.ofNat N))])) _
      refine st14 _ ?_
      show Steps p.tables e below (T14.setTop (mkF m 32 #[.val (.ref b), .val (.int (Int32.ofNat mm)), .val (.int (Int32.ofNat N)), .val (.int (Int32.ofNat mm)), .val (.int (Int32.ofNat (mm - N))), .unset] [(.int (Int32.ofNat (N + max (mm - N) (N + 2))))])) _
      refine XS.istore X14.here hx rfl (hb hby own_d_jdk_68_method_10_code_32) rfl (l' := #[.val (.ref b), .val (.int (Int32.ofNat mm)), .val (.int (Int32.ofNat N)), .val (.int (Int32.ofNat mm)), .val (.int (Int32.ofNat (mm - N))), .val (.int (Int32.ofNat (N + max (mm - N) (N + 2))))]) rfl ?_
      show Steps p.tables e below (T14.setTop (mkF m 34 #[.val (.ref b), .val (.int (Int32.ofNat mm)), .val (.int (Int32.ofNat N)), .val (.int (Int32.ofNat mm)), .val (.int (Int32.ofNat (mm - N))), .val (.int (Int32.ofNat (N + max (mm - N) (N + 2))))] [])) _
      refine XS.iload X14.here hx rfl (hb hby own_d_jdk_68_method_10_code_34) rfl ?_
      show Steps p.tables e below (T14.setTop (mkF m 36 #[.val (.ref b), .val (.int (Int32.ofNat mm)), .val (.int (Int32.ofNat N)), .val (.int (Int32.ofNat mm)), .val (.int (Int32.ofNat (mm - N))), .val (.int (Int32.ofNat (N + max (mm - N) (N + 2))))] [(.int (Int32.ofNat (N + max (mm - N) (N + 2))))])) _
      refine X14.ldcI hx hown (mvT hZ (hw _ (List.mem_of_getElem? (i := 221) rfl))) rfl (hb hby own_d_jdk_68_method_10_code_36) ?_
      show Steps p.tables e below (T14.setTop (mkF m 38 #[.val (.ref b), .val (.int (Int32.ofNat mm)), .val (.int (Int32.ofNat N)), .val (.int (Int32.ofNat mm)), .val (.int (Int32.ofNat (mm - N))), .val (.int (Int32.ofNat (N + max (mm - N) (N + 2))))] [(.int (2147483647 : Int32)), (.int (Int32.ofNat (N + max (mm - N) (N + 2))))])) _
      refine XS.icmpYes X14.here hx rfl (pc0 := 38) (pc' := 51) rfl (hb hby own_d_jdk_68_method_10_code_38) rfl (feq (fun q => absurd (congrArg Int32.toInt q) (by rw [own_nat (by omega), show (2147483647 : Int32).toInt = 2147483647 from by decide]; omega))).2 (by decide) (by decide) ?_
      show Steps p.tables e below (T14.setTop (mkF m 51 #[.val (.ref b), .val (.int (Int32.ofNat mm)), .val (.int (Int32.ofNat N)), .val (.int (Int32.ofNat mm)), .val (.int (Int32.ofNat (mm - N))), .val (.int (Int32.ofNat (N + max (mm - N) (N + 2))))] [])) _
      refine XS.iload X14.here hx rfl (hb hby own_d_jdk_68_method_10_code_51) rfl ?_
      show Steps p.tables e below (T14.setTop (mkF m 53 #[.val (.ref b), .val (.int (Int32.ofNat mm)), .val (.int (Int32.ofNat N)), .val (.int (Int32.ofNat mm)), .val (.int (Int32.ofNat (mm - N))), .val (.int (Int32.ofNat (N + max (mm - N) (N + 2))))] [(.int (Int32.ofNat (N + max (mm - N) (N + 2))))])) _
      refine XS.aloadN X14.here hx rfl (hb hby own_d_jdk_68_method_10_code_53) rfl rfl ?_
      show Steps p.tables e below (T14.setTop (mkF m 54 #[.val (.ref b), .val (.int (Int32.ofNat mm)), .val (.int (Int32.ofNat N)), .val (.int (Int32.ofNat mm)), .val (.int (Int32.ofNat (mm - N))), .val (.int (Int32.ofNat (N + max (mm - N) (N + 2))))] [(.ref b), (.int (Int32.ofNat (N + max (mm - N) (N + 2))))])) _
      refine st15 _ ?_
      show Steps p.tables e below (T15.setTop (mkF m 57 #[.val (.ref b), .val (.int (Int32.ofNat mm)), .val (.int (Int32.ofNat N)), .val (.int (Int32.ofNat mm)), .val (.int (Int32.ofNat (mm - N))), .val (.int (Int32.ofNat (N + max (mm - N) (N + 2))))] [(.int (0 : Int32)), (.int (Int32.ofNat (N + max (mm - N) (N + 2))))])) _
      refine XS.ishr X15.here hx rfl (hb hby own_d_jdk_68_method_10_code_57) rfl ?_
      show Steps p.tables e below (T15.setTop (mkF m 58 #[.val (.ref b), .val (.int (Int32.ofNat mm)), .val (.int (Int32.ofNat N)), .val (.int (Int32.ofNat mm)), .val (.int (Int32.ofNat (mm - N))), .val (.int (Int32.ofNat (N + max (mm - N) (N + 2))))] [(.int ((Int32.ofNat (N + max (mm - N) (N + 2))) >>> ((0 : Int32) &&& 31)))])) _
      exact kk_)
  have r17 : GoTo p.tables e below s₁ (own_F_own_newCap m b mm) T15 (mkF m 58 #[.val (.ref b), .val (.int (Int32.ofNat mm)), .val (.int (Int32.ofNat N)), .val (.int (Int32.ofNat mm)), .val (.int (Int32.ofNat (mm - N))), .val (.int (Int32.ofNat (N + max (mm - N) (N + 2))))] [(.int (Int32.ofNat (N + max (mm - N) (N + 2))))]) := Eq.mp (congrArg (fun zz_ => GoTo p.tables e below s₁ (own_F_own_newCap m b mm) T15 (mkF m 58 #[.val (.ref b), .val (.int (Int32.ofNat mm)), .val (.int (Int32.ofNat N)), .val (.int (Int32.ofNat mm)), .val (.int (Int32.ofNat (mm - N))), .val (.int (Int32.ofNat (N + max (mm - N) (N + 2))))] [(.int zz_)])) (show ((Int32.ofNat (N + max (mm - N) (N + 2))) >>> ((0 : Int32) &&& 31)) = (Int32.ofNat (N + max (mm - N) (N + 2))) from own_shr0 _)) r16
  obtain ⟨fs, hr, hrun, hended, hW, hsame⟩ := X15.leave (v := some (.int (Int32.ofNat (N + max (mm - N) (N + 2))))) (fun h => by rw [Bd.returns] at h; cases h)
  refine ⟨_, _, r17 _ ?_, hrun, hended, _, _, rfl, ?_, ⟨_, rfl⟩, hW, hsame.mono (by decide) (by decide)⟩
  · show Steps p.tables e below (T15.setTop (mkF m 58 #[.val (.ref b), .val (.int (Int32.ofNat mm)), .val (.int (Int32.ofNat N)), .val (.int (Int32.ofNat mm)), .val (.int (Int32.ofNat (mm - N))), .val (.int (Int32.ofNat (N + max (mm - N) (N + 2))))] [(.int (Int32.ofNat (N + max (mm - N) (N + 2))))])) _
    exact retI X15 hx Bd.returns (hb hby own_d_jdk_68_method_10_code_58) hr
  · show Q_own_newCap Z b d kd N cs mm h0 n0 _ T15.heap _
    rw [e15]
    exact ⟨rfl, N14, rfl⟩
theorem own_pn_own_copyOf : plainName "java/util/Arrays" = true := by first | (simp [plainName, overriddenIn]; done) | decide +kernel
theorem own_ef_own_copyOf (m : MethodId) (d : Addr) (mm : Nat) : entryFrame m #[(.ref d), (.int (Int32.ofNat mm))] 3 = mkF m 0 #[.val (.ref d), .val (.int (Int32.ofNat mm)), .unset] [] := by first | (simp [entryFrame, mkF, argsToLocals, own_cI, own_cJ, own_cR, own_cN]; done) | rfl
abbrev own_F_own_copyOf (m : MethodId) (d : Addr) (mm : Nat) : JFrame := entryFrame m #[(.ref d), (.int (Int32.ofNat mm))] 3
def Q_own_copyOf (Z : State) (d : Addr) (kd : ClassId) (N : Nat) (cs : List Int32) (mm : Nat) (h0 : Heap) (n0 : Nat) (v : Option Value) (h : Heap) (L : List Loc) : Prop := ∃ (b2 : Addr), ∃ (k2 : ClassId), v = some (.ref b2) ∧ Fr n0 L ∧ Keep h0 h [] ∧ (h0.size ≤ b2) ∧ (n0 ≤ b2) ∧ (own_By Z h b2 k2 mm cs)
set_option maxRecDepth 65536 in
set_option maxHeartbeats 40000000 in
theorem own_copyOf (l : Launch) (Z : State) (a0 : Array Value) (hw : ∀ d ∈ tables_1, d.before a0 Z = true) (ws : List Jvm.Cond) (d : Addr) (kd : ClassId) (N : Nat) (cs : List Int32) (mm : Nat) (h0 : Heap) (n0 : Nat) (O0 : Old Z n0 h0) (hp0 : own_By Z h0 d kd N cs) (hmm : mm ≤ 200) (hNm : N < mm) :
    MetFree l (⟨"java/util/Arrays", "copyOf", "([BI)[B"⟩ : MethodName) (head1 (Jvm.Cond.code (⟨"java/util/Arrays", "copyOf", "([BI)[B"⟩ : MethodName) jdk_65_method_121_code 3 (some (.array .byte)) :: ws) ({ frames := 1, cells := 1, slots := 200, locals := 18 } : Room)) (fun aa_ U_ => aa_ = #[(.ref d), (.int (Int32.ofNat mm))] ∧ Z.Warmed39 U_.vm ∧ U_.heap = h0) (fun _ _ _ _ _ => True) (fun _ U_ o_ V_ => ∃ v_ L_, o_ = .returned v_ ∧ Q_own_copyOf Z d kd N cs mm h0 n0 v_ V_.heap L_ ∧ FrameEnd U_ o_ V_ L_ ({ frames := 1, cells := 1, slots := 200, locals := 18 } : Room).cells ({ frames := 1, cells := 1, slots := 200, locals := 18 } : Room).slots) := by
  refine MetFree.of_bodySF (plainFor_of_name own_pn_own_copyOf) hisR ?_
  intro p e s m args below meth c s₁ Bd hml0 hP hK
  obtain ⟨rfl, hZ, hh⟩ := hP
  have hx := Bd.exec
  have hby := Bd.bytes
  have hml : c.maxLocals = 3 := hml0
  have hown : s.vm.findClass "java/util/Arrays" = some m.cls := findClass_of_methodNamed Bd.named
  have hnm := (name_of_methodNamed Bd.named Bd.method).1
  have X0 : Stand p l e ({ frames := 1, cells := 1, slots := 200, locals := 18 } : Room) s m #[(.ref d), (.int (Int32.ofNat mm))] below meth c s₁ [] 0 0 := Stand.of_body Bd
  have e0 : s₁.heap = h0 := by rw [← hh, Bd.state]; rfl
  have N0 := Fr.nil n0
  have K0 : Keep h0 h0 [] := Keep.refl _ _
  have r0 : GoTo p.tables e below s₁ (own_F_own_copyOf m d mm) s₁ (mkF m 0 #[.val (.ref d), .val (.int (Int32.ofNat mm)), .unset] []) := fun tt_ kk_ => castTop (own_ef_own_copyOf m d mm) kk_
  obtain ⟨vs1, hvl1, hva1, hvc1⟩ := own_By.arv hp0
  obtain ⟨cl2, Ar2, q2, S2, NN2, H2, G2⟩ := id hva1
  obtain ⟨T3, h3, k3, X3, e3, E3, A3, Ex3, st3⟩ := newPE X0 hx hZ (hw _ (List.mem_of_getElem? (i := 42) rfl)) e0 (g := (mkF m 15 #[.val (.ref d), .val (.int (Int32.ofNat mm)), .unset] [(.int (Int32.ofNat mm))])) rfl (hb hby own_d_jdk_65_method_121_code_15) rfl (own_negN (by omega)) (cap := 200) (by rw [own_clamp (by omega)]; exact hmm) (by decide) (by decide) (by decide) (ad := "[B") (by decide)
  obtain ⟨b3, gg3⟩ : ∃ z, z = h0.size := ⟨_, rfl⟩
  rw [← gg3] at A3 Ex3 st3
  have ne4 : d ≠ b3 := Nat.ne_of_lt (Nat.lt_of_lt_of_le hp0.lt (Nat.le_of_eq gg3.symm))
  have g5 : n0 ≤ b3 := Nat.le_trans (Nat.le_trans (own_le O0) K0.1) (Nat.le_of_eq gg3.symm)
  have b6 : h0.size ≤ b3 := Nat.le_trans K0.1 (Nat.le_of_eq gg3.symm)
  have K7 : Keep h0 h3 [] := K0.ext E3
  have V3 : Arv Z h3 b3 k3 .byte (Int32.ofNat mm) [] (.int (0 : Int32)) := Arv.new A3 (own_negN (by omega))
  have Vp : Arv Z h3 b3 k3 .byte (Int32.ofNat mm) (List.replicate mm (Value.int 0)) (.int 0) := V3.pad (fun i => by rw [own_getD_rep]; simp)
  have f8 : Arv Z h3 d kd .byte (Int32.ofNat N) vs1 (.int (0 : Int32)) := (hva1.ext E3)
  obtain ⟨cl9, Ar9, q9, S9, NN9, H9, G9⟩ := id f8
  obtain ⟨_, _, ⟨T10, L10, k10, n10⟩, -, X10, ⟨Lc10, hQ10, l10, y10, z10⟩, st10⟩ := Jvm.LawKit.callS X3 hx (y := (⟨"java/lang/Math", "min", "(II)I"⟩ : MethodName)) hown (mvT hZ (hw _ (List.mem_of_getElem? (i := 178) rfl))) (mvT hZ (hw _ (List.mem_of_getElem? (i := 179) rfl))) (mvT hZ (hw _ (List.mem_of_getElem? (i := 26) rfl))) (mvT hZ (hw _ (List.mem_of_getElem? (i := 180) rfl))) (by decide) (backOf (W := 4) (own_minN l Z a0 hw [] (N) (mm) h3 n0 (O0.keep K7 all0) (by omega) (by omega)) hZ (hw _ (List.mem_of_getElem? (i := 180) rfl)) (hw _ (List.mem_of_getElem? (i := 26) rfl)) (by decide) (by decide)) (g := (mkF m 25 #[.val (.ref d), .val (.int (Int32.ofNat mm)), .val (.ref b3)] [(.int (Int32.ofNat mm)), (.int (Int32.ofNat N)), (.int (0 : Int32)), (.ref b3), (.int (0 : Int32)), (.ref d)])) rfl (by rw [hml]; rfl) (argsL := [(.int (Int32.ofNat N)), (.int (Int32.ofNat mm))]) (rest := [(.int (0 : Int32)), (.ref b3), (.int (0 : Int32)), (.ref d)]) (lenOf own_pd1 rfl) rfl (by show 2 * 0 + _ ≤ _; exact Nat.le_of_eq rfl) (hb hby own_d_jdk_65_method_121_code_25) (fun _ _ => ⟨rfl, e3, (by decide : 1 + 0 ≤ _), (by decide : 200 + 0 ≤ _)⟩)
  dsimp only [Pt.U, Pt.locs, Pt.cells, Pt.slots] at X10 l10 y10 z10 st10 hQ10
  subst l10 y10 z10
  obtain ⟨rfl, Nq10, hh10⟩ := hQ10
  have N10 := Fr.app N0 Nq10
  have r11 : GoTo p.tables e below s₁ (own_F_own_copyOf m d mm) T10 (mkF m 28 #[.val (.ref d), .val (.int (Int32.ofNat mm)), .val (.ref b3)] [(.int (Int32.ofNat (min N mm))), (.int (0 : Int32)), (.ref b3), (.int (0 : Int32)), (.ref d)]) := fun tt_ kk_ => r0 tt_ (by
      show Steps p.tables e below (s₁.setTop (mkF m 0 #[.val (.ref d), .val (.int (Int32.ofNat mm)), .unset] [])) _
      refine XS.iloadN X0.here hx rfl (hb hby own_d_jdk_65_method_121_code_0) rfl ?_
      show Steps p.tables e below (s₁.setTop (mkF m 1 #[.val (.ref d), .val (.int (Int32.ofNat mm)), .unset] [(.int (Int32.ofNat mm))])) _
      refine XS.aloadN X0.here hx rfl (hb hby own_d_jdk_65_method_121_code_1) rfl rfl ?_
      show Steps p.tables e below (s₁.setTop (mkF m 2 #[.val (.ref d), .val (.int (Int32.ofNat mm)), .unset] [(.ref d), (.int (Int32.ofNat mm))])) _
      refine X0.arraylength hx (by rw [e0]; exact Ar2.1) (State.isArrayOf_alike hZ.alike Ar2.2.1) (g := (mkF m 2 #[.val (.ref d), .val (.int (Int32.ofNat mm)), .unset] [(.ref d), (.int (Int32.ofNat mm))])) rfl rfl (hb hby own_d_jdk_65_method_121_code_2) _ ?_
      rw [len_of S2 NN2]
      show Steps p.tables e below (s₁.setTop (mkF m 3 #[.val (.ref d), .val (.int (Int32.ofNat mm)), .unset] [(.int (Int32.ofNat N)), (.int (Int32.ofNat mm))])) _
      refine XS.icmpYes X0.here hx rfl (pc0 := 3) (pc' := 14) rfl (hb hby own_d_jdk_65_method_121_code_3) rfl (feq (fun q => absurd ((own_eqN (by omega) (by omega)).mp q) (by omega))).2 (by decide) (by decide) ?_
      show Steps p.tables e below (s₁.setTop (mkF m 14 #[.val (.ref d), .val (.int (Int32.ofNat mm)), .unset] [])) _
      refine XS.iloadN X0.here hx rfl (hb hby own_d_jdk_65_method_121_code_14) rfl ?_
      show Steps p.tables e below (s₁.setTop (mkF m 15 #[.val (.ref d), .val (.int (Int32.ofNat mm)), .unset] [(.int (Int32.ofNat mm))])) _
      refine st3 _ ?_
      show Steps p.tables e below (T3.setTop (mkF m 17 #[.val (.ref d), .val (.int (Int32.ofNat mm)), .unset] [(.ref b3)])) _
      refine XS.astoreN X3.here hx rfl (hb hby own_d_jdk_65_method_121_code_17) rfl rfl (l' := #[.val (.ref d), .val (.int (Int32.ofNat mm)), .val (.ref b3)]) rfl ?_
      show Steps p.tables e below (T3.setTop (mkF m 18 #[.val (.ref d), .val (.int (Int32.ofNat mm)), .val (.ref b3)] [])) _
      refine XS.aloadN X3.here hx rfl (hb hby own_d_jdk_65_method_121_code_18) rfl rfl ?_
      show Steps p.tables e below (T3.setTop (mkF m 19 #[.val (.ref d), .val (.int (Int32.ofNat mm)), .val (.ref b3)] [(.ref d)])) _
      refine XS.iconst X3.here hx rfl (hb hby own_d_jdk_65_method_121_code_19) ?_
      show Steps p.tables e below (T3.setTop (mkF m 20 #[.val (.ref d), .val (.int (Int32.ofNat mm)), .val (.ref b3)] [(.int (0 : Int32)), (.ref d)])) _
      refine XS.aloadN X3.here hx rfl (hb hby own_d_jdk_65_method_121_code_20) rfl rfl ?_
      show Steps p.tables e below (T3.setTop (mkF m 21 #[.val (.ref d), .val (.int (Int32.ofNat mm)), .val (.ref b3)] [(.ref b3), (.int (0 : Int32)), (.ref d)])) _
      refine XS.iconst X3.here hx rfl (hb hby own_d_jdk_65_method_121_code_21) ?_
      show Steps p.tables e below (T3.setTop (mkF m 22 #[.val (.ref d), .val (.int (Int32.ofNat mm)), .val (.ref b3)] [(.int (0 : Int32)), (.ref b3), (.int (0 : Int32)), (.ref d)])) _
      refine XS.aloadN X3.here hx rfl (hb hby own_d_jdk_65_method_121_code_22) rfl rfl ?_
      show Steps p.tables e below (T3.setTop (mkF m 23 #[.val (.ref d), .val (.int (Int32.ofNat mm)), .val (.ref b3)] [(.ref d), (.int (0 : Int32)), (.ref b3), (.int (0 : Int32)), (.ref d)])) _
      refine X3.arraylength hx (by rw [e3]; exact Ar9.1) (State.isArrayOf_alike hZ.alike Ar9.2.1) (g := (mkF m 23 #[.val (.ref d), .val (.int (Int32.ofNat mm)), .val (.ref b3)] [(.ref d), (.int (0 : Int32)), (.ref b3), (.int (0 : Int32)), (.ref d)])) rfl rfl (hb hby own_d_jdk_65_method_121_code_23) _ ?_
      rw [len_of S9 NN9]
      show Steps p.tables e below (T3.setTop (mkF m 24 #[.val (.ref d), .val (.int (Int32.ofNat mm)), .val (.ref b3)] [(.int (Int32.ofNat N)), (.int (0 : Int32)), (.ref b3), (.int (0 : Int32)), (.ref d)])) _
      refine XS.iloadN X3.here hx rfl (hb hby own_d_jdk_65_method_121_code_24) rfl ?_
      show Steps p.tables e below (T3.setTop (mkF m 25 #[.val (.ref d), .val (.int (Int32.ofNat mm)), .val (.ref b3)] [(.int (Int32.ofNat mm)), (.int (Int32.ofNat N)), (.int (0 : Int32)), (.ref b3), (.int (0 : Int32)), (.ref d)])) _
      refine st10 _ ?_
      show Steps p.tables e below (T10.setTop (mkF m 28 #[.val (.ref d), .val (.int (Int32.ofNat mm)), .val (.ref b3)] [(.int (Int32.ofNat (min N mm))), (.int (0 : Int32)), (.ref b3), (.int (0 : Int32)), (.ref d)])) _
      exact kk_)
  have r12 : GoTo p.tables e below s₁ (own_F_own_copyOf m d mm) T10 (mkF m 28 #[.val (.ref d), .val (.int (Int32.ofNat mm)), .val (.ref b3)] [(.int (Int32.ofNat N)), (.int (0 : Int32)), (.ref b3), (.int (0 : Int32)), (.ref d)]) := Eq.mp (congrArg (fun zz_ => GoTo p.tables e below s₁ (own_F_own_copyOf m d mm) T10 (mkF m 28 #[.val (.ref d), .val (.int (Int32.ofNat mm)), .val (.ref b3)] [(.int zz_), (.int (0 : Int32)), (.ref b3), (.int (0 : Int32)), (.ref d)])) (show (Int32.ofNat (min N mm)) = (Int32.ofNat N) from by rw [Nat.min_eq_left (Nat.le_of_lt hNm)])) r11
  have hN6 : N ≤ 1000000 := by omega
  have hm6 : mm ≤ 1000000 := by omega
  obtain ⟨us13, hus13⟩ : ∃ us : List Value, us = (List.range N).map fun i => (vs1).getD (0 + i) (.int 0) := ⟨_, rfl⟩
  obtain ⟨T13, h13, L13, X13, e13, N13, Kc13, V13, st13⟩ := cpA X10 hx hZ hown (hw _ (List.mem_of_getElem? (i := 181) rfl)) (hw _ (List.mem_of_getElem? (i := 137) rfl)) (hw _ (List.mem_of_getElem? (i := 135) rfl)) (hw _ (List.mem_of_getElem? (i := 136) rfl)) hh10 (us := us13) f8 Vp (Or.inl ⟨rfl, rfl⟩) (own_negN (by decide : (0 : Nat) ≤ 1000000)) (own_negN (by decide : (0 : Nat) ≤ 1000000)) (own_negN hN6) (by have q0 : (Int32.ofNat 0).toNatClampNeg = 0 := rfl; have q0' : (0 : Int32).toNatClampNeg = 0 := rfl; have q1 := own_clamp hN6; (try simp only [List.length_replicate]); omega) (by have q0 : (Int32.ofNat 0).toNatClampNeg = 0 := rfl; have q0' : (0 : Int32).toNatClampNeg = 0 := rfl; have q1 := own_clamp hN6; have q2 := own_clamp hm6; (try simp only [List.length_replicate]); omega) (by rw [own_clamp hN6, own_clamp (by decide : (0 : Nat) ≤ 1000000)]; exact hus13) (by have q0 : (Int32.ofNat 0).toNatClampNeg = 0 := rfl; have q0' : (0 : Int32).toNatClampNeg = 0 := rfl; have q1 := own_clamp hN6; (try simp only [List.length_replicate]); omega) N10 g5 (g := (mkF m 28 #[.val (.ref d), .val (.int (Int32.ofNat mm)), .val (.ref b3)] [(.int (Int32.ofNat N)), (.int (0 : Int32)), (.ref b3), (.int (0 : Int32)), (.ref d)])) rfl (by rw [hml]; rfl) rfl (hb hby own_d_jdk_65_method_121_code_28) (by decide) (W := 0) (by show 2 * 0 + _ ≤ _; exact Nat.le_of_eq rfl) (by decide)
  rw [own_clamp (by decide : (0 : Nat) ≤ 1000000), own_clamp hN6] at V13
  have K14 : Keep h0 h13 [] := K7.trans Kc13 (allS (Or.inr b6) all0)
  have f15 : Exa Z h13 b3 "[B" := (Ex3.keep Kc13)
  obtain ⟨fs, hr, hrun, hended, hW, hsame⟩ := X13.leave (v := some (.ref b3)) (fun h => by rw [Bd.returns] at h; cases h)
  refine ⟨_, _, r12 _ ?_, hrun, hended, _, _, rfl, ?_, ⟨_, rfl⟩, hW, hsame.mono (by decide) (by decide)⟩
  · show Steps p.tables e below (T10.setTop (mkF m 28 #[.val (.ref d), .val (.int (Int32.ofNat mm)), .val (.ref b3)] [(.int (Int32.ofNat N)), (.int (0 : Int32)), (.ref b3), (.int (0 : Int32)), (.ref d)])) _
    refine st13 _ ?_
    show Steps p.tables e below (T13.setTop (mkF m 31 #[.val (.ref d), .val (.int (Int32.ofNat mm)), .val (.ref b3)] [])) _
    refine XS.aloadN X13.here hx rfl (hb hby own_d_jdk_65_method_121_code_31) rfl rfl ?_
    show Steps p.tables e below (T13.setTop (mkF m 32 #[.val (.ref d), .val (.int (Int32.ofNat mm)), .val (.ref b3)] [(.ref b3)])) _
    exact retOut X13 hx (t := (.array .byte)) Bd.returns rfl (Or.inr (Or.inr (Or.inr (Or.inr ⟨rfl, rfl, rfl⟩)))) (hb hby own_d_jdk_65_method_121_code_32) hr
  · show Q_own_copyOf Z d kd N cs mm h0 n0 _ T13.heap _
    rw [e13]
    exact ⟨b3, k3, rfl, N13, K14, b6, g5, own_By.cp f15 hm6 (hp0.2.1) (Nat.le_of_lt hNm) hus13 hvc1 V13⟩
theorem own_pn_own_ens : plainName "java/lang/AbstractStringBuilder" = true := by first | (simp [plainName, overriddenIn]; done) | decide +kernel
theorem own_ef_own_ens (m : MethodId) (b : Addr) (mm : Nat) : entryFrame m #[(.ref b), (.int (Int32.ofNat mm))] 3 = mkF m 0 #[.val (.ref b), .val (.int (Int32.ofNat mm)), .unset] [] := by first | (simp [entryFrame, mkF, argsToLocals, own_cI, own_cJ, own_cR, own_cN]; done) | rfl
abbrev own_F_own_ens (m : MethodId) (b : Addr) (mm : Nat) : JFrame := entryFrame m #[(.ref b), (.int (Int32.ofNat mm))] 3
def Q_own_ens (Z : State) (b : Addr) (d : Addr) (kd : ClassId) (N : Nat) (cs : List Int32) (mm : Nat) (h0 : Heap) (n0 : Nat) (v : Option Value) (h : Heap) (L : List Loc) : Prop := ∃ (d2 : Addr), ∃ (k2 : ClassId), ∃ (N2 : Nat), v = none ∧ Fr n0 L ∧ Keep h0 h [b] ∧ (d2 = d ∨ h0.size ≤ d2) ∧ (n0 ≤ d2) ∧ (own_SB Z h b d2 k2 N2 cs) ∧ (mm ≤ N2 ∧ N ≤ N2 ∧ (N2 = N ∨ N2 ≤ 200))
set_option maxRecDepth 65536 in
set_option maxHeartbeats 40000000 in
theorem own_ens (l : Launch) (Z : State) (a0 : Array Value) (hw : ∀ d ∈ tables_1, d.before a0 Z = true) (ws : List Jvm.Cond) (b : Addr) (d : Addr) (kd : ClassId) (N : Nat) (cs : List Int32) (mm : Nat) (h0 : Heap) (n0 : Nat) (O0 : Old Z n0 h0) (hp0 : own_SB Z h0 b d kd N cs) (hp1 : n0 ≤ b) (hp2 : n0 ≤ d) (hmm : mm ≤ 200000) (hNp : 0 < N) (hcap : N < mm → N + max (mm - N) (N + 2) ≤ 200) (hNb : N ≤ 100000) :
    MetFree l (⟨"java/lang/AbstractStringBuilder", "ensureCapacityInternal", "(I)V"⟩ : MethodName) (head1 (Jvm.Cond.code (⟨"java/lang/AbstractStringBuilder", "ensureCapacityInternal", "(I)V"⟩ : MethodName) jdk_68_method_9_code 3 none :: ws) ({ frames := 3, cells := 1, slots := 200, locals := 48 } : Room)) (fun aa_ U_ => aa_ = #[(.ref b), (.int (Int32.ofNat mm))] ∧ Z.Warmed39 U_.vm ∧ U_.heap = h0) (fun _ _ _ _ _ => True) (fun _ U_ o_ V_ => ∃ v_ L_, o_ = .returned v_ ∧ Q_own_ens Z b d kd N cs mm h0 n0 v_ V_.heap L_ ∧ FrameEnd U_ o_ V_ L_ ({ frames := 3, cells := 1, slots := 200, locals := 48 } : Room).cells ({ frames := 3, cells := 1, slots := 200, locals := 48 } : Room).slots) := by
  refine MetFree.of_bodySF (plainFor_of_name own_pn_own_ens) hisR ?_
  intro p e s m args below meth c s₁ Bd hml0 hP hK
  obtain ⟨rfl, hZ, hh⟩ := hP
  have hx := Bd.exec
  have hby := Bd.bytes
  have hml : c.maxLocals = 3 := hml0
  have hown : s.vm.findClass "java/lang/AbstractStringBuilder" = some m.cls := findClass_of_methodNamed Bd.named
  have hnm := (name_of_methodNamed Bd.named Bd.method).1
  have X0 : Stand p l e ({ frames := 3, cells := 1, slots := 200, locals := 48 } : Room) s m #[(.ref b), (.int (Int32.ofNat mm))] below meth c s₁ [] 0 0 := Stand.of_body Bd
  have e0 : s₁.heap = h0 := by rw [← hh, Bd.state]; rfl
  have N0 := Fr.nil n0
  have K0 : Keep h0 h0 [b] := Keep.refl _ _
  have r0 : GoTo p.tables e below s₁ (own_F_own_ens m b mm) s₁ (mkF m 0 #[.val (.ref b), .val (.int (Int32.ofNat mm)), .unset] []) := fun tt_ kk_ => castTop (own_ef_own_ens m b mm) kk_
  obtain ⟨vs1, hvl1, hva1, hvc1⟩ := own_By.arv hp0.2.2.2.2.1
  have hNs : N ≤ 1000000 := hp0.2.2.2.2.1.2.2.1
  obtain ⟨T2, X2, e2, st2⟩ := getF X0 hx hZ hown (host := "") (Or.inl (hw _ (List.mem_of_getElem? (i := 76) rfl))) Via.refl e0 hp0.2.1 (g := (mkF m 1 #[.val (.ref b), .val (.int (Int32.ofNat mm)), .unset] [(.ref b)])) rfl rfl (hb hby own_d_jdk_68_method_9_code_1)
  obtain ⟨cl3, Ar3, q3, S3, NN3, H3, G3⟩ := id hva1
  obtain ⟨T4, X4, e4, st4⟩ := getF X2 hx hZ hown (host := "") (Or.inl (hw _ (List.mem_of_getElem? (i := 78) rfl))) Via.refl e2 hp0.2.2.1 (g := (mkF m 6 #[.val (.ref b), .val (.int (Int32.ofNat mm)), .unset] [(.ref b), (.int (Int32.ofNat N))])) rfl rfl (hb hby own_d_jdk_68_method_9_code_6)
  have r5 : GoTo p.tables e below s₁ (own_F_own_ens m b mm) T4 (mkF m 10 #[.val (.ref b), .val (.int (Int32.ofNat mm)), .unset] [(.int ((Int32.ofNat N) >>> ((0 : Int32) &&& 31)))]) := fun tt_ kk_ => r0 tt_ (by
      show Steps p.tables e below (s₁.setTop (mkF m 0 #[.val (.ref b), .val (.int (Int32.ofNat mm)), .unset] [])) _
      refine XS.aloadN X0.here hx rfl (hb hby own_d_jdk_68_method_9_code_0) rfl rfl ?_
      show Steps p.tables e below (s₁.setTop (mkF m 1 #[.val (.ref b), .val (.int (Int32.ofNat mm)), .unset] [(.ref b)])) _
      refine st2 _ ?_
      show Steps p.tables e below (T2.setTop (mkF m 4 #[.val (.ref b), .val (.int (Int32.ofNat mm)), .unset] [(.ref d)])) _
      refine X2.arraylength hx (by rw [e2]; exact Ar3.1) (State.isArrayOf_alike hZ.alike Ar3.2.1) (g := (mkF m 4 #[.val (.ref b), .val (.int (Int32.ofNat mm)), .unset] [(.ref d)])) rfl rfl (hb hby own_d_jdk_68_method_9_code_4) _ ?_
      rw [len_of S3 NN3]
      show Steps p.tables e below (T2.setTop (mkF m 5 #[.val (.ref b), .val (.int (Int32.ofNat mm)), .unset] [(.int (Int32.ofNat N))])) _
      refine XS.aloadN X2.here hx rfl (hb hby own_d_jdk_68_method_9_code_5) rfl rfl ?_
      show Steps p.tables e below (T2.setTop (mkF m 6 #[.val (.ref b), .val (.int (Int32.ofNat mm)), .unset] [(.ref b), (.int (Int32.ofNat N))])) _
      refine st4 _ ?_
      show Steps p.tables e below (T4.setTop (mkF m 9 #[.val (.ref b), .val (.int (Int32.ofNat mm)), .unset] [(.int (0 : Int32)), (.int (Int32.ofNat N))])) _
      refine XS.ishr X4.here hx rfl (hb hby own_d_jdk_68_method_9_code_9) rfl ?_
      show Steps p.tables e below (T4.setTop (mkF m 10 #[.val (.ref b), .val (.int (Int32.ofNat mm)), .unset] [(.int ((Int32.ofNat N) >>> ((0 : Int32) &&& 31)))])) _
      exact kk_)
  have r6 : GoTo p.tables e below s₁ (own_F_own_ens m b mm) T4 (mkF m 10 #[.val (.ref b), .val (.int (Int32.ofNat mm)), .unset] [(.int (Int32.ofNat N))]) := Eq.mp (congrArg (fun zz_ => GoTo p.tables e below s₁ (own_F_own_ens m b mm) T4 (mkF m 10 #[.val (.ref b), .val (.int (Int32.ofNat mm)), .unset] [(.int zz_)])) (show ((Int32.ofNat N) >>> ((0 : Int32) &&& 31)) = (Int32.ofNat N) from own_shr0 _)) r5
  have r7 : GoTo p.tables e below s₁ (own_F_own_ens m b mm) T4 (mkF m 14 #[.val (.ref b), .val (.int (Int32.ofNat mm)), .val (.int (Int32.ofNat N))] [(.int ((Int32.ofNat mm) - (Int32.ofNat N)))]) := fun tt_ kk_ => r6 tt_ (by
      show Steps p.tables e below (T4.setTop (mkF m 10 #[.val (.ref b), .val (.int (Int32.ofNat mm)), .unset] [(.int (Int32.ofNat N))])) _
      refine XS.istoreN X4.here hx rfl (hb hby own_d_jdk_68_method_9_code_10) rfl (l' := #[.val (.ref b), .val (.int (Int32.ofNat mm)), .val (.int (Int32.ofNat N))]) rfl ?_
      show Steps p.tables e below (T4.setTop (mkF m 11 #[.val (.ref b), .val (.int (Int32.ofNat mm)), .val (.int (Int32.ofNat N))] [])) _
      refine XS.iloadN X4.here hx rfl (hb hby own_d_jdk_68_method_9_code_11) rfl ?_
      show Steps p.tables e below (T4.setTop (mkF m 12 #[.val (.ref b), .val (.int (Int32.ofNat mm)), .val (.int (Int32.ofNat N))] [(.int (Int32.ofNat mm))])) _
      refine XS.iloadN X4.here hx rfl (hb hby own_d_jdk_68_method_9_code_12) rfl ?_
      show Steps p.tables e below (T4.setTop (mkF m 13 #[.val (.ref b), .val (.int (Int32.ofNat mm)), .val (.int (Int32.ofNat N))] [(.int (Int32.ofNat N)), (.int (Int32.ofNat mm))])) _
      refine XS.isub X4.here hx rfl (hb hby own_d_jdk_68_method_9_code_13) rfl ?_
      show Steps p.tables e below (T4.setTop (mkF m 14 #[.val (.ref b), .val (.int (Int32.ofNat mm)), .val (.int (Int32.ofNat N))] [(.int ((Int32.ofNat mm) - (Int32.ofNat N)))])) _
      exact kk_)
  by_cases hmN : N < mm
  · obtain ⟨T8, X8, e8, st8⟩ := getF X4 hx hZ hown (host := "") (Or.inl (hw _ (List.mem_of_getElem? (i := 76) rfl))) Via.refl e4 hp0.2.1 (g := (mkF m 19 #[.val (.ref b), .val (.int (Int32.ofNat mm)), .val (.int (Int32.ofNat N))] [(.ref b), (.ref b)])) rfl rfl (hb hby own_d_jdk_68_method_9_code_19)
    obtain ⟨cq9, qa9, qb9⟩ := hp0.1.cell
    obtain ⟨_, _, ⟨T9, L9, k9, n9⟩, -, X9, ⟨Lc9, hQ9, l9, y9, z9⟩, st9⟩ := X8.privateBack hx (y := (⟨"java/lang/AbstractStringBuilder", "newCapacity", "(I)I"⟩ : MethodName)) hown (mvT hZ (hw _ (List.mem_of_getElem? (i := 210) rfl))) (mvT hZ (hw _ (List.mem_of_getElem? (i := 211) rfl))) (own_selfSel (mvT hZ (hw _ (List.mem_of_getElem? (i := 213) rfl))) (Cond.privateMethod_at (mvP hZ (hw _ (List.mem_of_getElem? (i := 212) rfl)) (args := #[]))) (mvT hZ (hw _ (List.mem_of_getElem? (i := 211) rfl))) (by decide)) (Cond.privateMethod_at (mvP hZ (hw _ (List.mem_of_getElem? (i := 212) rfl)) (args := #[]))) (mvT hZ (hw _ (List.mem_of_getElem? (i := 214) rfl))) (by decide) (backOf (W := 2) (own_newCap l Z a0 hw [] (b) (d) (kd) (N) (cs) (mm) h0 n0 (O0.keep K0 (allS hp1 all0)) (hp0.2.1) (hp0.2.2.1) (hp0.2.2.2.2.1) (hmm) (hNb) (hNp) (Nat.le_of_lt hmN)) hZ (hw _ (List.mem_of_getElem? (i := 214) rfl)) (hw _ (List.mem_of_getElem? (i := 72) rfl)) (by decide) (by decide)) (g := (mkF m 24 #[.val (.ref b), .val (.int (Int32.ofNat mm)), .val (.int (Int32.ofNat N))] [(.int (Int32.ofNat mm)), (.ref b), (.ref d), (.ref b)])) rfl (by rw [hml]; rfl) (Steps.refl _) (a := b) (by rw [e8]; exact qa9) qb9 (argsL := [(.int (Int32.ofNat mm))]) (rest := [(.ref d), (.ref b)]) (lenOf own_pd3 rfl) rfl (by show 2 * 0 + _ ≤ _; exact Nat.le_of_eq rfl) (hb hby own_d_jdk_68_method_9_code_24) (fun _ _ => ⟨rfl, e8, (by decide : 0 + 0 ≤ _), (by decide : 0 + 0 ≤ _)⟩)
    dsimp only [Pt.U, Pt.locs, Pt.cells, Pt.slots] at X9 l9 y9 z9 st9 hQ9
    subst l9 y9 z9
    obtain ⟨rfl, Nq9, hh9⟩ := hQ9
    have N9 := Fr.app N0 Nq9
    obtain ⟨T10, X10, e10, st10⟩ := getF X9 hx hZ hown (host := "") (Or.inl (hw _ (List.mem_of_getElem? (i := 78) rfl))) Via.refl hh9 hp0.2.2.1 (g := (mkF m 28 #[.val (.ref b), .val (.int (Int32.ofNat mm)), .val (.int (Int32.ofNat N))] [(.ref b), (.int (Int32.ofNat (N + max (mm - N) (N + 2)))), (.ref d), (.ref b)])) rfl rfl (hb hby own_d_jdk_68_method_9_code_28)
    have r11 : GoTo p.tables e below s₁ (own_F_own_ens m b mm) T10 (mkF m 32 #[.val (.ref b), .val (.int (Int32.ofNat mm)), .val (.int (Int32.ofNat N))] [(.int ((Int32.ofNat (N + max (mm - N) (N + 2))) <<< ((0 : Int32) &&& 31))), (.ref d), (.ref b)]) := fun tt_ kk_ => r7 tt_ (by
        show Steps p.tables e below (T4.setTop (mkF m 14 #[.val (.ref b), .val (.int (Int32.ofNat mm)), .val (.int (Int32.ofNat N))] [(.int ((Int32.ofNat mm) - (Int32.ofNat N)))])) _
        refine XS.ifNo X4.here hx rfl (hb hby own_d_jdk_68_method_9_code_14) rfl ((if0 _ _).trans (tlt ((own_posN (by omega) hNs).mpr hmN)).2.2.2) ?_
        show Steps p.tables e below (T4.setTop (mkF m 17 #[.val (.ref b), .val (.int (Int32.ofNat mm)), .val (.int (Int32.ofNat N))] [])) _
        refine XS.aloadN X4.here hx rfl (hb hby own_d_jdk_68_method_9_code_17) rfl rfl ?_
        show Steps p.tables e below (T4.setTop (mkF m 18 #[.val (.ref b), .val (.int (Int32.ofNat mm)), .val (.int (Int32.ofNat N))] [(.ref b)])) _
        refine XS.aloadN X4.here hx rfl (hb hby own_d_jdk_68_method_9_code_18) rfl rfl ?_
        show Steps p.tables e below (T4.setTop (mkF m 19 #[.val (.ref b), .val (.int (Int32.ofNat mm)), .val (.int (Int32.ofNat N))] [(.ref b), (.ref b)])) _
        refine st8 _ ?_
        show Steps p.tables e below (T8.setTop (mkF m 22 #[.val (.ref b), .val (.int (Int32.ofNat mm)), .val (.int (Int32.ofNat N))] [(.ref d), (.ref b)])) _
        refine XS.aloadN X8.here hx rfl (hb hby own_d_jdk_68_method_9_code_22) rfl rfl ?_
        show Steps p.tables e below (T8.setTop (mkF m 23 #[.val (.ref b), .val (.int (Int32.ofNat mm)), .val (.int (Int32.ofNat N))] [(.ref b), (.ref d), (.ref b)])) _
        refine XS.iloadN X8.here hx rfl (hb hby own_d_jdk_68_method_9_code_23) rfl ?_
        show Steps p.tables e below (T8.setTop (mkF m 24 #[.val (.ref b), .val (.int (Int32.ofNat mm)), .val (.int (Int32.ofNat N))] [(.int (Int32.ofNat mm)), (.ref b), (.ref d), (.ref b)])) _
        refine st9.trans ?_
        show Steps p.tables e below (T9.setTop (mkF m 27 #[.val (.ref b), .val (.int (Int32.ofNat mm)), .val (.int (Int32.ofNat N))] [(.int (Int32.ofNat (N + max (mm - N) (N + 2)))), (.ref d), (.ref b)])) _
        refine XS.aloadN X9.here hx rfl (hb hby own_d_jdk_68_method_9_code_27) rfl rfl ?_
        show Steps p.tables e below (T9.setTop (mkF m 28 #[.val (.ref b), .val (.int (Int32.ofNat mm)), .val (.int (Int32.ofNat N))] [(.ref b), (.int (Int32.ofNat (N + max (mm - N) (N + 2)))), (.ref d), (.ref b)])) _
        refine st10 _ ?_
        show Steps p.tables e below (T10.setTop (mkF m 31 #[.val (.ref b), .val (.int (Int32.ofNat mm)), .val (.int (Int32.ofNat N))] [(.int (0 : Int32)), (.int (Int32.ofNat (N + max (mm - N) (N + 2)))), (.ref d), (.ref b)])) _
        refine XS.ishl X10.here hx rfl (hb hby own_d_jdk_68_method_9_code_31) rfl ?_
        show Steps p.tables e below (T10.setTop (mkF m 32 #[.val (.ref b), .val (.int (Int32.ofNat mm)), .val (.int (Int32.ofNat N))] [(.int ((Int32.ofNat (N + max (mm - N) (N + 2))) <<< ((0 : Int32) &&& 31))), (.ref d), (.ref b)])) _
        exact kk_)
    have r12 : GoTo p.tables e below s₁ (own_F_own_ens m b mm) T10 (mkF m 32 #[.val (.ref b), .val (.int (Int32.ofNat mm)), .val (.int (Int32.ofNat N))] [(.int (Int32.ofNat (N + max (mm - N) (N + 2)))), (.ref d), (.ref b)]) := Eq.mp (congrArg (fun zz_ => GoTo p.tables e below s₁ (own_F_own_ens m b mm) T10 (mkF m 32 #[.val (.ref b), .val (.int (Int32.ofNat mm)), .val (.int (Int32.ofNat N))] [(.int zz_), (.ref d), (.ref b)])) (show ((Int32.ofNat (N + max (mm - N) (N + 2))) <<< ((0 : Int32) &&& 31)) = (Int32.ofNat (N + max (mm - N) (N + 2))) from own_shl0 _)) r11
    obtain ⟨_, _, ⟨T13, L13, k13, n13⟩, -, X13, ⟨Lc13, hQ13, l13, y13, z13⟩, st13⟩ := Jvm.LawKit.callS X10 hx (y := (⟨"java/util/Arrays", "copyOf", "([BI)[B"⟩ : MethodName)) hown (mvT hZ (hw _ (List.mem_of_getElem? (i := 222) rfl))) (mvT hZ (hw _ (List.mem_of_getElem? (i := 223) rfl))) (mvT hZ (hw _ (List.mem_of_getElem? (i := 170) rfl))) (mvT hZ (hw _ (List.mem_of_getElem? (i := 224) rfl))) (by decide) (backOf (W := 1) (own_copyOf l Z a0 hw [] (d) (kd) (N) (cs) ((N + max (mm - N) (N + 2))) h0 n0 (O0.keep K0 (allS hp1 all0)) (hp0.2.2.2.2.1) (hcap hmN) (by omega)) hZ (hw _ (List.mem_of_getElem? (i := 224) rfl)) (hw _ (List.mem_of_getElem? (i := 170) rfl)) (by decide) (by decide)) (g := (mkF m 32 #[.val (.ref b), .val (.int (Int32.ofNat mm)), .val (.int (Int32.ofNat N))] [(.int (Int32.ofNat (N + max (mm - N) (N + 2)))), (.ref d), (.ref b)])) rfl (by rw [hml]; rfl) (argsL := [(.ref d), (.int (Int32.ofNat (N + max (mm - N) (N + 2))))]) (rest := [(.ref b)]) (lenOf own_pd4 rfl) rfl (by show 2 * 0 + _ ≤ _; exact Nat.le_of_eq rfl) (hb hby own_d_jdk_68_method_9_code_32) (fun _ _ => ⟨rfl, e10, (by decide : 0 + 1 ≤ _), (by decide : 0 + 200 ≤ _)⟩)
    dsimp only [Pt.U, Pt.locs, Pt.cells, Pt.slots] at X13 l13 y13 z13 st13 hQ13
    subst l13 y13 z13
    obtain ⟨b2_13, k2_13, rfl, Nq13, Kq13, po13_0, po13_1, po13_2⟩ := hQ13
    have N13 := Fr.app N9 Nq13
    have ne14 : b ≠ b2_13 := Nat.ne_of_lt (Nat.lt_of_lt_of_le hp0.1.lt po13_0)
    have ne15 : d ≠ b2_13 := Nat.ne_of_lt (Nat.lt_of_lt_of_le hp0.2.2.2.2.1.lt po13_0)
    have g16 : n0 ≤ b2_13 := Nat.le_trans (Nat.le_trans (own_le O0) K0.1) po13_0
    have b17 : h0.size ≤ b2_13 := Nat.le_trans K0.1 po13_0
    have K18 : Keep h0 T13.heap [b] := K0.trans Kq13 all0
    have f19 : Fld Z T13.heap b "java/lang/AbstractStringBuilder" "value" "[B" (.ref d) := (hp0.2.1.keep Kq13 nin0)
    have f20 : Exa Z T13.heap b "java/lang/StringBuilder" := (hp0.1.keep Kq13)
    obtain ⟨T21, h21, X21, e21, W21, st21⟩ := putF X13 hx hZ hown (host := "") (Or.inl (hw _ (List.mem_of_getElem? (i := 76) rfl))) Via.refl rfl f19 f20 (Or.inl (hw _ (List.mem_of_getElem? (i := 77) rfl))) (hw _ (List.mem_of_getElem? (i := 63) rfl)) (ty := (.array .byte)) (by decide) rfl rfl (g := (mkF m 35 #[.val (.ref b), .val (.int (Int32.ofNat mm)), .val (.int (Int32.ofNat N))] [(.ref b2_13), (.ref b)])) rfl rfl (hb hby own_d_jdk_68_method_9_code_35)
    have K22 : Keep h0 h21 [b] := K18.wr W21 (Or.inl (List.mem_of_getElem? (i := 0) rfl))
    have Fw21 : Fld Z h21 b "java/lang/AbstractStringBuilder" "value" "[B" (.ref b2_13) := f19.same W21
    have N21 := Fr.snoc X21 N13 hp1
    have f23 : own_By Z h21 b2_13 k2_13 (N + max (mm - N) (N + 2)) cs := (po13_2.other W21 (Ne.symm ne14))
    have f24 : Exa Z h21 b "java/lang/StringBuilder" := (f20.wr W21)
    have f25 : Fld Z h21 b "java/lang/AbstractStringBuilder" "coder" "B" (.int (0 : Int32)) := ((hp0.2.2.1.keep Kq13 nin0).other W21 (Or.inr (Jvm.RoadKit.slot_ne (Or.inl (hw _ (List.mem_of_getElem? (i := 79) rfl))) (Or.inl (hw _ (List.mem_of_getElem? (i := 77) rfl))) (by decide) (t := .byte) (t' := (.array .byte)) (by decide) (by decide))))
    have f26 : Fld Z h21 b "java/lang/AbstractStringBuilder" "count" "I" (.int (Int32.ofNat cs.length)) := ((hp0.2.2.2.1.keep Kq13 nin0).other W21 (Or.inr (Jvm.RoadKit.slot_ne (Or.inl (hw _ (List.mem_of_getElem? (i := 112) rfl))) (Or.inl (hw _ (List.mem_of_getElem? (i := 77) rfl))) (by decide) (t := .int) (t' := (.array .byte)) (by decide) (by decide))))
    obtain ⟨fs, hr, hrun, hended, hW, hsame⟩ := X21.leave (v := none) (fun _ => rfl)
    refine ⟨_, _, r12 _ ?_, hrun, hended, _, _, rfl, ?_, ⟨_, rfl⟩, hW, hsame.mono (by decide) (by decide)⟩
    · show Steps p.tables e below (T10.setTop (mkF m 32 #[.val (.ref b), .val (.int (Int32.ofNat mm)), .val (.int (Int32.ofNat N))] [(.int (Int32.ofNat (N + max (mm - N) (N + 2)))), (.ref d), (.ref b)])) _
      refine st13 _ ?_
      show Steps p.tables e below (T13.setTop (mkF m 35 #[.val (.ref b), .val (.int (Int32.ofNat mm)), .val (.int (Int32.ofNat N))] [(.ref b2_13), (.ref b)])) _
      refine st21 _ ?_
      show Steps p.tables e below (T21.setTop (mkF m 38 #[.val (.ref b), .val (.int (Int32.ofNat mm)), .val (.int (Int32.ofNat N))] [])) _
      exact X21.returnOut hx Bd.returns (hb hby own_d_jdk_68_method_9_code_38) hr
    · show Q_own_ens Z b d kd N cs mm h0 n0 _ T21.heap _
      rw [e21]
      exact ⟨b2_13, k2_13, (N + max (mm - N) (N + 2)), rfl, N21, K22, Or.inr b17, po13_1, ⟨f24, Fw21, f25, f26, f23, hp0.2.2.2.2.2⟩, ⟨by omega, by omega, Or.inr (hcap hmN)⟩⟩
  · obtain ⟨fs, hr, hrun, hended, hW, hsame⟩ := X4.leave (v := none) (fun _ => rfl)
    refine ⟨_, _, r7 _ ?_, hrun, hended, _, _, rfl, ?_, ⟨_, rfl⟩, hW, hsame.mono (by decide) (by decide)⟩
    · show Steps p.tables e below (T4.setTop (mkF m 14 #[.val (.ref b), .val (.int (Int32.ofNat mm)), .val (.int (Int32.ofNat N))] [(.int ((Int32.ofNat mm) - (Int32.ofNat N)))])) _
      refine XS.ifYes X4.here hx rfl (pc0 := 14) (pc' := 38) rfl (hb hby own_d_jdk_68_method_9_code_14) rfl ((if0 _ _).trans (flt (fun q => hmN ((own_posN (by omega) hNs).mp q))).2.2.2) (by decide) (by decide) ?_
      show Steps p.tables e below (T4.setTop (mkF m 38 #[.val (.ref b), .val (.int (Int32.ofNat mm)), .val (.int (Int32.ofNat N))] [])) _
      exact X4.returnOut hx Bd.returns (hb hby own_d_jdk_68_method_9_code_38) hr
    · show Q_own_ens Z b d kd N cs mm h0 n0 _ T4.heap _
      rw [e4]
      exact ⟨d, kd, N, rfl, N0, K0, Or.inl rfl, hp2, hp0, ⟨by omega, Nat.le_refl _, Or.inl rfl⟩⟩
theorem own_pn_own_coder : plainName "java/lang/String" = true := by first | (simp [plainName, overriddenIn]; done) | decide +kernel
theorem own_ef_own_coder (m : MethodId) (y : Addr) : entryFrame m #[(.ref y)] 1 = mkF m 0 #[.val (.ref y)] [] := by first | (simp [entryFrame, mkF, argsToLocals, own_cI, own_cJ, own_cR, own_cN]; done) | rfl
abbrev own_F_own_coder (m : MethodId) (y : Addr) : JFrame := entryFrame m #[(.ref y)] 1
def Q_own_coder (Z : State) (y : Addr) (gCS : Int32) (h0 : Heap) (n0 : Nat) (v : Option Value) (h : Heap) (L : List Loc) : Prop := v = some (.int (0 : Int32)) ∧ Fr n0 L ∧ h = h0
set_option maxRecDepth 65536 in
set_option maxHeartbeats 40000000 in
theorem own_coder (l : Launch) (Z : State) (a0 : Array Value) (hw : ∀ d ∈ tables_1, d.before a0 Z = true) (ws : List Jvm.Cond) (y : Addr) (gCS : Int32) (h0 : Heap) (n0 : Nat) (O0 : Old Z n0 h0) (hp0 : Fld Z h0 y "java/lang/String" "coder" "B" (.int (0 : Int32))) (hp1 : Sta Z Z.heap "java/lang/String" "COMPACT_STRINGS" "Z" (.int gCS)) (hG1 : ¬ gCS = (0 : Int32)) :
    MetFree l (⟨"java/lang/String", "coder", "()B"⟩ : MethodName) (head1 (Jvm.Cond.code (⟨"java/lang/String", "coder", "()B"⟩ : MethodName) jdk_42_method_152_code 1 (some .byte) :: ws) ({ frames := 0, cells := 0, slots := 0, locals := 0 } : Room)) (fun aa_ U_ => aa_ = #[(.ref y)] ∧ Z.Warmed39 U_.vm ∧ U_.heap = h0) (fun _ _ _ _ _ => True) (fun _ U_ o_ V_ => ∃ v_ L_, o_ = .returned v_ ∧ Q_own_coder Z y gCS h0 n0 v_ V_.heap L_ ∧ FrameEnd U_ o_ V_ L_ ({ frames := 0, cells := 0, slots := 0, locals := 0 } : Room).cells ({ frames := 0, cells := 0, slots := 0, locals := 0 } : Room).slots) := by
  refine MetFree.of_bodySF (plainFor_of_name own_pn_own_coder) hisR ?_
  intro p e s m args below meth c s₁ Bd hml0 hP hK
  obtain ⟨rfl, hZ, hh⟩ := hP
  have hx := Bd.exec
  have hby := Bd.bytes
  have hml : c.maxLocals = 1 := hml0
  have hown : s.vm.findClass "java/lang/String" = some m.cls := findClass_of_methodNamed Bd.named
  have hnm := (name_of_methodNamed Bd.named Bd.method).1
  have X0 : Stand p l e ({ frames := 0, cells := 0, slots := 0, locals := 0 } : Room) s m #[(.ref y)] below meth c s₁ [] 0 0 := Stand.of_body Bd
  have e0 : s₁.heap = h0 := by rw [← hh, Bd.state]; rfl
  have N0 := Fr.nil n0
  have K0 : Keep h0 h0 [] := Keep.refl _ _
  have r0 : GoTo p.tables e below s₁ (own_F_own_coder m y) s₁ (mkF m 0 #[.val (.ref y)] []) := fun tt_ kk_ => castTop (own_ef_own_coder m y) kk_
  obtain ⟨T1, X1, e1, st1⟩ := getS2 X0 hx hZ hown (host := "") (Or.inl (hw _ (List.mem_of_getElem? (i := 93) rfl))) Via.refl e0 (hp1.ext (O0.keep K0 all0).2) (g := (mkF m 0 #[.val (.ref y)] [])) rfl (hb hby own_d_jdk_42_method_152_code_0)
  obtain ⟨T2, X2, e2, st2⟩ := getF X1 hx hZ hown (host := "") (Or.inl (hw _ (List.mem_of_getElem? (i := 60) rfl))) Via.refl e1 hp0 (g := (mkF m 7 #[.val (.ref y)] [(.ref y)])) rfl rfl (hb hby own_d_jdk_42_method_152_code_7)
  obtain ⟨fs, hr, hrun, hended, hW, hsame⟩ := X2.leave (v := some (.int (nar .byte (0 : Int32)))) (fun h => by rw [Bd.returns] at h; cases h)
  refine ⟨_, _, r0 _ ?_, hrun, hended, _, _, rfl, ?_, ⟨_, rfl⟩, hW, hsame.mono (by decide) (by decide)⟩
  · show Steps p.tables e below (s₁.setTop (mkF m 0 #[.val (.ref y)] [])) _
    refine st1 _ ?_
    show Steps p.tables e below (T1.setTop (mkF m 3 #[.val (.ref y)] [(.int gCS)])) _
    refine XS.ifNo X1.here hx rfl (hb hby own_d_jdk_42_method_152_code_3) rfl ((if0 _ _).trans (feq hG1).1) ?_
    show Steps p.tables e below (T1.setTop (mkF m 6 #[.val (.ref y)] [])) _
    refine XS.aloadN X1.here hx rfl (hb hby own_d_jdk_42_method_152_code_6) rfl rfl ?_
    show Steps p.tables e below (T1.setTop (mkF m 7 #[.val (.ref y)] [(.ref y)])) _
    refine st2 _ ?_
    show Steps p.tables e below (T2.setTop (mkF m 10 #[.val (.ref y)] [(.int (0 : Int32))])) _
    refine XS.goto X2.here hx rfl (pc0 := 10) (pc' := 14) rfl (hb hby own_d_jdk_42_method_152_code_10) (by decide) (by decide) ?_
    show Steps p.tables e below (T2.setTop (mkF m 14 #[.val (.ref y)] [(.int (0 : Int32))])) _
    exact retN X2 hx (t := .byte) Bd.returns (by simp) (hb hby own_d_jdk_42_method_152_code_14) hr
  · show Q_own_coder Z y gCS h0 n0 _ T2.heap _
    rw [e2]
    exact ⟨rfl, N0, rfl⟩
theorem own_pn_own_strlen : plainName "java/lang/String" = true := by first | (simp [plainName, overriddenIn]; done) | decide +kernel
theorem own_ef_own_strlen (m : MethodId) (y : Addr) : entryFrame m #[(.ref y)] 1 = mkF m 0 #[.val (.ref y)] [] := by first | (simp [entryFrame, mkF, argsToLocals, own_cI, own_cJ, own_cR, own_cN]; done) | rfl
abbrev own_F_own_strlen (m : MethodId) (y : Addr) : JFrame := entryFrame m #[(.ref y)] 1
def Q_own_strlen (Z : State) (y : Addr) (ty : Addr) (ky : ClassId) (ds : List Int32) (gCS : Int32) (h0 : Heap) (n0 : Nat) (v : Option Value) (h : Heap) (L : List Loc) : Prop := v = some (.int (Int32.ofNat ds.length)) ∧ Fr n0 L ∧ h = h0
set_option maxRecDepth 65536 in
set_option maxHeartbeats 40000000 in
theorem own_strlen (l : Launch) (Z : State) (a0 : Array Value) (hw : ∀ d ∈ tables_1, d.before a0 Z = true) (ws : List Jvm.Cond) (y : Addr) (ty : Addr) (ky : ClassId) (ds : List Int32) (gCS : Int32) (h0 : Heap) (n0 : Nat) (O0 : Old Z n0 h0) (hp0 : own_Str Z h0 y ty ky ds) (hp1 : Sta Z Z.heap "java/lang/String" "COMPACT_STRINGS" "Z" (.int gCS)) (hG1 : ¬ gCS = (0 : Int32)) :
    MetFree l (⟨"java/lang/String", "length", "()I"⟩ : MethodName) (head1 (Jvm.Cond.code (⟨"java/lang/String", "length", "()I"⟩ : MethodName) jdk_42_method_54_code 1 (some .int) :: ws) ({ frames := 1, cells := 0, slots := 0, locals := 13 } : Room)) (fun aa_ U_ => aa_ = #[(.ref y)] ∧ Z.Warmed39 U_.vm ∧ U_.heap = h0) (fun _ _ _ _ _ => True) (fun _ U_ o_ V_ => ∃ v_ L_, o_ = .returned v_ ∧ Q_own_strlen Z y ty ky ds gCS h0 n0 v_ V_.heap L_ ∧ FrameEnd U_ o_ V_ L_ ({ frames := 1, cells := 0, slots := 0, locals := 13 } : Room).cells ({ frames := 1, cells := 0, slots := 0, locals := 13 } : Room).slots) := by
  refine MetFree.of_bodySF (plainFor_of_name own_pn_own_strlen) hisR ?_
  intro p e s m args below meth c s₁ Bd hml0 hP hK
  obtain ⟨rfl, hZ, hh⟩ := hP
  have hx := Bd.exec
  have hby := Bd.bytes
  have hml : c.maxLocals = 1 := hml0
  have hown : s.vm.findClass "java/lang/String" = some m.cls := findClass_of_methodNamed Bd.named
  have hnm := (name_of_methodNamed Bd.named Bd.method).1
  have X0 : Stand p l e ({ frames := 1, cells := 0, slots := 0, locals := 13 } : Room) s m #[(.ref y)] below meth c s₁ [] 0 0 := Stand.of_body Bd
  have e0 : s₁.heap = h0 := by rw [← hh, Bd.state]; rfl
  have N0 := Fr.nil n0
  have K0 : Keep h0 h0 [] := Keep.refl _ _
  have r0 : GoTo p.tables e below s₁ (own_F_own_strlen m y) s₁ (mkF m 0 #[.val (.ref y)] []) := fun tt_ kk_ => castTop (own_ef_own_strlen m y) kk_
  have hd4 := hp0.2.2.2.2.2
  obtain ⟨T1, X1, e1, st1⟩ := getF X0 hx hZ hown (host := "") (Or.inl (hw _ (List.mem_of_getElem? (i := 58) rfl))) Via.refl e0 hp0.2.1 (g := (mkF m 1 #[.val (.ref y)] [(.ref y)])) rfl rfl (hb hby own_d_jdk_42_method_54_code_1)
  obtain ⟨cl2, Ar2, q2, S2, NN2, H2, G2⟩ := id hp0.2.2.2.1
  obtain ⟨cq3, kq3, qa3, qb3, qc3⟩ := isOf hZ e1 hp0.1
  obtain ⟨_, _, ⟨T3, L3, k3, n3⟩, -, X3, ⟨Lc3, hQ3, l3, y3, z3⟩, st3⟩ := X1.virtualBack hx (y := (⟨"java/lang/String", "coder", "()B"⟩ : MethodName)) (z := (⟨"java/lang/String", "coder", "()B"⟩ : MethodName)) hown (mvT hZ (hw _ (List.mem_of_getElem? (i := 88) rfl))) (mvT hZ (hw _ (List.mem_of_getElem? (i := 89) rfl))) (notFace_of_selects (args := #[]) (mvT hZ (hw _ (List.mem_of_getElem? (i := 91) rfl)))) (mvT hZ (hw _ (List.mem_of_getElem? (i := 91) rfl))) (mvT hZ (hw _ (List.mem_of_getElem? (i := 90) rfl))) (by decide) (backOf (W := 1) (own_coder l Z a0 hw [] (y) (gCS) h0 n0 (O0.keep K0 all0) (hp0.2.2.1) (hp1) (hG1)) hZ (hw _ (List.mem_of_getElem? (i := 92) rfl)) (hw _ (List.mem_of_getElem? (i := 41) rfl)) (by decide) (by decide)) qa3 qc3 (g := (mkF m 6 #[.val (.ref y)] [(.ref y), (.int (Int32.ofNat ds.length))])) rfl (by rw [hml]; rfl) (Steps.refl _) (argsL := []) (rest := [(.int (Int32.ofNat ds.length))]) (lenOf own_pd5 rfl) rfl (by show 2 * 0 + _ ≤ _; exact Nat.le_of_eq rfl) (hb hby own_d_jdk_42_method_54_code_6) (fun _ _ => ⟨rfl, e1, (by decide : 0 + 0 ≤ _), (by decide : 0 + 0 ≤ _)⟩)
  dsimp only [Pt.U, Pt.locs, Pt.cells, Pt.slots] at X3 l3 y3 z3 st3 hQ3
  subst l3 y3 z3
  obtain ⟨rfl, Nq3, hh3⟩ := hQ3
  have N3 := Fr.app N0 Nq3
  have r4 : GoTo p.tables e below s₁ (own_F_own_strlen m y) T3 (mkF m 10 #[.val (.ref y)] [(.int ((Int32.ofNat ds.length) >>> ((0 : Int32) &&& 31)))]) := fun tt_ kk_ => r0 tt_ (by
      show Steps p.tables e below (s₁.setTop (mkF m 0 #[.val (.ref y)] [])) _
      refine XS.aloadN X0.here hx rfl (hb hby own_d_jdk_42_method_54_code_0) rfl rfl ?_
      show Steps p.tables e below (s₁.setTop (mkF m 1 #[.val (.ref y)] [(.ref y)])) _
      refine st1 _ ?_
      show Steps p.tables e below (T1.setTop (mkF m 4 #[.val (.ref y)] [(.ref ty)])) _
      refine X1.arraylength hx (by rw [e1]; exact Ar2.1) (State.isArrayOf_alike hZ.alike Ar2.2.1) (g := (mkF m 4 #[.val (.ref y)] [(.ref ty)])) rfl rfl (hb hby own_d_jdk_42_method_54_code_4) _ ?_
      rw [len_of S2 NN2]
      show Steps p.tables e below (T1.setTop (mkF m 5 #[.val (.ref y)] [(.int (Int32.ofNat ds.length))])) _
      refine XS.aloadN X1.here hx rfl (hb hby own_d_jdk_42_method_54_code_5) rfl rfl ?_
      show Steps p.tables e below (T1.setTop (mkF m 6 #[.val (.ref y)] [(.ref y), (.int (Int32.ofNat ds.length))])) _
      refine st3.trans ?_
      show Steps p.tables e below (T3.setTop (mkF m 9 #[.val (.ref y)] [(.int (0 : Int32)), (.int (Int32.ofNat ds.length))])) _
      refine XS.ishr X3.here hx rfl (hb hby own_d_jdk_42_method_54_code_9) rfl ?_
      show Steps p.tables e below (T3.setTop (mkF m 10 #[.val (.ref y)] [(.int ((Int32.ofNat ds.length) >>> ((0 : Int32) &&& 31)))])) _
      exact kk_)
  have r5 : GoTo p.tables e below s₁ (own_F_own_strlen m y) T3 (mkF m 10 #[.val (.ref y)] [(.int (Int32.ofNat ds.length))]) := Eq.mp (congrArg (fun zz_ => GoTo p.tables e below s₁ (own_F_own_strlen m y) T3 (mkF m 10 #[.val (.ref y)] [(.int zz_)])) (show ((Int32.ofNat ds.length) >>> ((0 : Int32) &&& 31)) = (Int32.ofNat ds.length) from own_shr0 _)) r4
  obtain ⟨fs, hr, hrun, hended, hW, hsame⟩ := X3.leave (v := some (.int (Int32.ofNat ds.length))) (fun h => by rw [Bd.returns] at h; cases h)
  refine ⟨_, _, r5 _ ?_, hrun, hended, _, _, rfl, ?_, ⟨_, rfl⟩, hW, hsame.mono (by decide) (by decide)⟩
  · show Steps p.tables e below (T3.setTop (mkF m 10 #[.val (.ref y)] [(.int (Int32.ofNat ds.length))])) _
    exact retI X3 hx Bd.returns (hb hby own_d_jdk_42_method_54_code_10) hr
  · show Q_own_strlen Z y ty ky ds gCS h0 n0 _ T3.heap _
    rw [hh3]
    exact ⟨rfl, N3, rfl⟩
theorem own_pn_own_sisL : plainName "java/lang/String" = true := by first | (simp [plainName, overriddenIn]; done) | decide +kernel
theorem own_ef_own_sisL (m : MethodId) (y : Addr) : entryFrame m #[(.ref y)] 1 = mkF m 0 #[.val (.ref y)] [] := by first | (simp [entryFrame, mkF, argsToLocals, own_cI, own_cJ, own_cR, own_cN]; done) | rfl
abbrev own_F_own_sisL (m : MethodId) (y : Addr) : JFrame := entryFrame m #[(.ref y)] 1
def Q_own_sisL (Z : State) (y : Addr) (gCS : Int32) (h0 : Heap) (n0 : Nat) (v : Option Value) (h : Heap) (L : List Loc) : Prop := v = some (.int (1 : Int32)) ∧ Fr n0 L ∧ h = h0
set_option maxRecDepth 65536 in
set_option maxHeartbeats 40000000 in
theorem own_sisL (l : Launch) (Z : State) (a0 : Array Value) (hw : ∀ d ∈ tables_1, d.before a0 Z = true) (ws : List Jvm.Cond) (y : Addr) (gCS : Int32) (h0 : Heap) (n0 : Nat) (O0 : Old Z n0 h0) (hp0 : Fld Z h0 y "java/lang/String" "coder" "B" (.int (0 : Int32))) (hp1 : Sta Z Z.heap "java/lang/String" "COMPACT_STRINGS" "Z" (.int gCS)) (hG1 : ¬ gCS = (0 : Int32)) :
    MetFree l (⟨"java/lang/String", "isLatin1", "()Z"⟩ : MethodName) (head1 (Jvm.Cond.code (⟨"java/lang/String", "isLatin1", "()Z"⟩ : MethodName) jdk_42_method_154_code 1 (some .boolean) :: ws) ({ frames := 0, cells := 0, slots := 0, locals := 0 } : Room)) (fun aa_ U_ => aa_ = #[(.ref y)] ∧ Z.Warmed39 U_.vm ∧ U_.heap = h0) (fun _ _ _ _ _ => True) (fun _ U_ o_ V_ => ∃ v_ L_, o_ = .returned v_ ∧ Q_own_sisL Z y gCS h0 n0 v_ V_.heap L_ ∧ FrameEnd U_ o_ V_ L_ ({ frames := 0, cells := 0, slots := 0, locals := 0 } : Room).cells ({ frames := 0, cells := 0, slots := 0, locals := 0 } : Room).slots) := by
  refine MetFree.of_bodySF (plainFor_of_name own_pn_own_sisL) hisR ?_
  intro p e s m args below meth c s₁ Bd hml0 hP hK
  obtain ⟨rfl, hZ, hh⟩ := hP
  have hx := Bd.exec
  have hby := Bd.bytes
  have hml : c.maxLocals = 1 := hml0
  have hown : s.vm.findClass "java/lang/String" = some m.cls := findClass_of_methodNamed Bd.named
  have hnm := (name_of_methodNamed Bd.named Bd.method).1
  have X0 : Stand p l e ({ frames := 0, cells := 0, slots := 0, locals := 0 } : Room) s m #[(.ref y)] below meth c s₁ [] 0 0 := Stand.of_body Bd
  have e0 : s₁.heap = h0 := by rw [← hh, Bd.state]; rfl
  have N0 := Fr.nil n0
  have K0 : Keep h0 h0 [] := Keep.refl _ _
  have r0 : GoTo p.tables e below s₁ (own_F_own_sisL m y) s₁ (mkF m 0 #[.val (.ref y)] []) := fun tt_ kk_ => castTop (own_ef_own_sisL m y) kk_
  obtain ⟨T1, X1, e1, st1⟩ := getS2 X0 hx hZ hown (host := "") (Or.inl (hw _ (List.mem_of_getElem? (i := 93) rfl))) Via.refl e0 (hp1.ext (O0.keep K0 all0).2) (g := (mkF m 0 #[.val (.ref y)] [])) rfl (hb hby own_d_jdk_42_method_154_code_0)
  obtain ⟨T2, X2, e2, st2⟩ := getF X1 hx hZ hown (host := "") (Or.inl (hw _ (List.mem_of_getElem? (i := 60) rfl))) Via.refl e1 hp0 (g := (mkF m 7 #[.val (.ref y)] [(.ref y)])) rfl rfl (hb hby own_d_jdk_42_method_154_code_7)
  obtain ⟨fs, hr, hrun, hended, hW, hsame⟩ := X2.leave (v := some (.int (nar .boolean (1 : Int32)))) (fun h => by rw [Bd.returns] at h; cases h)
  refine ⟨_, _, r0 _ ?_, hrun, hended, _, _, rfl, ?_, ⟨_, rfl⟩, hW, hsame.mono (by decide) (by decide)⟩
  · show Steps p.tables e below (s₁.setTop (mkF m 0 #[.val (.ref y)] [])) _
    refine st1 _ ?_
    show Steps p.tables e below (T1.setTop (mkF m 3 #[.val (.ref y)] [(.int gCS)])) _
    refine XS.ifNo X1.here hx rfl (hb hby own_d_jdk_42_method_154_code_3) rfl ((if0 _ _).trans (feq hG1).1) ?_
    show Steps p.tables e below (T1.setTop (mkF m 6 #[.val (.ref y)] [])) _
    refine XS.aloadN X1.here hx rfl (hb hby own_d_jdk_42_method_154_code_6) rfl rfl ?_
    show Steps p.tables e below (T1.setTop (mkF m 7 #[.val (.ref y)] [(.ref y)])) _
    refine st2 _ ?_
    show Steps p.tables e below (T2.setTop (mkF m 10 #[.val (.ref y)] [(.int (0 : Int32))])) _
    refine XS.ifNo X2.here hx rfl (hb hby own_d_jdk_42_method_154_code_10) rfl ((if0 _ _).trans (teq rfl).2) ?_
    show Steps p.tables e below (T2.setTop (mkF m 13 #[.val (.ref y)] [])) _
    refine XS.iconst X2.here hx rfl (hb hby own_d_jdk_42_method_154_code_13) ?_
    show Steps p.tables e below (T2.setTop (mkF m 14 #[.val (.ref y)] [(.int (1 : Int32))])) _
    refine XS.goto X2.here hx rfl (pc0 := 14) (pc' := 18) rfl (hb hby own_d_jdk_42_method_154_code_14) (by decide) (by decide) ?_
    show Steps p.tables e below (T2.setTop (mkF m 18 #[.val (.ref y)] [(.int (1 : Int32))])) _
    exact retN X2 hx (t := .boolean) Bd.returns (by simp) (hb hby own_d_jdk_42_method_154_code_18) hr
  · show Q_own_sisL Z y gCS h0 n0 _ T2.heap _
    rw [e2]
    exact ⟨rfl, N0, rfl⟩
theorem own_pn_own_pchk : plainName "jdk/internal/util/Preconditions" = true := by first | (simp [plainName, overriddenIn]; done) | decide +kernel
theorem own_ef_own_pchk (m : MethodId) (i : Nat) (n : Nat) (gFM : Value) (hcv0 : gFM.category = 1) : entryFrame m #[(.int (Int32.ofNat i)), (.int (Int32.ofNat n)), gFM] 3 = mkF m 0 #[.val (.int (Int32.ofNat i)), .val (.int (Int32.ofNat n)), .val gFM] [] := by first | (simp [entryFrame, mkF, argsToLocals, own_cI, own_cJ, own_cR, own_cN, hcv0]; done) | rfl
abbrev own_F_own_pchk (m : MethodId) (i : Nat) (n : Nat) (gFM : Value) : JFrame := entryFrame m #[(.int (Int32.ofNat i)), (.int (Int32.ofNat n)), gFM] 3
def Q_own_pchk (Z : State) (i : Nat) (n : Nat) (gFM : Value) (h0 : Heap) (n0 : Nat) (v : Option Value) (h : Heap) (L : List Loc) : Prop := v = some (.int (Int32.ofNat i)) ∧ Fr n0 L ∧ h = h0
set_option maxRecDepth 65536 in
set_option maxHeartbeats 40000000 in
theorem own_pchk (l : Launch) (Z : State) (a0 : Array Value) (hw : ∀ d ∈ tables_1, d.before a0 Z = true) (ws : List Jvm.Cond) (i : Nat) (n : Nat) (gFM : Value) (h0 : Heap) (n0 : Nat) (O0 : Old Z n0 h0) (hG3 : gFM.isRef = true) (hin : i < n) (hn6 : n ≤ 1000000) :
    MetFree l (⟨"jdk/internal/util/Preconditions", "checkIndex", "(IILjava/util/function/BiFunction;)I"⟩ : MethodName) (head1 (Jvm.Cond.code (⟨"jdk/internal/util/Preconditions", "checkIndex", "(IILjava/util/function/BiFunction;)I"⟩ : MethodName) jdk_41_method_11_code 3 (some .int) :: ws) ({ frames := 0, cells := 0, slots := 0, locals := 0 } : Room)) (fun aa_ U_ => aa_ = #[(.int (Int32.ofNat i)), (.int (Int32.ofNat n)), gFM] ∧ Z.Warmed39 U_.vm ∧ U_.heap = h0) (fun _ _ _ _ _ => True) (fun _ U_ o_ V_ => ∃ v_ L_, o_ = .returned v_ ∧ Q_own_pchk Z i n gFM h0 n0 v_ V_.heap L_ ∧ FrameEnd U_ o_ V_ L_ ({ frames := 0, cells := 0, slots := 0, locals := 0 } : Room).cells ({ frames := 0, cells := 0, slots := 0, locals := 0 } : Room).slots) := by
  refine MetFree.of_bodySF (plainFor_of_name own_pn_own_pchk) hisR ?_
  intro p e s m args below meth c s₁ Bd hml0 hP hK
  obtain ⟨rfl, hZ, hh⟩ := hP
  have hx := Bd.exec
  have hby := Bd.bytes
  have hml : c.maxLocals = 3 := hml0
  have hown : s.vm.findClass "jdk/internal/util/Preconditions" = some m.cls := findClass_of_methodNamed Bd.named
  have hnm := (name_of_methodNamed Bd.named Bd.method).1
  have X0 : Stand p l e ({ frames := 0, cells := 0, slots := 0, locals := 0 } : Room) s m #[(.int (Int32.ofNat i)), (.int (Int32.ofNat n)), gFM] below meth c s₁ [] 0 0 := Stand.of_body Bd
  have e0 : s₁.heap = h0 := by rw [← hh, Bd.state]; rfl
  have N0 := Fr.nil n0
  have K0 : Keep h0 h0 [] := Keep.refl _ _
  have r0 : GoTo p.tables e below s₁ (own_F_own_pchk m i n gFM) s₁ (mkF m 0 #[.val (.int (Int32.ofNat i)), .val (.int (Int32.ofNat n)), .val gFM] []) := fun tt_ kk_ => castTop (own_ef_own_pchk m i n gFM (own_cat hG3)) kk_
  obtain ⟨fs, hr, hrun, hended, hW, hsame⟩ := X0.leave (v := some (.int (Int32.ofNat i))) (fun h => by rw [Bd.returns] at h; cases h)
  refine ⟨_, _, r0 _ ?_, hrun, hended, _, _, rfl, ?_, ⟨_, rfl⟩, hW, hsame.mono (by decide) (by decide)⟩
  · show Steps p.tables e below (s₁.setTop (mkF m 0 #[.val (.int (Int32.ofNat i)), .val (.int (Int32.ofNat n)), .val gFM] [])) _
    refine XS.iloadN X0.here hx rfl (hb hby own_d_jdk_41_method_11_code_0) rfl ?_
    show Steps p.tables e below (s₁.setTop (mkF m 1 #[.val (.int (Int32.ofNat i)), .val (.int (Int32.ofNat n)), .val gFM] [(.int (Int32.ofNat i))])) _
    refine XS.ifNo X0.here hx rfl (hb hby own_d_jdk_41_method_11_code_1) rfl ((if0 _ _).trans (flt (own_negN (by omega))).1) ?_
    show Steps p.tables e below (s₁.setTop (mkF m 4 #[.val (.int (Int32.ofNat i)), .val (.int (Int32.ofNat n)), .val gFM] [])) _
    refine XS.iloadN X0.here hx rfl (hb hby own_d_jdk_41_method_11_code_4) rfl ?_
    show Steps p.tables e below (s₁.setTop (mkF m 5 #[.val (.int (Int32.ofNat i)), .val (.int (Int32.ofNat n)), .val gFM] [(.int (Int32.ofNat i))])) _
    refine XS.iloadN X0.here hx rfl (hb hby own_d_jdk_41_method_11_code_5) rfl ?_
    show Steps p.tables e below (s₁.setTop (mkF m 6 #[.val (.int (Int32.ofNat i)), .val (.int (Int32.ofNat n)), .val gFM] [(.int (Int32.ofNat n)), (.int (Int32.ofNat i))])) _
    refine XS.icmpYes X0.here hx rfl (pc0 := 6) (pc' := 16) rfl (hb hby own_d_jdk_41_method_11_code_6) rfl (tlt ((own_ltN (by omega) hn6).mpr hin)).1 (by decide) (by decide) ?_
    show Steps p.tables e below (s₁.setTop (mkF m 16 #[.val (.int (Int32.ofNat i)), .val (.int (Int32.ofNat n)), .val gFM] [])) _
    refine XS.iloadN X0.here hx rfl (hb hby own_d_jdk_41_method_11_code_16) rfl ?_
    show Steps p.tables e below (s₁.setTop (mkF m 17 #[.val (.int (Int32.ofNat i)), .val (.int (Int32.ofNat n)), .val gFM] [(.int (Int32.ofNat i))])) _
    exact retI X0 hx Bd.returns (hb hby own_d_jdk_41_method_11_code_17) hr
  · show Q_own_pchk Z i n gFM h0 n0 _ s₁.heap _
    rw [e0]
    exact ⟨rfl, N0, rfl⟩
theorem own_pn_own_schk : plainName "java/lang/String" = true := by first | (simp [plainName, overriddenIn]; done) | decide +kernel
theorem own_ef_own_schk (m : MethodId) (i : Nat) (n : Nat) : entryFrame m #[(.int (Int32.ofNat i)), (.int (Int32.ofNat n))] 2 = mkF m 0 #[.val (.int (Int32.ofNat i)), .val (.int (Int32.ofNat n))] [] := by first | (simp [entryFrame, mkF, argsToLocals, own_cI, own_cJ, own_cR, own_cN]; done) | rfl
abbrev own_F_own_schk (m : MethodId) (i : Nat) (n : Nat) : JFrame := entryFrame m #[(.int (Int32.ofNat i)), (.int (Int32.ofNat n))] 2
def Q_own_schk (Z : State) (i : Nat) (n : Nat) (gFM : Value) (h0 : Heap) (n0 : Nat) (v : Option Value) (h : Heap) (L : List Loc) : Prop := v = none ∧ Fr n0 L ∧ h = h0
set_option maxRecDepth 65536 in
set_option maxHeartbeats 40000000 in
theorem own_schk (l : Launch) (Z : State) (a0 : Array Value) (hw : ∀ d ∈ tables_1, d.before a0 Z = true) (ws : List Jvm.Cond) (i : Nat) (n : Nat) (gFM : Value) (h0 : Heap) (n0 : Nat) (O0 : Old Z n0 h0) (hp0 : Sta Z Z.heap "jdk/internal/util/Preconditions" "SIOOBE_FORMATTER" "Ljava/util/function/BiFunction;" gFM) (hG3 : gFM.isRef = true) (hin : i < n) (hn6 : n ≤ 1000000) :
    MetFree l (⟨"java/lang/String", "checkIndex", "(II)V"⟩ : MethodName) (head1 (Jvm.Cond.code (⟨"java/lang/String", "checkIndex", "(II)V"⟩ : MethodName) jdk_42_method_155_code 2 none :: ws) ({ frames := 1, cells := 0, slots := 0, locals := 14 } : Room)) (fun aa_ U_ => aa_ = #[(.int (Int32.ofNat i)), (.int (Int32.ofNat n))] ∧ Z.Warmed39 U_.vm ∧ U_.heap = h0) (fun _ _ _ _ _ => True) (fun _ U_ o_ V_ => ∃ v_ L_, o_ = .returned v_ ∧ Q_own_schk Z i n gFM h0 n0 v_ V_.heap L_ ∧ FrameEnd U_ o_ V_ L_ ({ frames := 1, cells := 0, slots := 0, locals := 14 } : Room).cells ({ frames := 1, cells := 0, slots := 0, locals := 14 } : Room).slots) := by
  refine MetFree.of_bodySF (plainFor_of_name own_pn_own_schk) hisR ?_
  intro p e s m args below meth c s₁ Bd hml0 hP hK
  obtain ⟨rfl, hZ, hh⟩ := hP
  have hx := Bd.exec
  have hby := Bd.bytes
  have hml : c.maxLocals = 2 := hml0
  have hown : s.vm.findClass "java/lang/String" = some m.cls := findClass_of_methodNamed Bd.named
  have hnm := (name_of_methodNamed Bd.named Bd.method).1
  have X0 : Stand p l e ({ frames := 1, cells := 0, slots := 0, locals := 14 } : Room) s m #[(.int (Int32.ofNat i)), (.int (Int32.ofNat n))] below meth c s₁ [] 0 0 := Stand.of_body Bd
  have e0 : s₁.heap = h0 := by rw [← hh, Bd.state]; rfl
  have N0 := Fr.nil n0
  have K0 : Keep h0 h0 [] := Keep.refl _ _
  have r0 : GoTo p.tables e below s₁ (own_F_own_schk m i n) s₁ (mkF m 0 #[.val (.int (Int32.ofNat i)), .val (.int (Int32.ofNat n))] []) := fun tt_ kk_ => castTop (own_ef_own_schk m i n) kk_
  obtain ⟨T1, X1, e1, st1⟩ := getS2 X0 hx hZ hown (host := "") (Or.inl (hw _ (List.mem_of_getElem? (i := 201) rfl))) Via.refl e0 (hp0.ext (O0.keep K0 all0).2) (g := (mkF m 2 #[.val (.int (Int32.ofNat i)), .val (.int (Int32.ofNat n))] [(.int (Int32.ofNat n)), (.int (Int32.ofNat i))])) rfl (hb hby own_d_jdk_42_method_155_code_2)
  obtain ⟨_, _, ⟨T2, L2, k2, n2⟩, -, X2, ⟨Lc2, hQ2, l2, y2, z2⟩, st2⟩ := Jvm.LawKit.callS X1 hx (y := (⟨"jdk/internal/util/Preconditions", "checkIndex", "(IILjava/util/function/BiFunction;)I"⟩ : MethodName)) hown (mvT hZ (hw _ (List.mem_of_getElem? (i := 203) rfl))) (mvT hZ (hw _ (List.mem_of_getElem? (i := 204) rfl))) (mvT hZ (hw _ (List.mem_of_getElem? (i := 202) rfl))) (mvT hZ (hw _ (List.mem_of_getElem? (i := 205) rfl))) (by decide) (backOf (W := 0) (own_pchk l Z a0 hw [] (i) (n) (gFM) h0 n0 (O0.keep K0 all0) (hG3) (hin) (hn6)) hZ (hw _ (List.mem_of_getElem? (i := 205) rfl)) (hw _ (List.mem_of_getElem? (i := 202) rfl)) (by decide) (by decide)) (g := (mkF m 5 #[.val (.int (Int32.ofNat i)), .val (.int (Int32.ofNat n))] [gFM, (.int (Int32.ofNat n)), (.int (Int32.ofNat i))])) rfl (by rw [hml]; rfl) (argsL := [(.int (Int32.ofNat i)), (.int (Int32.ofNat n)), gFM]) (rest := []) (lenOf own_pd6 rfl) rfl (by show 2 * 0 + _ ≤ _; exact Nat.le_of_eq rfl) (hb hby own_d_jdk_42_method_155_code_5) (fun _ _ => ⟨rfl, e1, (by decide : 0 + 0 ≤ _), (by decide : 0 + 0 ≤ _)⟩)
  dsimp only [Pt.U, Pt.locs, Pt.cells, Pt.slots] at X2 l2 y2 z2 st2 hQ2
  subst l2 y2 z2
  obtain ⟨rfl, Nq2, hh2⟩ := hQ2
  have N2 := Fr.app N0 Nq2
  obtain ⟨fs, hr, hrun, hended, hW, hsame⟩ := X2.leave (v := none) (fun _ => rfl)
  refine ⟨_, _, r0 _ ?_, hrun, hended, _, _, rfl, ?_, ⟨_, rfl⟩, hW, hsame.mono (by decide) (by decide)⟩
  · show Steps p.tables e below (s₁.setTop (mkF m 0 #[.val (.int (Int32.ofNat i)), .val (.int (Int32.ofNat n))] [])) _
    refine XS.iloadN X0.here hx rfl (hb hby own_d_jdk_42_method_155_code_0) rfl ?_
    show Steps p.tables e below (s₁.setTop (mkF m 1 #[.val (.int (Int32.ofNat i)), .val (.int (Int32.ofNat n))] [(.int (Int32.ofNat i))])) _
    refine XS.iloadN X0.here hx rfl (hb hby own_d_jdk_42_method_155_code_1) rfl ?_
    show Steps p.tables e below (s₁.setTop (mkF m 2 #[.val (.int (Int32.ofNat i)), .val (.int (Int32.ofNat n))] [(.int (Int32.ofNat n)), (.int (Int32.ofNat i))])) _
    refine st1 _ ?_
    show Steps p.tables e below (T1.setTop (mkF m 5 #[.val (.int (Int32.ofNat i)), .val (.int (Int32.ofNat n))] [gFM, (.int (Int32.ofNat n)), (.int (Int32.ofNat i))])) _
    refine st2 _ ?_
    show Steps p.tables e below (T2.setTop (mkF m 8 #[.val (.int (Int32.ofNat i)), .val (.int (Int32.ofNat n))] [(.int (Int32.ofNat i))])) _
    refine XS.pop X2.here hx rfl (hb hby own_d_jdk_42_method_155_code_8) rfl rfl ?_
    show Steps p.tables e below (T2.setTop (mkF m 9 #[.val (.int (Int32.ofNat i)), .val (.int (Int32.ofNat n))] [])) _
    exact X2.returnOut hx Bd.returns (hb hby own_d_jdk_42_method_155_code_9) hr
  · show Q_own_schk Z i n gFM h0 n0 _ T2.heap _
    rw [hh2]
    exact ⟨rfl, N2, rfl⟩
theorem own_pn_own_l1ch : plainName "java/lang/StringLatin1" = true := by first | (simp [plainName, overriddenIn]; done) | decide +kernel
theorem own_ef_own_l1ch (m : MethodId) (ty : Addr) (i : Nat) : entryFrame m #[(.ref ty), (.int (Int32.ofNat i))] 2 = mkF m 0 #[.val (.ref ty), .val (.int (Int32.ofNat i))] [] := by first | (simp [entryFrame, mkF, argsToLocals, own_cI, own_cJ, own_cR, own_cN]; done) | rfl
abbrev own_F_own_l1ch (m : MethodId) (ty : Addr) (i : Nat) : JFrame := entryFrame m #[(.ref ty), (.int (Int32.ofNat i))] 2
def Q_own_l1ch (Z : State) (ty : Addr) (ky : ClassId) (ds : List Int32) (i : Nat) (gFM : Value) (h0 : Heap) (n0 : Nat) (v : Option Value) (h : Heap) (L : List Loc) : Prop := v = some (.int (ds.getD i 0)) ∧ Fr n0 L ∧ h = h0
set_option maxRecDepth 65536 in
set_option maxHeartbeats 40000000 in
theorem own_l1ch (l : Launch) (Z : State) (a0 : Array Value) (hw : ∀ d ∈ tables_1, d.before a0 Z = true) (ws : List Jvm.Cond) (ty : Addr) (ky : ClassId) (ds : List Int32) (i : Nat) (gFM : Value) (h0 : Heap) (n0 : Nat) (O0 : Old Z n0 h0) (hp0 : Arv Z h0 ty ky .byte (Int32.ofNat ds.length) ((ds.map fun c => c.toInt8.toInt32).map Value.int) (.int (0 : Int32))) (hrg : ∀ c ∈ ds, ¬ c < 0 ∧ ¬ (255 : Int32) < c) (hin : i < ds.length) (hn4 : ds.length ≤ 4000) (hp4 : Sta Z Z.heap "jdk/internal/util/Preconditions" "SIOOBE_FORMATTER" "Ljava/util/function/BiFunction;" gFM) (hG3 : gFM.isRef = true) :
    MetFree l (⟨"java/lang/StringLatin1", "charAt", "([BI)C"⟩ : MethodName) (head1 (Jvm.Cond.code (⟨"java/lang/StringLatin1", "charAt", "([BI)C"⟩ : MethodName) jdk_43_method_2_code 2 (some .char) :: ws) ({ frames := 2, cells := 0, slots := 0, locals := 27 } : Room)) (fun aa_ U_ => aa_ = #[(.ref ty), (.int (Int32.ofNat i))] ∧ Z.Warmed39 U_.vm ∧ U_.heap = h0) (fun _ _ _ _ _ => True) (fun _ U_ o_ V_ => ∃ v_ L_, o_ = .returned v_ ∧ Q_own_l1ch Z ty ky ds i gFM h0 n0 v_ V_.heap L_ ∧ FrameEnd U_ o_ V_ L_ ({ frames := 2, cells := 0, slots := 0, locals := 27 } : Room).cells ({ frames := 2, cells := 0, slots := 0, locals := 27 } : Room).slots) := by
  refine MetFree.of_bodySF (plainFor_of_name own_pn_own_l1ch) hisR ?_
  intro p e s m args below meth c s₁ Bd hml0 hP hK
  obtain ⟨rfl, hZ, hh⟩ := hP
  have hx := Bd.exec
  have hby := Bd.bytes
  have hml : c.maxLocals = 2 := hml0
  have hown : s.vm.findClass "java/lang/StringLatin1" = some m.cls := findClass_of_methodNamed Bd.named
  have hnm := (name_of_methodNamed Bd.named Bd.method).1
  have X0 : Stand p l e ({ frames := 2, cells := 0, slots := 0, locals := 27 } : Room) s m #[(.ref ty), (.int (Int32.ofNat i))] below meth c s₁ [] 0 0 := Stand.of_body Bd
  have e0 : s₁.heap = h0 := by rw [← hh, Bd.state]; rfl
  have N0 := Fr.nil n0
  have K0 : Keep h0 h0 [] := Keep.refl _ _
  have r0 : GoTo p.tables e below s₁ (own_F_own_l1ch m ty i) s₁ (mkF m 0 #[.val (.ref ty), .val (.int (Int32.ofNat i))] []) := fun tt_ kk_ => castTop (own_ef_own_l1ch m ty i) kk_
  obtain ⟨cl1, Ar1, q1, S1, NN1, H1, G1⟩ := id hp0
  obtain ⟨_, _, ⟨T2, L2, k2, n2⟩, -, X2, ⟨Lc2, hQ2, l2, y2, z2⟩, st2⟩ := Jvm.LawKit.callS X0 hx (y := (⟨"java/lang/String", "checkIndex", "(II)V"⟩ : MethodName)) hown (mvT hZ (hw _ (List.mem_of_getElem? (i := 198) rfl))) (mvT hZ (hw _ (List.mem_of_getElem? (i := 199) rfl))) (mvT hZ (hw _ (List.mem_of_getElem? (i := 41) rfl))) (mvT hZ (hw _ (List.mem_of_getElem? (i := 200) rfl))) (by decide) (backOf (W := 0) (own_schk l Z a0 hw [] (i) (ds.length) (gFM) h0 n0 (O0.keep K0 all0) (hp4) (hG3) (hin) (by omega)) hZ (hw _ (List.mem_of_getElem? (i := 200) rfl)) (hw _ (List.mem_of_getElem? (i := 41) rfl)) (by decide) (by decide)) (g := (mkF m 3 #[.val (.ref ty), .val (.int (Int32.ofNat i))] [(.int (Int32.ofNat ds.length)), (.int (Int32.ofNat i))])) rfl (by rw [hml]; rfl) (argsL := [(.int (Int32.ofNat i)), (.int (Int32.ofNat ds.length))]) (rest := []) (lenOf own_pd7 rfl) rfl (by show 2 * 0 + _ ≤ _; exact Nat.le_of_eq rfl) (hb hby own_d_jdk_43_method_2_code_3) (fun _ _ => ⟨rfl, e0, (by decide : 0 + 0 ≤ _), (by decide : 0 + 0 ≤ _)⟩)
  dsimp only [Pt.U, Pt.locs, Pt.cells, Pt.slots] at X2 l2 y2 z2 st2 hQ2
  subst l2 y2 z2
  obtain ⟨rfl, Nq2, hh2⟩ := hQ2
  have N2 := Fr.app N0 Nq2
  obtain ⟨cl3, Ar3, q3, S3, NN3, H3, G3⟩ := id hp0
  have hin3 : ¬ ((Int32.ofNat i) < 0 ∨ cl3.slots.size ≤ ((Int32.ofNat i)).toNatClampNeg) := inb_of S3 ⟨own_negN (by omega), (own_ltN (by omega) (by omega)).mpr hin⟩
  obtain ⟨fs, hr, hrun, hended, hW, hsame⟩ := X2.leave (v := some (.int (nar .char ((((ds.getD i 0).toInt8.toInt32) &&& (255 : Int32)).toUInt32.toUInt16.toUInt32.toInt32)))) (fun h => by rw [Bd.returns] at h; cases h)
  refine ⟨_, _, r0 _ ?_, hrun, hended, _, _, rfl, ?_, ⟨_, rfl⟩, hW, hsame.mono (by decide) (by decide)⟩
  · show Steps p.tables e below (s₁.setTop (mkF m 0 #[.val (.ref ty), .val (.int (Int32.ofNat i))] [])) _
    refine XS.iloadN X0.here hx rfl (hb hby own_d_jdk_43_method_2_code_0) rfl ?_
    show Steps p.tables e below (s₁.setTop (mkF m 1 #[.val (.ref ty), .val (.int (Int32.ofNat i))] [(.int (Int32.ofNat i))])) _
    refine XS.aloadN X0.here hx rfl (hb hby own_d_jdk_43_method_2_code_1) rfl rfl ?_
    show Steps p.tables e below (s₁.setTop (mkF m 2 #[.val (.ref ty), .val (.int (Int32.ofNat i))] [(.ref ty), (.int (Int32.ofNat i))])) _
    refine X0.arraylength hx (by rw [e0]; exact Ar1.1) (State.isArrayOf_alike hZ.alike Ar1.2.1) (g := (mkF m 2 #[.val (.ref ty), .val (.int (Int32.ofNat i))] [(.ref ty), (.int (Int32.ofNat i))])) rfl rfl (hb hby own_d_jdk_43_method_2_code_2) _ ?_
    rw [len_of S1 NN1]
    show Steps p.tables e below (s₁.setTop (mkF m 3 #[.val (.ref ty), .val (.int (Int32.ofNat i))] [(.int (Int32.ofNat ds.length)), (.int (Int32.ofNat i))])) _
    refine st2 _ ?_
    show Steps p.tables e below (T2.setTop (mkF m 6 #[.val (.ref ty), .val (.int (Int32.ofNat i))] [])) _
    refine XS.aloadN X2.here hx rfl (hb hby own_d_jdk_43_method_2_code_6) rfl rfl ?_
    show Steps p.tables e below (T2.setTop (mkF m 7 #[.val (.ref ty), .val (.int (Int32.ofNat i))] [(.ref ty)])) _
    refine XS.iloadN X2.here hx rfl (hb hby own_d_jdk_43_method_2_code_7) rfl ?_
    show Steps p.tables e below (T2.setTop (mkF m 8 #[.val (.ref ty), .val (.int (Int32.ofNat i))] [(.int (Int32.ofNat i)), (.ref ty)])) _
    refine X2.baloadBytes hx (j := (Int32.ofNat i)) (v := (.int ((ds.getD i 0).toInt8.toInt32))) (by rw [hh2]; exact Ar3.1) (State.isArrayOf_alike hZ.alike Ar3.2.1) Ar3.2.2 hin3 (Has.at H3 hin3 (by rw [own_clamp (by omega)]; exact own_map_getD _ _ hin)) (g := (mkF m 8 #[.val (.ref ty), .val (.int (Int32.ofNat i))] [(.int (Int32.ofNat i)), (.ref ty)])) rfl rfl (hb hby own_d_jdk_43_method_2_code_8) _ ?_
    show Steps p.tables e below (T2.setTop (mkF m 9 #[.val (.ref ty), .val (.int (Int32.ofNat i))] [(.int ((ds.getD i 0).toInt8.toInt32))])) _
    refine XS.sipush X2.here hx rfl (hb hby own_d_jdk_43_method_2_code_9) ?_
    show Steps p.tables e below (T2.setTop (mkF m 12 #[.val (.ref ty), .val (.int (Int32.ofNat i))] [(.int (255 : Int32)), (.int ((ds.getD i 0).toInt8.toInt32))])) _
    refine XS.iand X2.here hx rfl (hb hby own_d_jdk_43_method_2_code_12) rfl ?_
    show Steps p.tables e below (T2.setTop (mkF m 13 #[.val (.ref ty), .val (.int (Int32.ofNat i))] [(.int (((ds.getD i 0).toInt8.toInt32) &&& (255 : Int32)))])) _
    refine XS.i2c X2.here hx rfl (hb hby own_d_jdk_43_method_2_code_13) rfl ?_
    show Steps p.tables e below (T2.setTop (mkF m 14 #[.val (.ref ty), .val (.int (Int32.ofNat i))] [(.int ((((ds.getD i 0).toInt8.toInt32) &&& (255 : Int32)).toUInt32.toUInt16.toUInt32.toInt32))])) _
    exact retN X2 hx (t := .char) Bd.returns (by simp) (hb hby own_d_jdk_43_method_2_code_14) hr
  · show Q_own_l1ch Z ty ky ds i gFM h0 n0 _ T2.heap _
    rw [hh2]
    exact ⟨(by rw [(own_chb (own_rngAt hrg hin)).1, (own_chb (own_rngAt hrg hin)).2]), N2, rfl⟩
theorem own_pn_own_chAt : plainName "java/lang/String" = true := by first | (simp [plainName, overriddenIn]; done) | decide +kernel
theorem own_ef_own_chAt (m : MethodId) (y : Addr) (i : Nat) : entryFrame m #[(.ref y), (.int (Int32.ofNat i))] 2 = mkF m 0 #[.val (.ref y), .val (.int (Int32.ofNat i))] [] := by first | (simp [entryFrame, mkF, argsToLocals, own_cI, own_cJ, own_cR, own_cN]; done) | rfl
abbrev own_F_own_chAt (m : MethodId) (y : Addr) (i : Nat) : JFrame := entryFrame m #[(.ref y), (.int (Int32.ofNat i))] 2
def Q_own_chAt (Z : State) (y : Addr) (ty : Addr) (ky : ClassId) (ds : List Int32) (i : Nat) (gCS : Int32) (gFM : Value) (h0 : Heap) (n0 : Nat) (v : Option Value) (h : Heap) (L : List Loc) : Prop := v = some (.int (ds.getD i 0)) ∧ Fr n0 L ∧ h = h0
set_option maxRecDepth 65536 in
set_option maxHeartbeats 40000000 in
theorem own_chAt (l : Launch) (Z : State) (a0 : Array Value) (hw : ∀ d ∈ tables_1, d.before a0 Z = true) (ws : List Jvm.Cond) (y : Addr) (ty : Addr) (ky : ClassId) (ds : List Int32) (i : Nat) (gCS : Int32) (gFM : Value) (h0 : Heap) (n0 : Nat) (O0 : Old Z n0 h0) (hp0 : own_Str Z h0 y ty ky ds) (hin : i < ds.length) (hp2 : Sta Z Z.heap "java/lang/String" "COMPACT_STRINGS" "Z" (.int gCS)) (hG1 : ¬ gCS = (0 : Int32)) (hp4 : Sta Z Z.heap "jdk/internal/util/Preconditions" "SIOOBE_FORMATTER" "Ljava/util/function/BiFunction;" gFM) (hG3 : gFM.isRef = true) :
    MetFree l (⟨"java/lang/String", "charAt", "(I)C"⟩ : MethodName) (head1 (Jvm.Cond.code (⟨"java/lang/String", "charAt", "(I)C"⟩ : MethodName) jdk_42_method_56_code 2 (some .char) :: ws) ({ frames := 3, cells := 0, slots := 0, locals := 40 } : Room)) (fun aa_ U_ => aa_ = #[(.ref y), (.int (Int32.ofNat i))] ∧ Z.Warmed39 U_.vm ∧ U_.heap = h0) (fun _ _ _ _ _ => True) (fun _ U_ o_ V_ => ∃ v_ L_, o_ = .returned v_ ∧ Q_own_chAt Z y ty ky ds i gCS gFM h0 n0 v_ V_.heap L_ ∧ FrameEnd U_ o_ V_ L_ ({ frames := 3, cells := 0, slots := 0, locals := 40 } : Room).cells ({ frames := 3, cells := 0, slots := 0, locals := 40 } : Room).slots) := by
  refine MetFree.of_bodySF (plainFor_of_name own_pn_own_chAt) hisR ?_
  intro p e s m args below meth c s₁ Bd hml0 hP hK
  obtain ⟨rfl, hZ, hh⟩ := hP
  have hx := Bd.exec
  have hby := Bd.bytes
  have hml : c.maxLocals = 2 := hml0
  have hown : s.vm.findClass "java/lang/String" = some m.cls := findClass_of_methodNamed Bd.named
  have hnm := (name_of_methodNamed Bd.named Bd.method).1
  have X0 : Stand p l e ({ frames := 3, cells := 0, slots := 0, locals := 40 } : Room) s m #[(.ref y), (.int (Int32.ofNat i))] below meth c s₁ [] 0 0 := Stand.of_body Bd
  have e0 : s₁.heap = h0 := by rw [← hh, Bd.state]; rfl
  have N0 := Fr.nil n0
  have K0 : Keep h0 h0 [] := Keep.refl _ _
  have r0 : GoTo p.tables e below s₁ (own_F_own_chAt m y i) s₁ (mkF m 0 #[.val (.ref y), .val (.int (Int32.ofNat i))] []) := fun tt_ kk_ => castTop (own_ef_own_chAt m y i) kk_
  have hd4 := hp0.2.2.2.2.2
  obtain ⟨cq1, kq1, qa1, qb1, qc1⟩ := isOf hZ e0 hp0.1
  obtain ⟨_, _, ⟨T1, L1, k1, n1⟩, -, X1, ⟨Lc1, hQ1, l1, y1, z1⟩, st1⟩ := X0.virtualBack hx (y := (⟨"java/lang/String", "isLatin1", "()Z"⟩ : MethodName)) (z := (⟨"java/lang/String", "isLatin1", "()Z"⟩ : MethodName)) hown (mvT hZ (hw _ (List.mem_of_getElem? (i := 189) rfl))) (mvT hZ (hw _ (List.mem_of_getElem? (i := 190) rfl))) (notFace_of_selects (args := #[]) (mvT hZ (hw _ (List.mem_of_getElem? (i := 192) rfl)))) (mvT hZ (hw _ (List.mem_of_getElem? (i := 192) rfl))) (mvT hZ (hw _ (List.mem_of_getElem? (i := 191) rfl))) (by decide) (backOf (W := 0) (own_sisL l Z a0 hw [] (y) (gCS) h0 n0 (O0.keep K0 all0) (hp0.2.2.1) (hp2) (hG1)) hZ (hw _ (List.mem_of_getElem? (i := 193) rfl)) (hw _ (List.mem_of_getElem? (i := 41) rfl)) (by decide) (by decide)) qa1 qc1 (g := (mkF m 1 #[.val (.ref y), .val (.int (Int32.ofNat i))] [(.ref y)])) rfl (by rw [hml]; rfl) (Steps.refl _) (argsL := []) (rest := []) (lenOf own_pd8 rfl) rfl (by show 2 * 0 + _ ≤ _; exact Nat.le_of_eq rfl) (hb hby own_d_jdk_42_method_56_code_1) (fun _ _ => ⟨rfl, e0, (by decide : 0 + 0 ≤ _), (by decide : 0 + 0 ≤ _)⟩)
  dsimp only [Pt.U, Pt.locs, Pt.cells, Pt.slots] at X1 l1 y1 z1 st1 hQ1
  subst l1 y1 z1
  obtain ⟨rfl, Nq1, hh1⟩ := hQ1
  have N1 := Fr.app N0 Nq1
  obtain ⟨T2, X2, e2, st2⟩ := getF X1 hx hZ hown (host := "") (Or.inl (hw _ (List.mem_of_getElem? (i := 58) rfl))) Via.refl hh1 hp0.2.1 (g := (mkF m 8 #[.val (.ref y), .val (.int (Int32.ofNat i))] [(.ref y)])) rfl rfl (hb hby own_d_jdk_42_method_56_code_8)
  obtain ⟨_, _, ⟨T3, L3, k3, n3⟩, -, X3, ⟨Lc3, hQ3, l3, y3, z3⟩, st3⟩ := Jvm.LawKit.callS X2 hx (y := (⟨"java/lang/StringLatin1", "charAt", "([BI)C"⟩ : MethodName)) hown (mvT hZ (hw _ (List.mem_of_getElem? (i := 194) rfl))) (mvT hZ (hw _ (List.mem_of_getElem? (i := 195) rfl))) (mvT hZ (hw _ (List.mem_of_getElem? (i := 196) rfl))) (mvT hZ (hw _ (List.mem_of_getElem? (i := 197) rfl))) (by decide) (backOf (W := 0) (own_l1ch l Z a0 hw [] (ty) (ky) (ds) (i) (gFM) h0 n0 (O0.keep K0 all0) (hp0.2.2.2.1) (hp0.2.2.2.2.1) (hin) (hd4) (hp4) (hG3)) hZ (hw _ (List.mem_of_getElem? (i := 197) rfl)) (hw _ (List.mem_of_getElem? (i := 196) rfl)) (by decide) (by decide)) (g := (mkF m 12 #[.val (.ref y), .val (.int (Int32.ofNat i))] [(.int (Int32.ofNat i)), (.ref ty)])) rfl (by rw [hml]; rfl) (argsL := [(.ref ty), (.int (Int32.ofNat i))]) (rest := []) (lenOf own_pd9 rfl) rfl (by show 2 * 0 + _ ≤ _; exact Nat.le_of_eq rfl) (hb hby own_d_jdk_42_method_56_code_12) (fun _ _ => ⟨rfl, e2, (by decide : 0 + 0 ≤ _), (by decide : 0 + 0 ≤ _)⟩)
  dsimp only [Pt.U, Pt.locs, Pt.cells, Pt.slots] at X3 l3 y3 z3 st3 hQ3
  subst l3 y3 z3
  obtain ⟨rfl, Nq3, hh3⟩ := hQ3
  have N3 := Fr.app N1 Nq3
  obtain ⟨fs, hr, hrun, hended, hW, hsame⟩ := X3.leave (v := some (.int (nar .char (ds.getD i 0)))) (fun h => by rw [Bd.returns] at h; cases h)
  refine ⟨_, _, r0 _ ?_, hrun, hended, _, _, rfl, ?_, ⟨_, rfl⟩, hW, hsame.mono (by decide) (by decide)⟩
  · show Steps p.tables e below (s₁.setTop (mkF m 0 #[.val (.ref y), .val (.int (Int32.ofNat i))] [])) _
    refine XS.aloadN X0.here hx rfl (hb hby own_d_jdk_42_method_56_code_0) rfl rfl ?_
    show Steps p.tables e below (s₁.setTop (mkF m 1 #[.val (.ref y), .val (.int (Int32.ofNat i))] [(.ref y)])) _
    refine st1.trans ?_
    show Steps p.tables e below (T1.setTop (mkF m 4 #[.val (.ref y), .val (.int (Int32.ofNat i))] [(.int (1 : Int32))])) _
    refine XS.ifNo X1.here hx rfl (hb hby own_d_jdk_42_method_56_code_4) rfl ((if0 _ _).trans (feq (by decide)).1) ?_
    show Steps p.tables e below (T1.setTop (mkF m 7 #[.val (.ref y), .val (.int (Int32.ofNat i))] [])) _
    refine XS.aloadN X1.here hx rfl (hb hby own_d_jdk_42_method_56_code_7) rfl rfl ?_
    show Steps p.tables e below (T1.setTop (mkF m 8 #[.val (.ref y), .val (.int (Int32.ofNat i))] [(.ref y)])) _
    refine st2 _ ?_
    show Steps p.tables e below (T2.setTop (mkF m 11 #[.val (.ref y), .val (.int (Int32.ofNat i))] [(.ref ty)])) _
    refine XS.iloadN X2.here hx rfl (hb hby own_d_jdk_42_method_56_code_11) rfl ?_
    show Steps p.tables e below (T2.setTop (mkF m 12 #[.val (.ref y), .val (.int (Int32.ofNat i))] [(.int (Int32.ofNat i)), (.ref ty)])) _
    refine st3 _ ?_
    show Steps p.tables e below (T3.setTop (mkF m 15 #[.val (.ref y), .val (.int (Int32.ofNat i))] [(.int (ds.getD i 0))])) _
    exact retN X3 hx (t := .char) Bd.returns (by simp) (hb hby own_d_jdk_42_method_56_code_15) hr
  · show Q_own_chAt Z y ty ky ds i gCS gFM h0 n0 _ T3.heap _
    rw [hh3]
    exact ⟨(by rw [(own_chb (own_rngAt hp0.2.2.2.2.1 hin)).2]), N3, rfl⟩
theorem own_pn_own_infl : plainName "java/lang/AbstractStringBuilder" = true := by first | (simp [plainName, overriddenIn]; done) | decide +kernel
theorem own_ef_own_infl (m : MethodId) (b : Addr) (y : Addr) : entryFrame m #[(.ref b), (.ref y)] 2 = mkF m 0 #[.val (.ref b), .val (.ref y)] [] := by first | (simp [entryFrame, mkF, argsToLocals, own_cI, own_cJ, own_cR, own_cN]; done) | rfl
abbrev own_F_own_infl (m : MethodId) (b : Addr) (y : Addr) : JFrame := entryFrame m #[(.ref b), (.ref y)] 2
def Q_own_infl (Z : State) (b : Addr) (y : Addr) (gCS : Int32) (h0 : Heap) (n0 : Nat) (v : Option Value) (h : Heap) (L : List Loc) : Prop := v = none ∧ Fr n0 L ∧ h = h0
set_option maxRecDepth 65536 in
set_option maxHeartbeats 40000000 in
theorem own_infl (l : Launch) (Z : State) (a0 : Array Value) (hw : ∀ d ∈ tables_1, d.before a0 Z = true) (ws : List Jvm.Cond) (b : Addr) (y : Addr) (gCS : Int32) (h0 : Heap) (n0 : Nat) (O0 : Old Z n0 h0) (hp0 : Exa Z h0 y "java/lang/String") (hp1 : Fld Z h0 b "java/lang/AbstractStringBuilder" "coder" "B" (.int (0 : Int32))) (hp2 : Fld Z h0 y "java/lang/String" "coder" "B" (.int (0 : Int32))) (hp3 : Sta Z Z.heap "java/lang/String" "COMPACT_STRINGS" "Z" (.int gCS)) (hG1 : ¬ gCS = (0 : Int32)) :
    MetFree l (⟨"java/lang/AbstractStringBuilder", "inflateIfNeededFor", "(Ljava/lang/String;)V"⟩ : MethodName) (head1 (Jvm.Cond.code (⟨"java/lang/AbstractStringBuilder", "inflateIfNeededFor", "(Ljava/lang/String;)V"⟩ : MethodName) jdk_68_method_71_code 2 none :: ws) ({ frames := 1, cells := 0, slots := 0, locals := 13 } : Room)) (fun aa_ U_ => aa_ = #[(.ref b), (.ref y)] ∧ Z.Warmed39 U_.vm ∧ U_.heap = h0) (fun _ _ _ _ _ => True) (fun _ U_ o_ V_ => ∃ v_ L_, o_ = .returned v_ ∧ Q_own_infl Z b y gCS h0 n0 v_ V_.heap L_ ∧ FrameEnd U_ o_ V_ L_ ({ frames := 1, cells := 0, slots := 0, locals := 13 } : Room).cells ({ frames := 1, cells := 0, slots := 0, locals := 13 } : Room).slots) := by
  refine MetFree.of_bodySF (plainFor_of_name own_pn_own_infl) hisR ?_
  intro p e s m args below meth c s₁ Bd hml0 hP hK
  obtain ⟨rfl, hZ, hh⟩ := hP
  have hx := Bd.exec
  have hby := Bd.bytes
  have hml : c.maxLocals = 2 := hml0
  have hown : s.vm.findClass "java/lang/AbstractStringBuilder" = some m.cls := findClass_of_methodNamed Bd.named
  have hnm := (name_of_methodNamed Bd.named Bd.method).1
  have X0 : Stand p l e ({ frames := 1, cells := 0, slots := 0, locals := 13 } : Room) s m #[(.ref b), (.ref y)] below meth c s₁ [] 0 0 := Stand.of_body Bd
  have e0 : s₁.heap = h0 := by rw [← hh, Bd.state]; rfl
  have N0 := Fr.nil n0
  have K0 : Keep h0 h0 [] := Keep.refl _ _
  have r0 : GoTo p.tables e below s₁ (own_F_own_infl m b y) s₁ (mkF m 0 #[.val (.ref b), .val (.ref y)] []) := fun tt_ kk_ => castTop (own_ef_own_infl m b y) kk_
  obtain ⟨T1, X1, e1, st1⟩ := getS2 X0 hx hZ hown (host := "") (Or.inl (hw _ (List.mem_of_getElem? (i := 75) rfl))) Via.refl e0 (hp3.ext (O0.keep K0 all0).2) (g := (mkF m 0 #[.val (.ref b), .val (.ref y)] [])) rfl (hb hby own_d_jdk_68_method_71_code_0)
  obtain ⟨T2, X2, e2, st2⟩ := getF X1 hx hZ hown (host := "") (Or.inl (hw _ (List.mem_of_getElem? (i := 78) rfl))) Via.refl e1 hp1 (g := (mkF m 7 #[.val (.ref b), .val (.ref y)] [(.ref b)])) rfl rfl (hb hby own_d_jdk_68_method_71_code_7)
  obtain ⟨cq3, kq3, qa3, qb3, qc3⟩ := isOf hZ e2 hp0
  obtain ⟨_, _, ⟨T3, L3, k3, n3⟩, -, X3, ⟨Lc3, hQ3, l3, y3, z3⟩, st3⟩ := X2.virtualBack hx (y := (⟨"java/lang/String", "coder", "()B"⟩ : MethodName)) (z := (⟨"java/lang/String", "coder", "()B"⟩ : MethodName)) hown (mvT hZ (hw _ (List.mem_of_getElem? (i := 128) rfl))) (mvT hZ (hw _ (List.mem_of_getElem? (i := 89) rfl))) (notFace_of_selects (args := #[]) (mvT hZ (hw _ (List.mem_of_getElem? (i := 91) rfl)))) (mvT hZ (hw _ (List.mem_of_getElem? (i := 91) rfl))) (mvT hZ (hw _ (List.mem_of_getElem? (i := 90) rfl))) (by decide) (backOf (W := 1) (own_coder l Z a0 hw [] (y) (gCS) h0 n0 (O0.keep K0 all0) (hp2) (hp3) (hG1)) hZ (hw _ (List.mem_of_getElem? (i := 92) rfl)) (hw _ (List.mem_of_getElem? (i := 41) rfl)) (by decide) (by decide)) qa3 qc3 (g := (mkF m 11 #[.val (.ref b), .val (.ref y)] [(.ref y), (.int (0 : Int32))])) rfl (by rw [hml]; rfl) (Steps.refl _) (argsL := []) (rest := [(.int (0 : Int32))]) (lenOf own_pd5 rfl) rfl (by show 2 * 0 + _ ≤ _; exact Nat.le_of_eq rfl) (hb hby own_d_jdk_68_method_71_code_11) (fun _ _ => ⟨rfl, e2, (by decide : 0 + 0 ≤ _), (by decide : 0 + 0 ≤ _)⟩)
  dsimp only [Pt.U, Pt.locs, Pt.cells, Pt.slots] at X3 l3 y3 z3 st3 hQ3
  subst l3 y3 z3
  obtain ⟨rfl, Nq3, hh3⟩ := hQ3
  have N3 := Fr.app N0 Nq3
  obtain ⟨fs, hr, hrun, hended, hW, hsame⟩ := X3.leave (v := none) (fun _ => rfl)
  refine ⟨_, _, r0 _ ?_, hrun, hended, _, _, rfl, ?_, ⟨_, rfl⟩, hW, hsame.mono (by decide) (by decide)⟩
  · show Steps p.tables e below (s₁.setTop (mkF m 0 #[.val (.ref b), .val (.ref y)] [])) _
    refine st1 _ ?_
    show Steps p.tables e below (T1.setTop (mkF m 3 #[.val (.ref b), .val (.ref y)] [(.int gCS)])) _
    refine XS.ifNo X1.here hx rfl (hb hby own_d_jdk_68_method_71_code_3) rfl ((if0 _ _).trans (feq hG1).1) ?_
    show Steps p.tables e below (T1.setTop (mkF m 6 #[.val (.ref b), .val (.ref y)] [])) _
    refine XS.aloadN X1.here hx rfl (hb hby own_d_jdk_68_method_71_code_6) rfl rfl ?_
    show Steps p.tables e below (T1.setTop (mkF m 7 #[.val (.ref b), .val (.ref y)] [(.ref b)])) _
    refine st2 _ ?_
    show Steps p.tables e below (T2.setTop (mkF m 10 #[.val (.ref b), .val (.ref y)] [(.int (0 : Int32))])) _
    refine XS.aloadN X2.here hx rfl (hb hby own_d_jdk_68_method_71_code_10) rfl rfl ?_
    show Steps p.tables e below (T2.setTop (mkF m 11 #[.val (.ref b), .val (.ref y)] [(.ref y), (.int (0 : Int32))])) _
    refine st3.trans ?_
    show Steps p.tables e below (T3.setTop (mkF m 14 #[.val (.ref b), .val (.ref y)] [(.int (0 : Int32)), (.int (0 : Int32))])) _
    refine XS.icmpYes X3.here hx rfl (pc0 := 14) (pc' := 21) rfl (hb hby own_d_jdk_68_method_71_code_14) rfl (teq rfl).1 (by decide) (by decide) ?_
    show Steps p.tables e below (T3.setTop (mkF m 21 #[.val (.ref b), .val (.ref y)] [])) _
    exact X3.returnOut hx Bd.returns (hb hby own_d_jdk_68_method_71_code_21) hr
  · show Q_own_infl Z b y gCS h0 n0 _ T3.heap _
    rw [hh3]
    exact ⟨rfl, N3, rfl⟩
theorem own_pn_own_getBytes : plainName "java/lang/String" = true := by first | (simp [plainName, overriddenIn]; done) | decide +kernel
theorem own_ef_own_getBytes (m : MethodId) (y : Addr) (d : Addr) (cs : List Int32) : entryFrame m #[(.ref y), (.ref d), (.int (Int32.ofNat cs.length)), (.int (0 : Int32))] 4 = mkF m 0 #[.val (.ref y), .val (.ref d), .val (.int (Int32.ofNat cs.length)), .val (.int (0 : Int32))] [] := by first | (simp [entryFrame, mkF, argsToLocals, own_cI, own_cJ, own_cR, own_cN]; done) | rfl
abbrev own_F_own_getBytes (m : MethodId) (y : Addr) (d : Addr) (cs : List Int32) : JFrame := entryFrame m #[(.ref y), (.ref d), (.int (Int32.ofNat cs.length)), (.int (0 : Int32))] 4
def Q_own_getBytes (Z : State) (y : Addr) (ty : Addr) (ky : ClassId) (ds : List Int32) (d : Addr) (kd : ClassId) (N : Nat) (cs : List Int32) (gCS : Int32) (h0 : Heap) (n0 : Nat) (v : Option Value) (h : Heap) (L : List Loc) : Prop := v = none ∧ Fr n0 L ∧ Keep h0 h [d] ∧ (own_By Z h d kd N (cs ++ ds))
set_option maxRecDepth 65536 in
set_option maxHeartbeats 40000000 in
theorem own_getBytes (l : Launch) (Z : State) (a0 : Array Value) (hw : ∀ d ∈ tables_1, d.before a0 Z = true) (ws : List Jvm.Cond) (y : Addr) (ty : Addr) (ky : ClassId) (ds : List Int32) (d : Addr) (kd : ClassId) (N : Nat) (cs : List Int32) (gCS : Int32) (h0 : Heap) (n0 : Nat) (O0 : Old Z n0 h0) (hp0 : own_Str Z h0 y ty ky ds) (hp1 : own_By Z h0 d kd N cs) (hp2 : n0 ≤ d) (hp3 : ty ≠ d) (hfit : cs.length + ds.length ≤ N) (hp5 : Sta Z Z.heap "java/lang/String" "COMPACT_STRINGS" "Z" (.int gCS)) (hG1 : ¬ gCS = (0 : Int32)) :
    MetFree l (⟨"java/lang/String", "getBytes", "([BIB)V"⟩ : MethodName) (head1 (Jvm.Cond.code (⟨"java/lang/String", "getBytes", "([BIB)V"⟩ : MethodName) jdk_42_method_147_code 4 none :: ws) ({ frames := 1, cells := 0, slots := 0, locals := 18 } : Room)) (fun aa_ U_ => aa_ = #[(.ref y), (.ref d), (.int (Int32.ofNat cs.length)), (.int (0 : Int32))] ∧ Z.Warmed39 U_.vm ∧ U_.heap = h0) (fun _ _ _ _ _ => True) (fun _ U_ o_ V_ => ∃ v_ L_, o_ = .returned v_ ∧ Q_own_getBytes Z y ty ky ds d kd N cs gCS h0 n0 v_ V_.heap L_ ∧ FrameEnd U_ o_ V_ L_ ({ frames := 1, cells := 0, slots := 0, locals := 18 } : Room).cells ({ frames := 1, cells := 0, slots := 0, locals := 18 } : Room).slots) := by
  refine MetFree.of_bodySF (plainFor_of_name own_pn_own_getBytes) hisR ?_
  intro p e s m args below meth c s₁ Bd hml0 hP hK
  obtain ⟨rfl, hZ, hh⟩ := hP
  have hx := Bd.exec
  have hby := Bd.bytes
  have hml : c.maxLocals = 4 := hml0
  have hown : s.vm.findClass "java/lang/String" = some m.cls := findClass_of_methodNamed Bd.named
  have hnm := (name_of_methodNamed Bd.named Bd.method).1
  have X0 : Stand p l e ({ frames := 1, cells := 0, slots := 0, locals := 18 } : Room) s m #[(.ref y), (.ref d), (.int (Int32.ofNat cs.length)), (.int (0 : Int32))] below meth c s₁ [] 0 0 := Stand.of_body Bd
  have e0 : s₁.heap = h0 := by rw [← hh, Bd.state]; rfl
  have N0 := Fr.nil n0
  have K0 : Keep h0 h0 [d] := Keep.refl _ _
  have r0 : GoTo p.tables e below s₁ (own_F_own_getBytes m y d cs) s₁ (mkF m 0 #[.val (.ref y), .val (.ref d), .val (.int (Int32.ofNat cs.length)), .val (.int (0 : Int32))] []) := fun tt_ kk_ => castTop (own_ef_own_getBytes m y d cs) kk_
  obtain ⟨vs1, hvl1, hva1, hvc1⟩ := own_By.arv hp1
  have hN6 := hp1.2.2.1
  have hc6 : cs.length ≤ 1000000 := by omega
  have hd6 : ds.length ≤ 1000000 := by omega
  obtain ⟨cq2, kq2, qa2, qb2, qc2⟩ := isOf hZ e0 hp0.1
  obtain ⟨_, _, ⟨T2, L2, k2, n2⟩, -, X2, ⟨Lc2, hQ2, l2, y2, z2⟩, st2⟩ := X0.virtualBack hx (y := (⟨"java/lang/String", "coder", "()B"⟩ : MethodName)) (z := (⟨"java/lang/String", "coder", "()B"⟩ : MethodName)) hown (mvT hZ (hw _ (List.mem_of_getElem? (i := 88) rfl))) (mvT hZ (hw _ (List.mem_of_getElem? (i := 89) rfl))) (notFace_of_selects (args := #[]) (mvT hZ (hw _ (List.mem_of_getElem? (i := 91) rfl)))) (mvT hZ (hw _ (List.mem_of_getElem? (i := 91) rfl))) (mvT hZ (hw _ (List.mem_of_getElem? (i := 90) rfl))) (by decide) (backOf (W := 0) (own_coder l Z a0 hw [] (y) (gCS) h0 n0 (O0.keep K0 (allS hp2 all0)) (hp0.2.2.1) (hp5) (hG1)) hZ (hw _ (List.mem_of_getElem? (i := 92) rfl)) (hw _ (List.mem_of_getElem? (i := 41) rfl)) (by decide) (by decide)) qa2 qc2 (g := (mkF m 1 #[.val (.ref y), .val (.ref d), .val (.int (Int32.ofNat cs.length)), .val (.int (0 : Int32))] [(.ref y)])) rfl (by rw [hml]; rfl) (Steps.refl _) (argsL := []) (rest := []) (lenOf own_pd5 rfl) rfl (by show 2 * 0 + _ ≤ _; exact Nat.le_of_eq rfl) (hb hby own_d_jdk_42_method_147_code_1) (fun _ _ => ⟨rfl, e0, (by decide : 0 + 0 ≤ _), (by decide : 0 + 0 ≤ _)⟩)
  dsimp only [Pt.U, Pt.locs, Pt.cells, Pt.slots] at X2 l2 y2 z2 st2 hQ2
  subst l2 y2 z2
  obtain ⟨rfl, Nq2, hh2⟩ := hQ2
  have N2 := Fr.app N0 Nq2
  obtain ⟨T3, X3, e3, st3⟩ := getF X2 hx hZ hown (host := "") (Or.inl (hw _ (List.mem_of_getElem? (i := 58) rfl))) Via.refl hh2 hp0.2.1 (g := (mkF m 9 #[.val (.ref y), .val (.ref d), .val (.int (Int32.ofNat cs.length)), .val (.int (0 : Int32))] [(.ref y)])) rfl rfl (hb hby own_d_jdk_42_method_147_code_9)
  have r4 : GoTo p.tables e below s₁ (own_F_own_getBytes m y d cs) T3 (mkF m 17 #[.val (.ref y), .val (.ref d), .val (.int (Int32.ofNat cs.length)), .val (.int (0 : Int32))] [(.int ((Int32.ofNat cs.length) <<< ((0 : Int32) &&& 31))), (.ref d), (.int (0 : Int32)), (.ref ty)]) := fun tt_ kk_ => r0 tt_ (by
      show Steps p.tables e below (s₁.setTop (mkF m 0 #[.val (.ref y), .val (.ref d), .val (.int (Int32.ofNat cs.length)), .val (.int (0 : Int32))] [])) _
      refine XS.aloadN X0.here hx rfl (hb hby own_d_jdk_42_method_147_code_0) rfl rfl ?_
      show Steps p.tables e below (s₁.setTop (mkF m 1 #[.val (.ref y), .val (.ref d), .val (.int (Int32.ofNat cs.length)), .val (.int (0 : Int32))] [(.ref y)])) _
      refine st2.trans ?_
      show Steps p.tables e below (T2.setTop (mkF m 4 #[.val (.ref y), .val (.ref d), .val (.int (Int32.ofNat cs.length)), .val (.int (0 : Int32))] [(.int (0 : Int32))])) _
      refine XS.iloadN X2.here hx rfl (hb hby own_d_jdk_42_method_147_code_4) rfl ?_
      show Steps p.tables e below (T2.setTop (mkF m 5 #[.val (.ref y), .val (.ref d), .val (.int (Int32.ofNat cs.length)), .val (.int (0 : Int32))] [(.int (0 : Int32)), (.int (0 : Int32))])) _
      refine XS.icmpNo X2.here hx rfl (hb hby own_d_jdk_42_method_147_code_5) rfl (teq rfl).2 ?_
      show Steps p.tables e below (T2.setTop (mkF m 8 #[.val (.ref y), .val (.ref d), .val (.int (Int32.ofNat cs.length)), .val (.int (0 : Int32))] [])) _
      refine XS.aloadN X2.here hx rfl (hb hby own_d_jdk_42_method_147_code_8) rfl rfl ?_
      show Steps p.tables e below (T2.setTop (mkF m 9 #[.val (.ref y), .val (.ref d), .val (.int (Int32.ofNat cs.length)), .val (.int (0 : Int32))] [(.ref y)])) _
      refine st3 _ ?_
      show Steps p.tables e below (T3.setTop (mkF m 12 #[.val (.ref y), .val (.ref d), .val (.int (Int32.ofNat cs.length)), .val (.int (0 : Int32))] [(.ref ty)])) _
      refine XS.iconst X3.here hx rfl (hb hby own_d_jdk_42_method_147_code_12) ?_
      show Steps p.tables e below (T3.setTop (mkF m 13 #[.val (.ref y), .val (.ref d), .val (.int (Int32.ofNat cs.length)), .val (.int (0 : Int32))] [(.int (0 : Int32)), (.ref ty)])) _
      refine XS.aloadN X3.here hx rfl (hb hby own_d_jdk_42_method_147_code_13) rfl rfl ?_
      show Steps p.tables e below (T3.setTop (mkF m 14 #[.val (.ref y), .val (.ref d), .val (.int (Int32.ofNat cs.length)), .val (.int (0 : Int32))] [(.ref d), (.int (0 : Int32)), (.ref ty)])) _
      refine XS.iloadN X3.here hx rfl (hb hby own_d_jdk_42_method_147_code_14) rfl ?_
      show Steps p.tables e below (T3.setTop (mkF m 15 #[.val (.ref y), .val (.ref d), .val (.int (Int32.ofNat cs.length)), .val (.int (0 : Int32))] [(.int (Int32.ofNat cs.length)), (.ref d), (.int (0 : Int32)), (.ref ty)])) _
      refine XS.iloadN X3.here hx rfl (hb hby own_d_jdk_42_method_147_code_15) rfl ?_
      show Steps p.tables e below (T3.setTop (mkF m 16 #[.val (.ref y), .val (.ref d), .val (.int (Int32.ofNat cs.length)), .val (.int (0 : Int32))] [(.int (0 : Int32)), (.int (Int32.ofNat cs.length)), (.ref d), (.int (0 : Int32)), (.ref ty)])) _
      refine XS.ishl X3.here hx rfl (hb hby own_d_jdk_42_method_147_code_16) rfl ?_
      show Steps p.tables e below (T3.setTop (mkF m 17 #[.val (.ref y), .val (.ref d), .val (.int (Int32.ofNat cs.length)), .val (.int (0 : Int32))] [(.int ((Int32.ofNat cs.length) <<< ((0 : Int32) &&& 31))), (.ref d), (.int (0 : Int32)), (.ref ty)])) _
      exact kk_)
  have r5 : GoTo p.tables e below s₁ (own_F_own_getBytes m y d cs) T3 (mkF m 17 #[.val (.ref y), .val (.ref d), .val (.int (Int32.ofNat cs.length)), .val (.int (0 : Int32))] [(.int (Int32.ofNat cs.length)), (.ref d), (.int (0 : Int32)), (.ref ty)]) := Eq.mp (congrArg (fun zz_ => GoTo p.tables e below s₁ (own_F_own_getBytes m y d cs) T3 (mkF m 17 #[.val (.ref y), .val (.ref d), .val (.int (Int32.ofNat cs.length)), .val (.int (0 : Int32))] [(.int zz_), (.ref d), (.int (0 : Int32)), (.ref ty)])) (show ((Int32.ofNat cs.length) <<< ((0 : Int32) &&& 31)) = (Int32.ofNat cs.length) from own_shl0 _)) r4
  obtain ⟨T6, X6, e6, st6⟩ := getF X3 hx hZ hown (host := "") (Or.inl (hw _ (List.mem_of_getElem? (i := 58) rfl))) Via.refl e3 hp0.2.1 (g := (mkF m 18 #[.val (.ref y), .val (.ref d), .val (.int (Int32.ofNat cs.length)), .val (.int (0 : Int32))] [(.ref y), (.int (Int32.ofNat cs.length)), (.ref d), (.int (0 : Int32)), (.ref ty)])) rfl rfl (hb hby own_d_jdk_42_method_147_code_18)
  obtain ⟨cl7, Ar7, q7, S7, NN7, H7, G7⟩ := id hp0.2.2.2.1
  obtain ⟨us8, hus8⟩ : ∃ us : List Value, us = (List.range ds.length).map fun i => (((ds.map fun c => c.toInt8.toInt32).map Value.int)).getD (0 + i) (.int 0) := ⟨_, rfl⟩
  obtain ⟨T8, h8, L8, X8, e8, N8, Kc8, V8, st8⟩ := cpA X6 hx hZ hown (hw _ (List.mem_of_getElem? (i := 134) rfl)) (hw _ (List.mem_of_getElem? (i := 137) rfl)) (hw _ (List.mem_of_getElem? (i := 135) rfl)) (hw _ (List.mem_of_getElem? (i := 136) rfl)) e6 (us := us8) hp0.2.2.2.1 hva1 (Or.inl ⟨rfl, rfl⟩) (own_negN (by decide : (0 : Nat) ≤ 1000000)) (own_negN hc6) (own_negN hd6) (by have q0 : (Int32.ofNat 0).toNatClampNeg = 0 := rfl; have q0' : (0 : Int32).toNatClampNeg = 0 := rfl; have q1 := own_clamp hd6; (try simp only [List.length_replicate]); omega) (by have q0 : (Int32.ofNat 0).toNatClampNeg = 0 := rfl; have q0' : (0 : Int32).toNatClampNeg = 0 := rfl; have q1 := own_clamp hc6; have q2 := own_clamp hd6; have q3 := own_clamp hN6; (try simp only [List.length_replicate]); omega) (by rw [own_clamp hd6, own_clamp (by decide : (0 : Nat) ≤ 1000000)]; exact hus8) (by have q0 : (Int32.ofNat 0).toNatClampNeg = 0 := rfl; have q0' : (0 : Int32).toNatClampNeg = 0 := rfl; have q1 := own_clamp hc6; have q2 := own_clamp hd6; have qv := hvl1; (try simp only [List.length_replicate]); omega) N2 hp2 (g := (mkF m 22 #[.val (.ref y), .val (.ref d), .val (.int (Int32.ofNat cs.length)), .val (.int (0 : Int32))] [(.int (Int32.ofNat ds.length)), (.int (Int32.ofNat cs.length)), (.ref d), (.int (0 : Int32)), (.ref ty)])) rfl (by rw [hml]; rfl) rfl (hb hby own_d_jdk_42_method_147_code_22) (by decide) (W := 0) (by show 2 * 0 + _ ≤ _; exact Nat.le_of_eq rfl) (by decide)
  rw [own_clamp hc6, own_clamp hd6] at V8
  have K9 : Keep h0 h8 [d] := K0.trans Kc8 (allS (Or.inl (List.mem_of_getElem? (i := 0) rfl)) all0)
  have f10 : Exa Z h8 d "[B" := (hp1.1.keep Kc8)
  obtain ⟨fs, hr, hrun, hended, hW, hsame⟩ := X8.leave (v := none) (fun _ => rfl)
  refine ⟨_, _, r5 _ ?_, hrun, hended, _, _, rfl, ?_, ⟨_, rfl⟩, hW, hsame.mono (by decide) (by decide)⟩
  · show Steps p.tables e below (T3.setTop (mkF m 17 #[.val (.ref y), .val (.ref d), .val (.int (Int32.ofNat cs.length)), .val (.int (0 : Int32))] [(.int (Int32.ofNat cs.length)), (.ref d), (.int (0 : Int32)), (.ref ty)])) _
    refine XS.aloadN X3.here hx rfl (hb hby own_d_jdk_42_method_147_code_17) rfl rfl ?_
    show Steps p.tables e below (T3.setTop (mkF m 18 #[.val (.ref y), .val (.ref d), .val (.int (Int32.ofNat cs.length)), .val (.int (0 : Int32))] [(.ref y), (.int (Int32.ofNat cs.length)), (.ref d), (.int (0 : Int32)), (.ref ty)])) _
    refine st6 _ ?_
    show Steps p.tables e below (T6.setTop (mkF m 21 #[.val (.ref y), .val (.ref d), .val (.int (Int32.ofNat cs.length)), .val (.int (0 : Int32))] [(.ref ty), (.int (Int32.ofNat cs.length)), (.ref d), (.int (0 : Int32)), (.ref ty)])) _
    refine X6.arraylength hx (by rw [e6]; exact Ar7.1) (State.isArrayOf_alike hZ.alike Ar7.2.1) (g := (mkF m 21 #[.val (.ref y), .val (.ref d), .val (.int (Int32.ofNat cs.length)), .val (.int (0 : Int32))] [(.ref ty), (.int (Int32.ofNat cs.length)), (.ref d), (.int (0 : Int32)), (.ref ty)])) rfl rfl (hb hby own_d_jdk_42_method_147_code_21) _ ?_
    rw [len_of S7 NN7]
    show Steps p.tables e below (T6.setTop (mkF m 22 #[.val (.ref y), .val (.ref d), .val (.int (Int32.ofNat cs.length)), .val (.int (0 : Int32))] [(.int (Int32.ofNat ds.length)), (.int (Int32.ofNat cs.length)), (.ref d), (.int (0 : Int32)), (.ref ty)])) _
    refine st8 _ ?_
    show Steps p.tables e below (T8.setTop (mkF m 25 #[.val (.ref y), .val (.ref d), .val (.int (Int32.ofNat cs.length)), .val (.int (0 : Int32))] [])) _
    refine XS.goto X8.here hx rfl (pc0 := 25) (pc' := 43) rfl (hb hby own_d_jdk_42_method_147_code_25) (by decide) (by decide) ?_
    show Steps p.tables e below (T8.setTop (mkF m 43 #[.val (.ref y), .val (.ref d), .val (.int (Int32.ofNat cs.length)), .val (.int (0 : Int32))] [])) _
    exact X8.returnOut hx Bd.returns (hb hby own_d_jdk_42_method_147_code_43) hr
  · show Q_own_getBytes Z y ty ky ds d kd N cs gCS h0 n0 _ T8.heap _
    rw [e8]
    exact ⟨rfl, N8, K9, own_By.app f10 hN6 hvl1 hfit rfl hus8 hvc1 (own_map_getD ds) V8⟩
theorem own_pn_own_put : plainName "java/lang/AbstractStringBuilder" = true := by first | (simp [plainName, overriddenIn]; done) | decide +kernel
theorem own_ef_own_put (m : MethodId) (b : Addr) (cs : List Int32) (y : Addr) : entryFrame m #[(.ref b), (.int (Int32.ofNat cs.length)), (.ref y)] 3 = mkF m 0 #[.val (.ref b), .val (.int (Int32.ofNat cs.length)), .val (.ref y)] [] := by first | (simp [entryFrame, mkF, argsToLocals, own_cI, own_cJ, own_cR, own_cN]; done) | rfl
abbrev own_F_own_put (m : MethodId) (b : Addr) (cs : List Int32) (y : Addr) : JFrame := entryFrame m #[(.ref b), (.int (Int32.ofNat cs.length)), (.ref y)] 3
def Q_own_put (Z : State) (b : Addr) (d : Addr) (kd : ClassId) (N : Nat) (cs : List Int32) (y : Addr) (ty : Addr) (ky : ClassId) (ds : List Int32) (gCS : Int32) (h0 : Heap) (n0 : Nat) (v : Option Value) (h : Heap) (L : List Loc) : Prop := v = none ∧ Fr n0 L ∧ Keep h0 h [d] ∧ (own_By Z h d kd N (cs ++ ds))
set_option maxRecDepth 65536 in
set_option maxHeartbeats 40000000 in
theorem own_put (l : Launch) (Z : State) (a0 : Array Value) (hw : ∀ d ∈ tables_1, d.before a0 Z = true) (ws : List Jvm.Cond) (b : Addr) (d : Addr) (kd : ClassId) (N : Nat) (cs : List Int32) (y : Addr) (ty : Addr) (ky : ClassId) (ds : List Int32) (gCS : Int32) (h0 : Heap) (n0 : Nat) (O0 : Old Z n0 h0) (hp0 : Exa Z h0 b "java/lang/StringBuilder") (hp1 : Fld Z h0 b "java/lang/AbstractStringBuilder" "value" "[B" (.ref d)) (hp2 : Fld Z h0 b "java/lang/AbstractStringBuilder" "coder" "B" (.int (0 : Int32))) (hp3 : own_By Z h0 d kd N cs) (hp4 : own_Str Z h0 y ty ky ds) (hp5 : n0 ≤ d) (hp6 : ty ≠ d) (hfit : cs.length + ds.length ≤ N) (hp8 : Sta Z Z.heap "java/lang/String" "COMPACT_STRINGS" "Z" (.int gCS)) (hG1 : ¬ gCS = (0 : Int32)) :
    MetFree l (⟨"java/lang/AbstractStringBuilder", "putStringAt", "(ILjava/lang/String;)V"⟩ : MethodName) (head1 (Jvm.Cond.code (⟨"java/lang/AbstractStringBuilder", "putStringAt", "(ILjava/lang/String;)V"⟩ : MethodName) jdk_68_method_73_code 3 none :: ws) ({ frames := 2, cells := 0, slots := 0, locals := 33 } : Room)) (fun aa_ U_ => aa_ = #[(.ref b), (.int (Int32.ofNat cs.length)), (.ref y)] ∧ Z.Warmed39 U_.vm ∧ U_.heap = h0) (fun _ _ _ _ _ => True) (fun _ U_ o_ V_ => ∃ v_ L_, o_ = .returned v_ ∧ Q_own_put Z b d kd N cs y ty ky ds gCS h0 n0 v_ V_.heap L_ ∧ FrameEnd U_ o_ V_ L_ ({ frames := 2, cells := 0, slots := 0, locals := 33 } : Room).cells ({ frames := 2, cells := 0, slots := 0, locals := 33 } : Room).slots) := by
  refine MetFree.of_bodySF (plainFor_of_name own_pn_own_put) hisR ?_
  intro p e s m args below meth c s₁ Bd hml0 hP hK
  obtain ⟨rfl, hZ, hh⟩ := hP
  have hx := Bd.exec
  have hby := Bd.bytes
  have hml : c.maxLocals = 3 := hml0
  have hown : s.vm.findClass "java/lang/AbstractStringBuilder" = some m.cls := findClass_of_methodNamed Bd.named
  have hnm := (name_of_methodNamed Bd.named Bd.method).1
  have X0 : Stand p l e ({ frames := 2, cells := 0, slots := 0, locals := 33 } : Room) s m #[(.ref b), (.int (Int32.ofNat cs.length)), (.ref y)] below meth c s₁ [] 0 0 := Stand.of_body Bd
  have e0 : s₁.heap = h0 := by rw [← hh, Bd.state]; rfl
  have N0 := Fr.nil n0
  have K0 : Keep h0 h0 [d] := Keep.refl _ _
  have r0 : GoTo p.tables e below s₁ (own_F_own_put m b cs y) s₁ (mkF m 0 #[.val (.ref b), .val (.int (Int32.ofNat cs.length)), .val (.ref y)] []) := fun tt_ kk_ => castTop (own_ef_own_put m b cs y) kk_
  obtain ⟨cq1, qa1, qb1⟩ := hp0.cell
  obtain ⟨_, _, ⟨T1, L1, k1, n1⟩, -, X1, ⟨Lc1, hQ1, l1, y1, z1⟩, st1⟩ := X0.privateBack hx (y := (⟨"java/lang/AbstractStringBuilder", "inflateIfNeededFor", "(Ljava/lang/String;)V"⟩ : MethodName)) hown (mvT hZ (hw _ (List.mem_of_getElem? (i := 123) rfl))) (mvT hZ (hw _ (List.mem_of_getElem? (i := 124) rfl))) (own_selfSel (mvT hZ (hw _ (List.mem_of_getElem? (i := 126) rfl))) (Cond.privateMethod_at (mvP hZ (hw _ (List.mem_of_getElem? (i := 125) rfl)) (args := #[]))) (mvT hZ (hw _ (List.mem_of_getElem? (i := 124) rfl))) (by decide)) (Cond.privateMethod_at (mvP hZ (hw _ (List.mem_of_getElem? (i := 125) rfl)) (args := #[]))) (mvT hZ (hw _ (List.mem_of_getElem? (i := 127) rfl))) (by decide) (backOf (W := 0) (own_infl l Z a0 hw [] (b) (y) (gCS) h0 n0 (O0.keep K0 (allS hp5 all0)) (hp4.1) (hp2) (hp4.2.2.1) (hp8) (hG1)) hZ (hw _ (List.mem_of_getElem? (i := 127) rfl)) (hw _ (List.mem_of_getElem? (i := 72) rfl)) (by decide) (by decide)) (g := (mkF m 2 #[.val (.ref b), .val (.int (Int32.ofNat cs.length)), .val (.ref y)] [(.ref y), (.ref b)])) rfl (by rw [hml]; rfl) (Steps.refl _) (a := b) (by rw [e0]; exact qa1) qb1 (argsL := [(.ref y)]) (rest := []) (lenOf own_pd10 rfl) rfl (by show 2 * 0 + _ ≤ _; exact Nat.le_of_eq rfl) (hb hby own_d_jdk_68_method_73_code_2) (fun _ _ => ⟨rfl, e0, (by decide : 0 + 0 ≤ _), (by decide : 0 + 0 ≤ _)⟩)
  dsimp only [Pt.U, Pt.locs, Pt.cells, Pt.slots] at X1 l1 y1 z1 st1 hQ1
  subst l1 y1 z1
  obtain ⟨rfl, Nq1, hh1⟩ := hQ1
  have N1 := Fr.app N0 Nq1
  obtain ⟨T2, X2, e2, st2⟩ := getF X1 hx hZ hown (host := "") (Or.inl (hw _ (List.mem_of_getElem? (i := 76) rfl))) Via.refl hh1 hp1 (g := (mkF m 7 #[.val (.ref b), .val (.int (Int32.ofNat cs.length)), .val (.ref y)] [(.ref b), (.ref y)])) rfl rfl (hb hby own_d_jdk_68_method_73_code_7)
  obtain ⟨T3, X3, e3, st3⟩ := getF X2 hx hZ hown (host := "") (Or.inl (hw _ (List.mem_of_getElem? (i := 78) rfl))) Via.refl e2 hp2 (g := (mkF m 12 #[.val (.ref b), .val (.int (Int32.ofNat cs.length)), .val (.ref y)] [(.ref b), (.int (Int32.ofNat cs.length)), (.ref d), (.ref y)])) rfl rfl (hb hby own_d_jdk_68_method_73_code_12)
  obtain ⟨cq4, kq4, qa4, qb4, qc4⟩ := isOf hZ e3 hp4.1
  obtain ⟨_, _, ⟨T4, L4, k4, n4⟩, -, X4, ⟨Lc4, hQ4, l4, y4, z4⟩, st4⟩ := X3.virtualBack hx (y := (⟨"java/lang/String", "getBytes", "([BIB)V"⟩ : MethodName)) (z := (⟨"java/lang/String", "getBytes", "([BIB)V"⟩ : MethodName)) hown (mvT hZ (hw _ (List.mem_of_getElem? (i := 129) rfl))) (mvT hZ (hw _ (List.mem_of_getElem? (i := 130) rfl))) (notFace_of_selects (args := #[]) (mvT hZ (hw _ (List.mem_of_getElem? (i := 132) rfl)))) (mvT hZ (hw _ (List.mem_of_getElem? (i := 132) rfl))) (mvT hZ (hw _ (List.mem_of_getElem? (i := 131) rfl))) (by decide) (backOf (W := 0) (own_getBytes l Z a0 hw [] (y) (ty) (ky) (ds) (d) (kd) (N) (cs) (gCS) h0 n0 (O0.keep K0 (allS hp5 all0)) (hp4) (hp3) (hp5) (hp6) (hfit) (hp8) (hG1)) hZ (hw _ (List.mem_of_getElem? (i := 133) rfl)) (hw _ (List.mem_of_getElem? (i := 41) rfl)) (by decide) (by decide)) qa4 qc4 (g := (mkF m 15 #[.val (.ref b), .val (.int (Int32.ofNat cs.length)), .val (.ref y)] [(.int (0 : Int32)), (.int (Int32.ofNat cs.length)), (.ref d), (.ref y)])) rfl (by rw [hml]; rfl) (Steps.refl _) (argsL := [(.ref d), (.int (Int32.ofNat cs.length)), (.int (0 : Int32))]) (rest := []) (lenOf own_pd11 rfl) rfl (by show 2 * 0 + _ ≤ _; exact Nat.le_of_eq rfl) (hb hby own_d_jdk_68_method_73_code_15) (fun _ _ => ⟨rfl, e3, (by decide : 0 + 0 ≤ _), (by decide : 0 + 0 ≤ _)⟩)
  dsimp only [Pt.U, Pt.locs, Pt.cells, Pt.slots] at X4 l4 y4 z4 st4 hQ4
  subst l4 y4 z4
  obtain ⟨rfl, Nq4, Kq4, po4_0⟩ := hQ4
  have N4 := Fr.app N1 Nq4
  have K5 : Keep h0 T4.heap [d] := K0.trans Kq4 (allS (Or.inl (List.mem_of_getElem? (i := 0) rfl)) all0)
  obtain ⟨fs, hr, hrun, hended, hW, hsame⟩ := X4.leave (v := none) (fun _ => rfl)
  refine ⟨_, _, r0 _ ?_, hrun, hended, _, _, rfl, ?_, ⟨_, rfl⟩, hW, hsame.mono (by decide) (by decide)⟩
  · show Steps p.tables e below (s₁.setTop (mkF m 0 #[.val (.ref b), .val (.int (Int32.ofNat cs.length)), .val (.ref y)] [])) _
    refine XS.aloadN X0.here hx rfl (hb hby own_d_jdk_68_method_73_code_0) rfl rfl ?_
    show Steps p.tables e below (s₁.setTop (mkF m 1 #[.val (.ref b), .val (.int (Int32.ofNat cs.length)), .val (.ref y)] [(.ref b)])) _
    refine XS.aloadN X0.here hx rfl (hb hby own_d_jdk_68_method_73_code_1) rfl rfl ?_
    show Steps p.tables e below (s₁.setTop (mkF m 2 #[.val (.ref b), .val (.int (Int32.ofNat cs.length)), .val (.ref y)] [(.ref y), (.ref b)])) _
    refine st1.trans ?_
    show Steps p.tables e below (T1.setTop (mkF m 5 #[.val (.ref b), .val (.int (Int32.ofNat cs.length)), .val (.ref y)] [])) _
    refine XS.aloadN X1.here hx rfl (hb hby own_d_jdk_68_method_73_code_5) rfl rfl ?_
    show Steps p.tables e below (T1.setTop (mkF m 6 #[.val (.ref b), .val (.int (Int32.ofNat cs.length)), .val (.ref y)] [(.ref y)])) _
    refine XS.aloadN X1.here hx rfl (hb hby own_d_jdk_68_method_73_code_6) rfl rfl ?_
    show Steps p.tables e below (T1.setTop (mkF m 7 #[.val (.ref b), .val (.int (Int32.ofNat cs.length)), .val (.ref y)] [(.ref b), (.ref y)])) _
    refine st2 _ ?_
    show Steps p.tables e below (T2.setTop (mkF m 10 #[.val (.ref b), .val (.int (Int32.ofNat cs.length)), .val (.ref y)] [(.ref d), (.ref y)])) _
    refine XS.iloadN X2.here hx rfl (hb hby own_d_jdk_68_method_73_code_10) rfl ?_
    show Steps p.tables e below (T2.setTop (mkF m 11 #[.val (.ref b), .val (.int (Int32.ofNat cs.length)), .val (.ref y)] [(.int (Int32.ofNat cs.length)), (.ref d), (.ref y)])) _
    refine XS.aloadN X2.here hx rfl (hb hby own_d_jdk_68_method_73_code_11) rfl rfl ?_
    show Steps p.tables e below (T2.setTop (mkF m 12 #[.val (.ref b), .val (.int (Int32.ofNat cs.length)), .val (.ref y)] [(.ref b), (.int (Int32.ofNat cs.length)), (.ref d), (.ref y)])) _
    refine st3 _ ?_
    show Steps p.tables e below (T3.setTop (mkF m 15 #[.val (.ref b), .val (.int (Int32.ofNat cs.length)), .val (.ref y)] [(.int (0 : Int32)), (.int (Int32.ofNat cs.length)), (.ref d), (.ref y)])) _
    refine st4.trans ?_
    show Steps p.tables e below (T4.setTop (mkF m 18 #[.val (.ref b), .val (.int (Int32.ofNat cs.length)), .val (.ref y)] [])) _
    exact X4.returnOut hx Bd.returns (hb hby own_d_jdk_68_method_73_code_18) hr
  · show Q_own_put Z b d kd N cs y ty ky ds gCS h0 n0 _ T4.heap _
    exact ⟨rfl, N4, K5, po4_0⟩
theorem own_pn_own_aappS : plainName "java/lang/AbstractStringBuilder" = true := by first | (simp [plainName, overriddenIn]; done) | decide +kernel
theorem own_ef_own_aappS (m : MethodId) (b : Addr) (y : Addr) : entryFrame m #[(.ref b), (.ref y)] 3 = mkF m 0 #[.val (.ref b), .val (.ref y), .unset] [] := by first | (simp [entryFrame, mkF, argsToLocals, own_cI, own_cJ, own_cR, own_cN]; done) | rfl
abbrev own_F_own_aappS (m : MethodId) (b : Addr) (y : Addr) : JFrame := entryFrame m #[(.ref b), (.ref y)] 3
def Q_own_aappS (Z : State) (b : Addr) (d : Addr) (kd : ClassId) (N : Nat) (cs : List Int32) (y : Addr) (ty : Addr) (ky : ClassId) (ds : List Int32) (gCS : Int32) (h0 : Heap) (n0 : Nat) (v : Option Value) (h : Heap) (L : List Loc) : Prop := ∃ (d2 : Addr), ∃ (k2 : ClassId), ∃ (N2 : Nat), v = some (.ref b) ∧ Fr n0 L ∧ Keep h0 h [b, d] ∧ (d2 = d ∨ h0.size ≤ d2) ∧ (n0 ≤ d2) ∧ (own_SB Z h b d2 k2 N2 (cs ++ ds)) ∧ (N ≤ N2 ∧ (N2 = N ∨ N2 ≤ 200))
set_option maxRecDepth 65536 in
set_option maxHeartbeats 40000000 in
theorem own_aappS (l : Launch) (Z : State) (a0 : Array Value) (hw : ∀ d ∈ tables_1, d.before a0 Z = true) (ws : List Jvm.Cond) (b : Addr) (d : Addr) (kd : ClassId) (N : Nat) (cs : List Int32) (y : Addr) (ty : Addr) (ky : ClassId) (ds : List Int32) (gCS : Int32) (h0 : Heap) (n0 : Nat) (O0 : Old Z n0 h0) (hp0 : own_SB Z h0 b d kd N cs) (hp1 : n0 ≤ b) (hp2 : n0 ≤ d) (hp3 : own_Str Z h0 y ty ky ds) (hp4 : y ≠ b) (hp5 : y ≠ d) (hp6 : ty ≠ b) (hp7 : ty ≠ d) (hNp : 0 < N) (hcap : N < cs.length + ds.length → N + max (cs.length + ds.length - N) (N + 2) ≤ 200) (hNb : N ≤ 100000) (hp11 : Sta Z Z.heap "java/lang/String" "COMPACT_STRINGS" "Z" (.int gCS)) (hG1 : ¬ gCS = (0 : Int32)) :
    MetFree l (⟨"java/lang/AbstractStringBuilder", "append", "(Ljava/lang/String;)Ljava/lang/AbstractStringBuilder;"⟩ : MethodName) (head1 (Jvm.Cond.code (⟨"java/lang/AbstractStringBuilder", "append", "(Ljava/lang/String;)Ljava/lang/AbstractStringBuilder;"⟩ : MethodName) jdk_68_method_22_code 3 (some (.object "java/lang/AbstractStringBuilder")) :: ws) ({ frames := 4, cells := 1, slots := 200, locals := 62 } : Room)) (fun aa_ U_ => aa_ = #[(.ref b), (.ref y)] ∧ Z.Warmed39 U_.vm ∧ U_.heap = h0) (fun _ _ _ _ _ => True) (fun _ U_ o_ V_ => ∃ v_ L_, o_ = .returned v_ ∧ Q_own_aappS Z b d kd N cs y ty ky ds gCS h0 n0 v_ V_.heap L_ ∧ FrameEnd U_ o_ V_ L_ ({ frames := 4, cells := 1, slots := 200, locals := 62 } : Room).cells ({ frames := 4, cells := 1, slots := 200, locals := 62 } : Room).slots) := by
  refine MetFree.of_bodySF (plainFor_of_name own_pn_own_aappS) hisR ?_
  intro p e s m args below meth c s₁ Bd hml0 hP hK
  obtain ⟨rfl, hZ, hh⟩ := hP
  have hx := Bd.exec
  have hby := Bd.bytes
  have hml : c.maxLocals = 3 := hml0
  have hown : s.vm.findClass "java/lang/AbstractStringBuilder" = some m.cls := findClass_of_methodNamed Bd.named
  have hnm := (name_of_methodNamed Bd.named Bd.method).1
  have X0 : Stand p l e ({ frames := 4, cells := 1, slots := 200, locals := 62 } : Room) s m #[(.ref b), (.ref y)] below meth c s₁ [] 0 0 := Stand.of_body Bd
  have e0 : s₁.heap = h0 := by rw [← hh, Bd.state]; rfl
  have N0 := Fr.nil n0
  have K0 : Keep h0 h0 [b, d] := Keep.refl _ _
  have r0 : GoTo p.tables e below s₁ (own_F_own_aappS m b y) s₁ (mkF m 0 #[.val (.ref b), .val (.ref y), .unset] []) := fun tt_ kk_ => castTop (own_ef_own_aappS m b y) kk_
  have hcl := hp0.2.2.2.2.1.2.1
  have hdl := hp3.2.2.2.2.2
  obtain ⟨cq1, kq1, qa1, qb1, qc1⟩ := isOf hZ e0 hp3.1
  obtain ⟨_, _, ⟨T1, L1, k1, n1⟩, -, X1, ⟨Lc1, hQ1, l1, y1, z1⟩, st1⟩ := X0.virtualBack hx (y := (⟨"java/lang/String", "length", "()I"⟩ : MethodName)) (z := (⟨"java/lang/String", "length", "()I"⟩ : MethodName)) hown (mvT hZ (hw _ (List.mem_of_getElem? (i := 110) rfl))) (mvT hZ (hw _ (List.mem_of_getElem? (i := 84) rfl))) (notFace_of_selects (args := #[]) (mvT hZ (hw _ (List.mem_of_getElem? (i := 86) rfl)))) (mvT hZ (hw _ (List.mem_of_getElem? (i := 86) rfl))) (mvT hZ (hw _ (List.mem_of_getElem? (i := 85) rfl))) (by decide) (backOf (W := 0) (own_strlen l Z a0 hw [] (y) (ty) (ky) (ds) (gCS) h0 n0 (O0.keep K0 (allS hp1 (allS hp2 all0))) (hp3) (hp11) (hG1)) hZ (hw _ (List.mem_of_getElem? (i := 87) rfl)) (hw _ (List.mem_of_getElem? (i := 41) rfl)) (by decide) (by decide)) qa1 qc1 (g := (mkF m 10 #[.val (.ref b), .val (.ref y), .unset] [(.ref y)])) rfl (by rw [hml]; rfl) (Steps.refl _) (argsL := []) (rest := []) (lenOf own_pd12 rfl) rfl (by show 2 * 0 + _ ≤ _; exact Nat.le_of_eq rfl) (hb hby own_d_jdk_68_method_22_code_10) (fun _ _ => ⟨rfl, e0, (by decide : 0 + 0 ≤ _), (by decide : 0 + 0 ≤ _)⟩)
  dsimp only [Pt.U, Pt.locs, Pt.cells, Pt.slots] at X1 l1 y1 z1 st1 hQ1
  subst l1 y1 z1
  obtain ⟨rfl, Nq1, hh1⟩ := hQ1
  have N1 := Fr.app N0 Nq1
  obtain ⟨T2, X2, e2, st2⟩ := getF X1 hx hZ hown (host := "") (Or.inl (hw _ (List.mem_of_getElem? (i := 111) rfl))) Via.refl hh1 hp0.2.2.2.1 (g := (mkF m 16 #[.val (.ref b), .val (.ref y), .val (.int (Int32.ofNat ds.length))] [(.ref b), (.ref b)])) rfl rfl (hb hby own_d_jdk_68_method_22_code_16)
  have r3 : GoTo p.tables e below s₁ (own_F_own_aappS m b y) T2 (mkF m 21 #[.val (.ref b), .val (.ref y), .val (.int (Int32.ofNat ds.length))] [(.int ((Int32.ofNat cs.length) + (Int32.ofNat ds.length))), (.ref b)]) := fun tt_ kk_ => r0 tt_ (by
      show Steps p.tables e below (s₁.setTop (mkF m 0 #[.val (.ref b), .val (.ref y), .unset] [])) _
      refine XS.aloadN X0.here hx rfl (hb hby own_d_jdk_68_method_22_code_0) rfl rfl ?_
      show Steps p.tables e below (s₁.setTop (mkF m 1 #[.val (.ref b), .val (.ref y), .unset] [(.ref y)])) _
      refine XS.ifnonnullYes X0.here hx rfl (pc0 := 1) (pc' := 9) rfl (hb hby own_d_jdk_68_method_22_code_1) rfl (by decide) (by decide) ?_
      show Steps p.tables e below (s₁.setTop (mkF m 9 #[.val (.ref b), .val (.ref y), .unset] [])) _
      refine XS.aloadN X0.here hx rfl (hb hby own_d_jdk_68_method_22_code_9) rfl rfl ?_
      show Steps p.tables e below (s₁.setTop (mkF m 10 #[.val (.ref b), .val (.ref y), .unset] [(.ref y)])) _
      refine st1.trans ?_
      show Steps p.tables e below (T1.setTop (mkF m 13 #[.val (.ref b), .val (.ref y), .unset] [(.int (Int32.ofNat ds.length))])) _
      refine XS.istoreN X1.here hx rfl (hb hby own_d_jdk_68_method_22_code_13) rfl (l' := #[.val (.ref b), .val (.ref y), .val (.int (Int32.ofNat ds.length))]) rfl ?_
      show Steps p.tables e below (T1.setTop (mkF m 14 #[.val (.ref b), .val (.ref y), .val (.int (Int32.ofNat ds.length))] [])) _
      refine XS.aloadN X1.here hx rfl (hb hby own_d_jdk_68_method_22_code_14) rfl rfl ?_
      show Steps p.tables e below (T1.setTop (mkF m 15 #[.val (.ref b), .val (.ref y), .val (.int (Int32.ofNat ds.length))] [(.ref b)])) _
      refine XS.aloadN X1.here hx rfl (hb hby own_d_jdk_68_method_22_code_15) rfl rfl ?_
      show Steps p.tables e below (T1.setTop (mkF m 16 #[.val (.ref b), .val (.ref y), .val (.int (Int32.ofNat ds.length))] [(.ref b), (.ref b)])) _
      refine st2 _ ?_
      show Steps p.tables e below (T2.setTop (mkF m 19 #[.val (.ref b), .val (.ref y), .val (.int (Int32.ofNat ds.length))] [(.int (Int32.ofNat cs.length)), (.ref b)])) _
      refine XS.iloadN X2.here hx rfl (hb hby own_d_jdk_68_method_22_code_19) rfl ?_
      show Steps p.tables e below (T2.setTop (mkF m 20 #[.val (.ref b), .val (.ref y), .val (.int (Int32.ofNat ds.length))] [(.int (Int32.ofNat ds.length)), (.int (Int32.ofNat cs.length)), (.ref b)])) _
      refine XS.iadd X2.here hx rfl (hb hby own_d_jdk_68_method_22_code_20) rfl ?_
      show Steps p.tables e below (T2.setTop (mkF m 21 #[.val (.ref b), .val (.ref y), .val (.int (Int32.ofNat ds.length))] [(.int ((Int32.ofNat cs.length) + (Int32.ofNat ds.length))), (.ref b)])) _
      exact kk_)
  have r4 : GoTo p.tables e below s₁ (own_F_own_aappS m b y) T2 (mkF m 21 #[.val (.ref b), .val (.ref y), .val (.int (Int32.ofNat ds.length))] [(.int (Int32.ofNat (cs.length + ds.length))), (.ref b)]) := Eq.mp (congrArg (fun zz_ => GoTo p.tables e below s₁ (own_F_own_aappS m b y) T2 (mkF m 21 #[.val (.ref b), .val (.ref y), .val (.int (Int32.ofNat ds.length))] [(.int zz_), (.ref b)])) (show ((Int32.ofNat cs.length) + (Int32.ofNat ds.length)) = (Int32.ofNat (cs.length + ds.length)) from own_addN)) r3
  obtain ⟨cq5, qa5, qb5⟩ := hp0.1.cell
  obtain ⟨_, _, ⟨T5, L5, k5, n5⟩, -, X5, ⟨Lc5, hQ5, l5, y5, z5⟩, st5⟩ := X2.privateBack hx (y := (⟨"java/lang/AbstractStringBuilder", "ensureCapacityInternal", "(I)V"⟩ : MethodName)) hown (mvT hZ (hw _ (List.mem_of_getElem? (i := 113) rfl))) (mvT hZ (hw _ (List.mem_of_getElem? (i := 114) rfl))) (own_selfSel (mvT hZ (hw _ (List.mem_of_getElem? (i := 116) rfl))) (Cond.privateMethod_at (mvP hZ (hw _ (List.mem_of_getElem? (i := 115) rfl)) (args := #[]))) (mvT hZ (hw _ (List.mem_of_getElem? (i := 114) rfl))) (by decide)) (Cond.privateMethod_at (mvP hZ (hw _ (List.mem_of_getElem? (i := 115) rfl)) (args := #[]))) (mvT hZ (hw _ (List.mem_of_getElem? (i := 117) rfl))) (by decide) (backOf (W := 0) (own_ens l Z a0 hw [] (b) (d) (kd) (N) (cs) ((cs.length + ds.length)) h0 n0 (O0.keep K0 (allS hp1 (allS hp2 all0))) (hp0) (hp1) (hp2) (by omega) (hNp) (hcap) (hNb)) hZ (hw _ (List.mem_of_getElem? (i := 117) rfl)) (hw _ (List.mem_of_getElem? (i := 72) rfl)) (by decide) (by decide)) (g := (mkF m 21 #[.val (.ref b), .val (.ref y), .val (.int (Int32.ofNat ds.length))] [(.int (Int32.ofNat (cs.length + ds.length))), (.ref b)])) rfl (by rw [hml]; rfl) (Steps.refl _) (a := b) (by rw [e2]; exact qa5) qb5 (argsL := [(.int (Int32.ofNat (cs.length + ds.length)))]) (rest := []) (lenOf own_pd0 rfl) rfl (by show 2 * 0 + _ ≤ _; exact Nat.le_of_eq rfl) (hb hby own_d_jdk_68_method_22_code_21) (fun _ _ => ⟨rfl, e2, (by decide : 0 + 1 ≤ _), (by decide : 0 + 200 ≤ _)⟩)
  dsimp only [Pt.U, Pt.locs, Pt.cells, Pt.slots] at X5 l5 y5 z5 st5 hQ5
  subst l5 y5 z5
  obtain ⟨d2_5, k2_5, N2_5, rfl, Nq5, Kq5, po5_0, po5_1, po5_2, po5_3⟩ := hQ5
  have N5 := Fr.app N1 Nq5
  have ne6 : b ≠ d2_5 := own_orne po5_0 (ne_exa hp0.1 hp0.2.2.2.2.1.1 (by decide)) hp0.1.lt
  have ne7 : y ≠ d2_5 := own_orne po5_0 hp5 hp3.1.lt
  have ne8 : ty ≠ d2_5 := own_orne po5_0 hp7 hp3.2.2.2.1.lt
  have g9 : n0 ≤ d2_5 := own_orle po5_0 hp2 (Nat.le_trans (own_le O0) K0.1)
  have K10 : Keep h0 T5.heap [b, d] := K0.trans Kq5 (allS (Or.inl (List.mem_of_getElem? (i := 0) rfl)) all0)
  obtain ⟨hm1, hm2, hm3⟩ := po5_3
  obtain ⟨T11, X11, e11, st11⟩ := getF X5 hx hZ hown (host := "") (Or.inl (hw _ (List.mem_of_getElem? (i := 111) rfl))) Via.refl rfl po5_2.2.2.2.1 (g := (mkF m 26 #[.val (.ref b), .val (.ref y), .val (.int (Int32.ofNat ds.length))] [(.ref b), (.ref b)])) rfl rfl (hb hby own_d_jdk_68_method_22_code_26)
  have f12 : own_Str Z T5.heap y ty ky ds := (hp3.keep Kq5 (ninS hp4 nin0) (ninS hp6 nin0))
  obtain ⟨cq13, qa13, qb13⟩ := po5_2.1.cell
  obtain ⟨_, _, ⟨T13, L13, k13, n13⟩, -, X13, ⟨Lc13, hQ13, l13, y13, z13⟩, st13⟩ := X11.privateBack hx (y := (⟨"java/lang/AbstractStringBuilder", "putStringAt", "(ILjava/lang/String;)V"⟩ : MethodName)) hown (mvT hZ (hw _ (List.mem_of_getElem? (i := 118) rfl))) (mvT hZ (hw _ (List.mem_of_getElem? (i := 119) rfl))) (own_selfSel (mvT hZ (hw _ (List.mem_of_getElem? (i := 121) rfl))) (Cond.privateMethod_at (mvP hZ (hw _ (List.mem_of_getElem? (i := 120) rfl)) (args := #[]))) (mvT hZ (hw _ (List.mem_of_getElem? (i := 119) rfl))) (by decide)) (Cond.privateMethod_at (mvP hZ (hw _ (List.mem_of_getElem? (i := 120) rfl)) (args := #[]))) (mvT hZ (hw _ (List.mem_of_getElem? (i := 122) rfl))) (by decide) (backOf (W := 0) (own_put l Z a0 hw [] (b) (d2_5) (k2_5) (N2_5) (cs) (y) (ty) (ky) (ds) (gCS) T5.heap n0 (O0.keep K10 (allS hp1 (allS hp2 all0))) (po5_2.1) (po5_2.2.1) (po5_2.2.2.1) (po5_2.2.2.2.2.1) (f12) (po5_1) (ne8) (hm1) (hp11) (hG1)) hZ (hw _ (List.mem_of_getElem? (i := 122) rfl)) (hw _ (List.mem_of_getElem? (i := 72) rfl)) (by decide) (by decide)) (g := (mkF m 30 #[.val (.ref b), .val (.ref y), .val (.int (Int32.ofNat ds.length))] [(.ref y), (.int (Int32.ofNat cs.length)), (.ref b)])) rfl (by rw [hml]; rfl) (Steps.refl _) (a := b) (by rw [e11]; exact qa13) qb13 (argsL := [(.int (Int32.ofNat cs.length)), (.ref y)]) (rest := []) (lenOf own_pd13 rfl) rfl (by show 2 * 0 + _ ≤ _; exact Nat.le_of_eq rfl) (hb hby own_d_jdk_68_method_22_code_30) (fun _ _ => ⟨rfl, e11, (by decide : 1 + 0 ≤ _), (by decide : 200 + 0 ≤ _)⟩)
  dsimp only [Pt.U, Pt.locs, Pt.cells, Pt.slots] at X13 l13 y13 z13 st13 hQ13
  subst l13 y13 z13
  obtain ⟨rfl, Nq13, Kq13, po13_0⟩ := hQ13
  have N13 := Fr.app N5 Nq13
  have K14 : Keep h0 T13.heap [b, d] := K10.trans Kq13 (allS ((po5_0).elim (fun q => Or.inl (q ▸ List.mem_of_getElem? (i := 1) rfl)) (fun q => Or.inr (Nat.le_trans K0.1 q))) all0)
  have f15 : Fld Z T13.heap b "java/lang/AbstractStringBuilder" "count" "I" (.int (Int32.ofNat cs.length)) := (po5_2.2.2.2.1.keep Kq13 (ninS (ne_exa po5_2.1 po5_2.2.2.2.2.1.1 (by decide)) nin0))
  obtain ⟨T16, X16, e16, st16⟩ := getF X13 hx hZ hown (host := "") (Or.inl (hw _ (List.mem_of_getElem? (i := 111) rfl))) Via.refl rfl f15 (g := (mkF m 35 #[.val (.ref b), .val (.ref y), .val (.int (Int32.ofNat ds.length))] [(.ref b), (.ref b)])) rfl rfl (hb hby own_d_jdk_68_method_22_code_35)
  have r17 : GoTo p.tables e below s₁ (own_F_own_aappS m b y) T16 (mkF m 40 #[.val (.ref b), .val (.ref y), .val (.int (Int32.ofNat ds.length))] [(.int ((Int32.ofNat cs.length) + (Int32.ofNat ds.length))), (.ref b)]) := fun tt_ kk_ => r4 tt_ (by
      show Steps p.tables e below (T2.setTop (mkF m 21 #[.val (.ref b), .val (.ref y), .val (.int (Int32.ofNat ds.length))] [(.int (Int32.ofNat (cs.length + ds.length))), (.ref b)])) _
      refine st5.trans ?_
      show Steps p.tables e below (T5.setTop (mkF m 24 #[.val (.ref b), .val (.ref y), .val (.int (Int32.ofNat ds.length))] [])) _
      refine XS.aloadN X5.here hx rfl (hb hby own_d_jdk_68_method_22_code_24) rfl rfl ?_
      show Steps p.tables e below (T5.setTop (mkF m 25 #[.val (.ref b), .val (.ref y), .val (.int (Int32.ofNat ds.length))] [(.ref b)])) _
      refine XS.aloadN X5.here hx rfl (hb hby own_d_jdk_68_method_22_code_25) rfl rfl ?_
      show Steps p.tables e below (T5.setTop (mkF m 26 #[.val (.ref b), .val (.ref y), .val (.int (Int32.ofNat ds.length))] [(.ref b), (.ref b)])) _
      refine st11 _ ?_
      show Steps p.tables e below (T11.setTop (mkF m 29 #[.val (.ref b), .val (.ref y), .val (.int (Int32.ofNat ds.length))] [(.int (Int32.ofNat cs.length)), (.ref b)])) _
      refine XS.aloadN X11.here hx rfl (hb hby own_d_jdk_68_method_22_code_29) rfl rfl ?_
      show Steps p.tables e below (T11.setTop (mkF m 30 #[.val (.ref b), .val (.ref y), .val (.int (Int32.ofNat ds.length))] [(.ref y), (.int (Int32.ofNat cs.length)), (.ref b)])) _
      refine st13.trans ?_
      show Steps p.tables e below (T13.setTop (mkF m 33 #[.val (.ref b), .val (.ref y), .val (.int (Int32.ofNat ds.length))] [])) _
      refine XS.aloadN X13.here hx rfl (hb hby own_d_jdk_68_method_22_code_33) rfl rfl ?_
      show Steps p.tables e below (T13.setTop (mkF m 34 #[.val (.ref b), .val (.ref y), .val (.int (Int32.ofNat ds.length))] [(.ref b)])) _
      refine XS.dup X13.here hx rfl (hb hby own_d_jdk_68_method_22_code_34) rfl rfl ?_
      show Steps p.tables e below (T13.setTop (mkF m 35 #[.val (.ref b), .val (.ref y), .val (.int (Int32.ofNat ds.length))] [(.ref b), (.ref b)])) _
      refine st16 _ ?_
      show Steps p.tables e below (T16.setTop (mkF m 38 #[.val (.ref b), .val (.ref y), .val (.int (Int32.ofNat ds.length))] [(.int (Int32.ofNat cs.length)), (.ref b)])) _
      refine XS.iloadN X16.here hx rfl (hb hby own_d_jdk_68_method_22_code_38) rfl ?_
      show Steps p.tables e below (T16.setTop (mkF m 39 #[.val (.ref b), .val (.ref y), .val (.int (Int32.ofNat ds.length))] [(.int (Int32.ofNat ds.length)), (.int (Int32.ofNat cs.length)), (.ref b)])) _
      refine XS.iadd X16.here hx rfl (hb hby own_d_jdk_68_method_22_code_39) rfl ?_
      show Steps p.tables e below (T16.setTop (mkF m 40 #[.val (.ref b), .val (.ref y), .val (.int (Int32.ofNat ds.length))] [(.int ((Int32.ofNat cs.length) + (Int32.ofNat ds.length))), (.ref b)])) _
      exact kk_)
  have r18 : GoTo p.tables e below s₁ (own_F_own_aappS m b y) T16 (mkF m 40 #[.val (.ref b), .val (.ref y), .val (.int (Int32.ofNat ds.length))] [(.int (Int32.ofNat (cs ++ ds).length)), (.ref b)]) := Eq.mp (congrArg (fun zz_ => GoTo p.tables e below s₁ (own_F_own_aappS m b y) T16 (mkF m 40 #[.val (.ref b), .val (.ref y), .val (.int (Int32.ofNat ds.length))] [(.int zz_), (.ref b)])) (show ((Int32.ofNat cs.length) + (Int32.ofNat ds.length)) = (Int32.ofNat (cs ++ ds).length) from (by rw [List.length_append]; exact own_addN))) r17
  have f19 : Exa Z T13.heap b "java/lang/StringBuilder" := (po5_2.1.keep Kq13)
  obtain ⟨T20, h20, X20, e20, W20, st20⟩ := putF X16 hx hZ hown (host := "") (Or.inl (hw _ (List.mem_of_getElem? (i := 111) rfl))) Via.refl e16 f15 f19 (Or.inl (hw _ (List.mem_of_getElem? (i := 112) rfl))) (hw _ (List.mem_of_getElem? (i := 63) rfl)) (ty := .int) (by decide) rfl rfl (g := (mkF m 40 #[.val (.ref b), .val (.ref y), .val (.int (Int32.ofNat ds.length))] [(.int (Int32.ofNat (cs ++ ds).length)), (.ref b)])) rfl rfl (hb hby own_d_jdk_68_method_22_code_40)
  have K21 : Keep h0 h20 [b, d] := K14.wr W20 (Or.inl (List.mem_of_getElem? (i := 0) rfl))
  have Fw20 : Fld Z h20 b "java/lang/AbstractStringBuilder" "count" "I" (.int (Int32.ofNat (cs ++ ds).length)) := f15.same W20
  have N20 := Fr.snoc X20 N13 hp1
  have f22 : own_By Z h20 d2_5 k2_5 N2_5 (cs ++ ds) := (po13_0.other W20 (Ne.symm (ne_exa po5_2.1 po5_2.2.2.2.2.1.1 (by decide))))
  have f23 : Exa Z h20 b "java/lang/StringBuilder" := (f19.wr W20)
  have f24 : Fld Z h20 b "java/lang/AbstractStringBuilder" "value" "[B" (.ref d2_5) := ((po5_2.2.1.keep Kq13 (ninS (ne_exa po5_2.1 po5_2.2.2.2.2.1.1 (by decide)) nin0)).other W20 (Or.inr (Jvm.RoadKit.slot_ne (Or.inl (hw _ (List.mem_of_getElem? (i := 77) rfl))) (Or.inl (hw _ (List.mem_of_getElem? (i := 112) rfl))) (by decide) (t := (.array .byte)) (t' := .int) (by decide) (by decide))))
  have f25 : Fld Z h20 b "java/lang/AbstractStringBuilder" "coder" "B" (.int (0 : Int32)) := ((po5_2.2.2.1.keep Kq13 (ninS (ne_exa po5_2.1 po5_2.2.2.2.2.1.1 (by decide)) nin0)).other W20 (Or.inr (Jvm.RoadKit.slot_ne (Or.inl (hw _ (List.mem_of_getElem? (i := 79) rfl))) (Or.inl (hw _ (List.mem_of_getElem? (i := 112) rfl))) (by decide) (t := .byte) (t' := .int) (by decide) (by decide))))
  obtain ⟨fs, hr, hrun, hended, hW, hsame⟩ := X20.leave (v := some (.ref b)) (fun h => by rw [Bd.returns] at h; cases h)
  refine ⟨_, _, r18 _ ?_, hrun, hended, _, _, rfl, ?_, ⟨_, rfl⟩, hW, hsame.mono (by decide) (by decide)⟩
  · show Steps p.tables e below (T16.setTop (mkF m 40 #[.val (.ref b), .val (.ref y), .val (.int (Int32.ofNat ds.length))] [(.int (Int32.ofNat (cs ++ ds).length)), (.ref b)])) _
    refine st20 _ ?_
    show Steps p.tables e below (T20.setTop (mkF m 43 #[.val (.ref b), .val (.ref y), .val (.int (Int32.ofNat ds.length))] [])) _
    refine XS.aloadN X20.here hx rfl (hb hby own_d_jdk_68_method_22_code_43) rfl rfl ?_
    show Steps p.tables e below (T20.setTop (mkF m 44 #[.val (.ref b), .val (.ref y), .val (.int (Int32.ofNat ds.length))] [(.ref b)])) _
    exact retOut X20 hx (t := (.object "java/lang/AbstractStringBuilder")) Bd.returns rfl (Or.inr (Or.inr (Or.inr (Or.inr ⟨rfl, rfl, rfl⟩)))) (hb hby own_d_jdk_68_method_22_code_44) hr
  · show Q_own_aappS Z b d kd N cs y ty ky ds gCS h0 n0 _ T20.heap _
    rw [e20]
    exact ⟨d2_5, k2_5, N2_5, rfl, N20, K21, (po5_0.imp id (fun q => Nat.le_trans K0.1 q)), po5_1, ⟨f23, f24, f25, Fw20, f22, (own_rngApp hp0.2.2.2.2.2 hp3.2.2.2.2.1)⟩, ⟨hm2, hm3⟩⟩
theorem own_pn_own_appS : plainName "java/lang/StringBuilder" = true := by first | (simp [plainName, overriddenIn]; done) | decide +kernel
theorem own_ef_own_appS (m : MethodId) (b : Addr) (y : Addr) : entryFrame m #[(.ref b), (.ref y)] 2 = mkF m 0 #[.val (.ref b), .val (.ref y)] [] := by first | (simp [entryFrame, mkF, argsToLocals, own_cI, own_cJ, own_cR, own_cN]; done) | rfl
abbrev own_F_own_appS (m : MethodId) (b : Addr) (y : Addr) : JFrame := entryFrame m #[(.ref b), (.ref y)] 2
def Q_own_appS (Z : State) (b : Addr) (d : Addr) (kd : ClassId) (N : Nat) (cs : List Int32) (y : Addr) (ty : Addr) (ky : ClassId) (ds : List Int32) (gCS : Int32) (h0 : Heap) (n0 : Nat) (v : Option Value) (h : Heap) (L : List Loc) : Prop := ∃ (d2 : Addr), ∃ (k2 : ClassId), ∃ (N2 : Nat), v = some (.ref b) ∧ Fr n0 L ∧ Keep h0 h [b, d] ∧ (d2 = d ∨ h0.size ≤ d2) ∧ (n0 ≤ d2) ∧ (own_SB Z h b d2 k2 N2 (cs ++ ds)) ∧ (N ≤ N2 ∧ (N2 = N ∨ N2 ≤ 200))
set_option maxRecDepth 65536 in
set_option maxHeartbeats 40000000 in
theorem own_appS (l : Launch) (Z : State) (a0 : Array Value) (hw : ∀ d ∈ tables_1, d.before a0 Z = true) (ws : List Jvm.Cond) (b : Addr) (d : Addr) (kd : ClassId) (N : Nat) (cs : List Int32) (y : Addr) (ty : Addr) (ky : ClassId) (ds : List Int32) (gCS : Int32) (h0 : Heap) (n0 : Nat) (O0 : Old Z n0 h0) (hp0 : own_SB Z h0 b d kd N cs) (hp1 : n0 ≤ b) (hp2 : n0 ≤ d) (hp3 : own_Str Z h0 y ty ky ds) (hp4 : y ≠ b) (hp5 : y ≠ d) (hp6 : ty ≠ b) (hp7 : ty ≠ d) (hNp : 0 < N) (hcap : N < cs.length + ds.length → N + max (cs.length + ds.length - N) (N + 2) ≤ 200) (hNb : N ≤ 100000) (hp11 : Sta Z Z.heap "java/lang/String" "COMPACT_STRINGS" "Z" (.int gCS)) (hG1 : ¬ gCS = (0 : Int32)) :
    MetFree l (⟨"java/lang/StringBuilder", "append", "(Ljava/lang/String;)Ljava/lang/StringBuilder;"⟩ : MethodName) (head1 (Jvm.Cond.code (⟨"java/lang/StringBuilder", "append", "(Ljava/lang/String;)Ljava/lang/StringBuilder;"⟩ : MethodName) jdk_67_method_7_code 2 (some (.object "java/lang/StringBuilder")) :: ws) ({ frames := 5, cells := 1, slots := 200, locals := 76 } : Room)) (fun aa_ U_ => aa_ = #[(.ref b), (.ref y)] ∧ Z.Warmed39 U_.vm ∧ U_.heap = h0) (fun _ _ _ _ _ => True) (fun _ U_ o_ V_ => ∃ v_ L_, o_ = .returned v_ ∧ Q_own_appS Z b d kd N cs y ty ky ds gCS h0 n0 v_ V_.heap L_ ∧ FrameEnd U_ o_ V_ L_ ({ frames := 5, cells := 1, slots := 200, locals := 76 } : Room).cells ({ frames := 5, cells := 1, slots := 200, locals := 76 } : Room).slots) := by
  refine MetFree.of_bodySF (plainFor_of_name own_pn_own_appS) hisR ?_
  intro p e s m args below meth c s₁ Bd hml0 hP hK
  obtain ⟨rfl, hZ, hh⟩ := hP
  have hx := Bd.exec
  have hby := Bd.bytes
  have hml : c.maxLocals = 2 := hml0
  have hown : s.vm.findClass "java/lang/StringBuilder" = some m.cls := findClass_of_methodNamed Bd.named
  have hnm := (name_of_methodNamed Bd.named Bd.method).1
  have X0 : Stand p l e ({ frames := 5, cells := 1, slots := 200, locals := 76 } : Room) s m #[(.ref b), (.ref y)] below meth c s₁ [] 0 0 := Stand.of_body Bd
  have e0 : s₁.heap = h0 := by rw [← hh, Bd.state]; rfl
  have N0 := Fr.nil n0
  have K0 : Keep h0 h0 [b, d] := Keep.refl _ _
  have r0 : GoTo p.tables e below s₁ (own_F_own_appS m b y) s₁ (mkF m 0 #[.val (.ref b), .val (.ref y)] []) := fun tt_ kk_ => castTop (own_ef_own_appS m b y) kk_
  obtain ⟨_, _, ⟨T1, L1, k1, n1⟩, -, X1, ⟨Lc1, hQ1, l1, y1, z1⟩, st1⟩ := superBack X0 hx hZ (y := (⟨"java/lang/AbstractStringBuilder", "append", "(Ljava/lang/String;)Ljava/lang/AbstractStringBuilder;"⟩ : MethodName)) hown (hw _ (List.mem_of_getElem? (i := 105) rfl)) (own_sameSelf (y := (⟨"java/lang/AbstractStringBuilder", "append", "(Ljava/lang/String;)Ljava/lang/AbstractStringBuilder;"⟩ : MethodName)) (hw _ (List.mem_of_getElem? (i := 116) rfl)) rfl (hw _ (List.mem_of_getElem? (i := 106) rfl)) (by decide)) (hw _ (List.mem_of_getElem? (i := 106) rfl)) (hw _ (List.mem_of_getElem? (i := 107) rfl)) (by decide) (backOf (W := 0) (own_aappS l Z a0 hw [] (b) (d) (kd) (N) (cs) (y) (ty) (ky) (ds) (gCS) h0 n0 (O0.keep K0 (allS hp1 (allS hp2 all0))) (hp0) (hp1) (hp2) (hp3) (hp4) (hp5) (hp6) (hp7) (hNp) (hcap) (hNb) (hp11) (hG1)) hZ (hw _ (List.mem_of_getElem? (i := 109) rfl)) (hw _ (List.mem_of_getElem? (i := 72) rfl)) (by decide) (by decide)) e0 (Ins.self hp0.1) (g := (mkF m 2 #[.val (.ref b), .val (.ref y)] [(.ref y), (.ref b)])) rfl (by rw [hml]; rfl) (hw _ (List.mem_of_getElem? (i := 109) rfl)) (argsL := [(.ref y)]) (rest := []) (lenOf own_pd14 rfl) rfl (by show 2 * 0 + _ ≤ _; exact Nat.le_of_eq rfl) (hb hby own_d_jdk_67_method_7_code_2) (fun _ _ => ⟨rfl, e0, (by decide : 0 + 1 ≤ _), (by decide : 0 + 200 ≤ _)⟩)
  dsimp only [Pt.U, Pt.locs, Pt.cells, Pt.slots] at X1 l1 y1 z1 st1 hQ1
  subst l1 y1 z1
  obtain ⟨d2_1, k2_1, N2_1, rfl, Nq1, Kq1, po1_0, po1_1, po1_2, po1_3⟩ := hQ1
  have N1 := Fr.app N0 Nq1
  have ne2 : y ≠ d2_1 := own_orne po1_0 hp5 hp3.1.lt
  have ne3 : ty ≠ d2_1 := own_orne po1_0 hp7 hp3.2.2.2.1.lt
  have g4 : n0 ≤ d2_1 := own_orle po1_0 hp2 (Nat.le_trans (own_le O0) K0.1)
  have K5 : Keep h0 T1.heap [b, d] := K0.trans Kq1 (allS (Or.inl (List.mem_of_getElem? (i := 0) rfl)) (allS (Or.inl (List.mem_of_getElem? (i := 1) rfl)) all0))
  obtain ⟨fs, hr, hrun, hended, hW, hsame⟩ := X1.leave (v := some (.ref b)) (fun h => by rw [Bd.returns] at h; cases h)
  refine ⟨_, _, r0 _ ?_, hrun, hended, _, _, rfl, ?_, ⟨_, rfl⟩, hW, hsame.mono (by decide) (by decide)⟩
  · show Steps p.tables e below (s₁.setTop (mkF m 0 #[.val (.ref b), .val (.ref y)] [])) _
    refine XS.aloadN X0.here hx rfl (hb hby own_d_jdk_67_method_7_code_0) rfl rfl ?_
    show Steps p.tables e below (s₁.setTop (mkF m 1 #[.val (.ref b), .val (.ref y)] [(.ref b)])) _
    refine XS.aloadN X0.here hx rfl (hb hby own_d_jdk_67_method_7_code_1) rfl rfl ?_
    show Steps p.tables e below (s₁.setTop (mkF m 2 #[.val (.ref b), .val (.ref y)] [(.ref y), (.ref b)])) _
    refine st1.trans ?_
    show Steps p.tables e below (T1.setTop (mkF m 5 #[.val (.ref b), .val (.ref y)] [(.ref b)])) _
    refine XS.pop X1.here hx rfl (hb hby own_d_jdk_67_method_7_code_5) rfl rfl ?_
    show Steps p.tables e below (T1.setTop (mkF m 6 #[.val (.ref b), .val (.ref y)] [])) _
    refine XS.aloadN X1.here hx rfl (hb hby own_d_jdk_67_method_7_code_6) rfl rfl ?_
    show Steps p.tables e below (T1.setTop (mkF m 7 #[.val (.ref b), .val (.ref y)] [(.ref b)])) _
    exact retOut X1 hx (t := (.object "java/lang/StringBuilder")) Bd.returns rfl (Or.inr (Or.inr (Or.inr (Or.inr ⟨rfl, rfl, rfl⟩)))) (hb hby own_d_jdk_67_method_7_code_7) hr
  · show Q_own_appS Z b d kd N cs y ty ky ds gCS h0 n0 _ T1.heap _
    exact ⟨d2_1, k2_1, N2_1, rfl, N1, K5, (po1_0.imp id (fun q => Nat.le_trans K0.1 q)), po1_1, po1_2, po1_3⟩
theorem own_pn_own_chk : plainName "java/util/Arrays" = true := by first | (simp [plainName, overriddenIn]; done) | decide +kernel
theorem own_ef_own_chk (m : MethodId) (x : Nat) : entryFrame m #[(.int (0 : Int32)), (.int (Int32.ofNat x))] 2 = mkF m 0 #[.val (.int (0 : Int32)), .val (.int (Int32.ofNat x))] [] := by first | (simp [entryFrame, mkF, argsToLocals, own_cI, own_cJ, own_cR, own_cN]; done) | rfl
abbrev own_F_own_chk (m : MethodId) (x : Nat) : JFrame := entryFrame m #[(.int (0 : Int32)), (.int (Int32.ofNat x))] 2
def Q_own_chk (Z : State) (x : Nat) (h0 : Heap) (n0 : Nat) (v : Option Value) (h : Heap) (L : List Loc) : Prop := v = none ∧ Fr n0 L ∧ h = h0
set_option maxRecDepth 65536 in
set_option maxHeartbeats 40000000 in
theorem own_chk (l : Launch) (Z : State) (a0 : Array Value) (hw : ∀ d ∈ tables_1, d.before a0 Z = true) (ws : List Jvm.Cond) (x : Nat) (h0 : Heap) (n0 : Nat) (O0 : Old Z n0 h0) (hxs : x ≤ 1000000) :
    MetFree l (⟨"java/util/Arrays", "checkLength", "(II)V"⟩ : MethodName) (head1 (Jvm.Cond.code (⟨"java/util/Arrays", "checkLength", "(II)V"⟩ : MethodName) jdk_65_method_131_code 2 none :: ws) ({ frames := 0, cells := 0, slots := 0, locals := 0 } : Room)) (fun aa_ U_ => aa_ = #[(.int (0 : Int32)), (.int (Int32.ofNat x))] ∧ Z.Warmed39 U_.vm ∧ U_.heap = h0) (fun _ _ _ _ _ => True) (fun _ U_ o_ V_ => ∃ v_ L_, o_ = .returned v_ ∧ Q_own_chk Z x h0 n0 v_ V_.heap L_ ∧ FrameEnd U_ o_ V_ L_ ({ frames := 0, cells := 0, slots := 0, locals := 0 } : Room).cells ({ frames := 0, cells := 0, slots := 0, locals := 0 } : Room).slots) := by
  refine MetFree.of_bodySF (plainFor_of_name own_pn_own_chk) hisR ?_
  intro p e s m args below meth c s₁ Bd hml0 hP hK
  obtain ⟨rfl, hZ, hh⟩ := hP
  have hx := Bd.exec
  have hby := Bd.bytes
  have hml : c.maxLocals = 2 := hml0
  have hown : s.vm.findClass "java/util/Arrays" = some m.cls := findClass_of_methodNamed Bd.named
  have hnm := (name_of_methodNamed Bd.named Bd.method).1
  have X0 : Stand p l e ({ frames := 0, cells := 0, slots := 0, locals := 0 } : Room) s m #[(.int (0 : Int32)), (.int (Int32.ofNat x))] below meth c s₁ [] 0 0 := Stand.of_body Bd
  have e0 : s₁.heap = h0 := by rw [← hh, Bd.state]; rfl
  have N0 := Fr.nil n0
  have K0 : Keep h0 h0 [] := Keep.refl _ _
  have r0 : GoTo p.tables e below s₁ (own_F_own_chk m x) s₁ (mkF m 0 #[.val (.int (0 : Int32)), .val (.int (Int32.ofNat x))] []) := fun tt_ kk_ => castTop (own_ef_own_chk m x) kk_
  obtain ⟨fs, hr, hrun, hended, hW, hsame⟩ := X0.leave (v := none) (fun _ => rfl)
  refine ⟨_, _, r0 _ ?_, hrun, hended, _, _, rfl, ?_, ⟨_, rfl⟩, hW, hsame.mono (by decide) (by decide)⟩
  · show Steps p.tables e below (s₁.setTop (mkF m 0 #[.val (.int (0 : Int32)), .val (.int (Int32.ofNat x))] [])) _
    refine XS.iloadN X0.here hx rfl (hb hby own_d_jdk_65_method_131_code_0) rfl ?_
    show Steps p.tables e below (s₁.setTop (mkF m 1 #[.val (.int (0 : Int32)), .val (.int (Int32.ofNat x))] [(.int (Int32.ofNat x))])) _
    refine XS.iloadN X0.here hx rfl (hb hby own_d_jdk_65_method_131_code_1) rfl ?_
    show Steps p.tables e below (s₁.setTop (mkF m 2 #[.val (.int (0 : Int32)), .val (.int (Int32.ofNat x))] [(.int (0 : Int32)), (.int (Int32.ofNat x))])) _
    refine XS.icmpYes X0.here hx rfl (pc0 := 2) (pc' := 37) rfl (hb hby own_d_jdk_65_method_131_code_2) rfl (flt (own_negN hxs)).2.1 (by decide) (by decide) ?_
    show Steps p.tables e below (s₁.setTop (mkF m 37 #[.val (.int (0 : Int32)), .val (.int (Int32.ofNat x))] [])) _
    exact X0.returnOut hx Bd.returns (hb hby own_d_jdk_65_method_131_code_37) hr
  · show Q_own_chk Z x h0 n0 _ s₁.heap _
    rw [e0]
    exact ⟨rfl, N0, rfl⟩
theorem own_pn_own_corb : plainName "java/util/Arrays" = true := by first | (simp [plainName, overriddenIn]; done) | decide +kernel
theorem own_ef_own_corb (m : MethodId) (d : Addr) (cs : List Int32) : entryFrame m #[(.ref d), (.int (0 : Int32)), (.int (Int32.ofNat cs.length))] 5 = mkF m 0 #[.val (.ref d), .val (.int (0 : Int32)), .val (.int (Int32.ofNat cs.length)), .unset, .unset] [] := by first | (simp [entryFrame, mkF, argsToLocals, own_cI, own_cJ, own_cR, own_cN]; done) | rfl
abbrev own_F_own_corb (m : MethodId) (d : Addr) (cs : List Int32) : JFrame := entryFrame m #[(.ref d), (.int (0 : Int32)), (.int (Int32.ofNat cs.length))] 5
def Q_own_corb (Z : State) (d : Addr) (kd : ClassId) (N : Nat) (cs : List Int32) (h0 : Heap) (n0 : Nat) (v : Option Value) (h : Heap) (L : List Loc) : Prop := ∃ (b2 : Addr), ∃ (k2 : ClassId), v = some (.ref b2) ∧ Fr n0 L ∧ Keep h0 h [] ∧ (h0.size ≤ b2) ∧ (n0 ≤ b2) ∧ (Arv Z h b2 k2 .byte (Int32.ofNat cs.length) ((cs.map fun c => c.toInt8.toInt32).map Value.int) (.int (0 : Int32))) ∧ (Exa Z h b2 "[B")
set_option maxRecDepth 65536 in
set_option maxHeartbeats 40000000 in
theorem own_corb (l : Launch) (Z : State) (a0 : Array Value) (hw : ∀ d ∈ tables_1, d.before a0 Z = true) (ws : List Jvm.Cond) (d : Addr) (kd : ClassId) (N : Nat) (cs : List Int32) (h0 : Heap) (n0 : Nat) (O0 : Old Z n0 h0) (hp0 : own_By Z h0 d kd N cs) (hcc : cs.length ≤ 200) :
    MetFree l (⟨"java/util/Arrays", "copyOfRangeByte", "([BII)[B"⟩ : MethodName) (head1 (Jvm.Cond.code (⟨"java/util/Arrays", "copyOfRangeByte", "([BII)[B"⟩ : MethodName) jdk_65_method_133_code 5 (some (.array .byte)) :: ws) ({ frames := 1, cells := 1, slots := 200, locals := 18 } : Room)) (fun aa_ U_ => aa_ = #[(.ref d), (.int (0 : Int32)), (.int (Int32.ofNat cs.length))] ∧ Z.Warmed39 U_.vm ∧ U_.heap = h0) (fun _ _ _ _ _ => True) (fun _ U_ o_ V_ => ∃ v_ L_, o_ = .returned v_ ∧ Q_own_corb Z d kd N cs h0 n0 v_ V_.heap L_ ∧ FrameEnd U_ o_ V_ L_ ({ frames := 1, cells := 1, slots := 200, locals := 18 } : Room).cells ({ frames := 1, cells := 1, slots := 200, locals := 18 } : Room).slots) := by
  refine MetFree.of_bodySF (plainFor_of_name own_pn_own_corb) hisR ?_
  intro p e s m args below meth c s₁ Bd hml0 hP hK
  obtain ⟨rfl, hZ, hh⟩ := hP
  have hx := Bd.exec
  have hby := Bd.bytes
  have hml : c.maxLocals = 5 := hml0
  have hown : s.vm.findClass "java/util/Arrays" = some m.cls := findClass_of_methodNamed Bd.named
  have hnm := (name_of_methodNamed Bd.named Bd.method).1
  have X0 : Stand p l e ({ frames := 1, cells := 1, slots := 200, locals := 18 } : Room) s m #[(.ref d), (.int (0 : Int32)), (.int (Int32.ofNat cs.length))] below meth c s₁ [] 0 0 := Stand.of_body Bd
  have e0 : s₁.heap = h0 := by rw [← hh, Bd.state]; rfl
  have N0 := Fr.nil n0
  have K0 : Keep h0 h0 [] := Keep.refl _ _
  have r0 : GoTo p.tables e below s₁ (own_F_own_corb m d cs) s₁ (mkF m 0 #[.val (.ref d), .val (.int (0 : Int32)), .val (.int (Int32.ofNat cs.length)), .unset, .unset] []) := fun tt_ kk_ => castTop (own_ef_own_corb m d cs) kk_
  obtain ⟨vs1, hvl1, hva1, hvc1⟩ := own_By.arv hp0
  have hN6 := hp0.2.2.1
  have hcN := hp0.2.1
  have hc6 : cs.length ≤ 1000000 := by omega
  obtain ⟨_, _, ⟨T2, L2, k2, n2⟩, -, X2, ⟨Lc2, hQ2, l2, y2, z2⟩, st2⟩ := Jvm.LawKit.callS X0 hx (y := (⟨"java/util/Arrays", "checkLength", "(II)V"⟩ : MethodName)) hown (mvT hZ (hw _ (List.mem_of_getElem? (i := 175) rfl))) (mvT hZ (hw _ (List.mem_of_getElem? (i := 176) rfl))) (mvT hZ (hw _ (List.mem_of_getElem? (i := 170) rfl))) (mvT hZ (hw _ (List.mem_of_getElem? (i := 177) rfl))) (by decide) (backOf (W := 0) (own_chk l Z a0 hw [] (cs.length) h0 n0 (O0.keep K0 all0) (hc6)) hZ (hw _ (List.mem_of_getElem? (i := 177) rfl)) (hw _ (List.mem_of_getElem? (i := 170) rfl)) (by decide) (by decide)) (g := (mkF m 2 #[.val (.ref d), .val (.int (0 : Int32)), .val (.int (Int32.ofNat cs.length)), .unset, .unset] [(.int (Int32.ofNat cs.length)), (.int (0 : Int32))])) rfl (by rw [hml]; rfl) (argsL := [(.int (0 : Int32)), (.int (Int32.ofNat cs.length))]) (rest := []) (lenOf own_pd7 rfl) rfl (by show 2 * 0 + _ ≤ _; exact Nat.le_of_eq rfl) (hb hby own_d_jdk_65_method_133_code_2) (fun _ _ => ⟨rfl, e0, (by decide : 0 + 0 ≤ _), (by decide : 0 + 0 ≤ _)⟩)
  dsimp only [Pt.U, Pt.locs, Pt.cells, Pt.slots] at X2 l2 y2 z2 st2 hQ2
  subst l2 y2 z2
  obtain ⟨rfl, Nq2, hh2⟩ := hQ2
  have N2 := Fr.app N0 Nq2
  have r3 : GoTo p.tables e below s₁ (own_F_own_corb m d cs) T2 (mkF m 8 #[.val (.ref d), .val (.int (0 : Int32)), .val (.int (Int32.ofNat cs.length)), .unset, .unset] [(.int ((Int32.ofNat cs.length) - (0 : Int32)))]) := fun tt_ kk_ => r0 tt_ (by
      show Steps p.tables e below (s₁.setTop (mkF m 0 #[.val (.ref d), .val (.int (0 : Int32)), .val (.int (Int32.ofNat cs.length)), .unset, .unset] [])) _
      refine XS.iloadN X0.here hx rfl (hb hby own_d_jdk_65_method_133_code_0) rfl ?_
      show Steps p.tables e below (s₁.setTop (mkF m 1 #[.val (.ref d), .val (.int (0 : Int32)), .val (.int (Int32.ofNat cs.length)), .unset, .unset] [(.int (0 : Int32))])) _
      refine XS.iloadN X0.here hx rfl (hb hby own_d_jdk_65_method_133_code_1) rfl ?_
      show Steps p.tables e below (s₁.setTop (mkF m 2 #[.val (.ref d), .val (.int (0 : Int32)), .val (.int (Int32.ofNat cs.length)), .unset, .unset] [(.int (Int32.ofNat cs.length)), (.int (0 : Int32))])) _
      refine st2 _ ?_
      show Steps p.tables e below (T2.setTop (mkF m 5 #[.val (.ref d), .val (.int (0 : Int32)), .val (.int (Int32.ofNat cs.length)), .unset, .unset] [])) _
      refine XS.iloadN X2.here hx rfl (hb hby own_d_jdk_65_method_133_code_5) rfl ?_
      show Steps p.tables e below (T2.setTop (mkF m 6 #[.val (.ref d), .val (.int (0 : Int32)), .val (.int (Int32.ofNat cs.length)), .unset, .unset] [(.int (Int32.ofNat cs.length))])) _
      refine XS.iloadN X2.here hx rfl (hb hby own_d_jdk_65_method_133_code_6) rfl ?_
      show Steps p.tables e below (T2.setTop (mkF m 7 #[.val (.ref d), .val (.int (0 : Int32)), .val (.int (Int32.ofNat cs.length)), .unset, .unset] [(.int (0 : Int32)), (.int (Int32.ofNat cs.length))])) _
      refine XS.isub X2.here hx rfl (hb hby own_d_jdk_65_method_133_code_7) rfl ?_
      show Steps p.tables e below (T2.setTop (mkF m 8 #[.val (.ref d), .val (.int (0 : Int32)), .val (.int (Int32.ofNat cs.length)), .unset, .unset] [(.int ((Int32.ofNat cs.length) - (0 : Int32)))])) _
      exact kk_)
  have r4 : GoTo p.tables e below s₁ (own_F_own_corb m d cs) T2 (mkF m 8 #[.val (.ref d), .val (.int (0 : Int32)), .val (.int (Int32.ofNat cs.length)), .unset, .unset] [(.int (Int32.ofNat cs.length))]) := Eq.mp (congrArg (fun zz_ => GoTo p.tables e below s₁ (own_F_own_corb m d cs) T2 (mkF m 8 #[.val (.ref d), .val (.int (0 : Int32)), .val (.int (Int32.ofNat cs.length)), .unset, .unset] [(.int zz_)])) (show ((Int32.ofNat cs.length) - (0 : Int32)) = (Int32.ofNat cs.length) from (own_subN (a := cs.length) (b := 0) (Nat.zero_le _)))) r3
  obtain ⟨T5, h5, k5, X5, e5, E5, A5, Ex5, st5⟩ := newPE X2 hx hZ (hw _ (List.mem_of_getElem? (i := 42) rfl)) hh2 (g := (mkF m 10 #[.val (.ref d), .val (.int (0 : Int32)), .val (.int (Int32.ofNat cs.length)), .val (.int (Int32.ofNat cs.length)), .unset] [(.int (Int32.ofNat cs.length))])) rfl (hb hby own_d_jdk_65_method_133_code_10) rfl (own_negN hc6) (cap := 200) (by rw [own_clamp hc6]; exact hcc) (by decide) (by decide) (by decide) (ad := "[B") (by decide)
  obtain ⟨b5, gg5⟩ : ∃ z, z = h0.size := ⟨_, rfl⟩
  rw [← gg5] at A5 Ex5 st5
  have ne6 : d ≠ b5 := Nat.ne_of_lt (Nat.lt_of_lt_of_le hp0.lt (Nat.le_of_eq gg5.symm))
  have g7 : n0 ≤ b5 := Nat.le_trans (Nat.le_trans (own_le O0) K0.1) (Nat.le_of_eq gg5.symm)
  have b8 : h0.size ≤ b5 := Nat.le_trans K0.1 (Nat.le_of_eq gg5.symm)
  have K9 : Keep h0 h5 [] := K0.ext E5
  have V5 : Arv Z h5 b5 k5 .byte (Int32.ofNat cs.length) [] (.int (0 : Int32)) := Arv.new A5 (own_negN hc6)
  have Vp : Arv Z h5 b5 k5 .byte (Int32.ofNat cs.length) (List.replicate cs.length (Value.int 0)) (.int 0) := V5.pad (fun i => by rw [own_getD_rep]; simp)
  have f10 : Arv Z h5 d kd .byte (Int32.ofNat N) vs1 (.int (0 : Int32)) := (hva1.ext E5)
  obtain ⟨cl11, Ar11, q11, S11, NN11, H11, G11⟩ := id f10
  have r12 : GoTo p.tables e below s₁ (own_F_own_corb m d cs) T5 (mkF m 23 #[.val (.ref d), .val (.int (0 : Int32)), .val (.int (Int32.ofNat cs.length)), .val (.int (Int32.ofNat cs.length)), .val (.ref b5)] [(.int ((Int32.ofNat N) - (0 : Int32))), (.int (0 : Int32)), (.ref b5), (.int (0 : Int32)), (.ref d)]) := fun tt_ kk_ => r4 tt_ (by
      show Steps p.tables e below (T2.setTop (mkF m 8 #[.val (.ref d), .val (.int (0 : Int32)), .val (.int (Int32.ofNat cs.length)), .unset, .unset] [(.int (Int32.ofNat cs.length))])) _
      refine XS.istoreN X2.here hx rfl (hb hby own_d_jdk_65_method_133_code_8) rfl (l' := #[.val (.ref d), .val (.int (0 : Int32)), .val (.int (Int32.ofNat cs.length)), .val (.int (Int32.ofNat cs.length)), .unset]) rfl ?_
      show Steps p.tables e below (T2.setTop (mkF m 9 #[.val (.ref d), .val (.int (0 : Int32)), .val (.int (Int32.ofNat cs.length)), .val (.int (Int32.ofNat cs.length)), .unset] [])) _
      refine XS.iloadN X2.here hx rfl (hb hby own_d_jdk_65_method_133_code_9) rfl ?_
      show Steps p.tables e below (T2.setTop (mkF m 10 #[.val (.ref d), .val (.int (0 : Int32)), .val (.int (Int32.ofNat cs.length)), .val (.int (Int32.ofNat cs.length)), .unset] [(.int (Int32.ofNat cs.length))])) _
      refine st5 _ ?_
      show Steps p.tables e below (T5.setTop (mkF m 12 #[.val (.ref d), .val (.int (0 : Int32)), .val (.int (Int32.ofNat cs.length)), .val (.int (Int32.ofNat cs.length)), .unset] [(.ref b5)])) _
      refine XS.astore X5.here hx rfl (hb hby own_d_jdk_65_method_133_code_12) rfl rfl (l' := #[.val (.ref d), .val (.int (0 : Int32)), .val (.int (Int32.ofNat cs.length)), .val (.int (Int32.ofNat cs.length)), .val (.ref b5)]) rfl ?_
      show Steps p.tables e below (T5.setTop (mkF m 14 #[.val (.ref d), .val (.int (0 : Int32)), .val (.int (Int32.ofNat cs.length)), .val (.int (Int32.ofNat cs.length)), .val (.ref b5)] [])) _
      refine XS.aloadN X5.here hx rfl (hb hby own_d_jdk_65_method_133_code_14) rfl rfl ?_
      show Steps p.tables e below (T5.setTop (mkF m 15 #[.val (.ref d), .val (.int (0 : Int32)), .val (.int (Int32.ofNat cs.length)), .val (.int (Int32.ofNat cs.length)), .val (.ref b5)] [(.ref d)])) _
      refine XS.iloadN X5.here hx rfl (hb hby own_d_jdk_65_method_133_code_15) rfl ?_
      show Steps p.tables e below (T5.setTop (mkF m 16 #[.val (.ref d), .val (.int (0 : Int32)), .val (.int (Int32.ofNat cs.length)), .val (.int (Int32.ofNat cs.length)), .val (.ref b5)] [(.int (0 : Int32)), (.ref d)])) _
      refine XS.aload X5.here hx rfl (hb hby own_d_jdk_65_method_133_code_16) rfl rfl ?_
      show Steps p.tables e below (T5.setTop (mkF m 18 #[.val (.ref d), .val (.int (0 : Int32)), .val (.int (Int32.ofNat cs.length)), .val (.int (Int32.ofNat cs.length)), .val (.ref b5)] [(.ref b5), (.int (0 : Int32)), (.ref d)])) _
      refine XS.iconst X5.here hx rfl (hb hby own_d_jdk_65_method_133_code_18) ?_
      show Steps p.tables e below (T5.setTop (mkF m 19 #[.val (.ref d), .val (.int (0 : Int32)), .val (.int (Int32.ofNat cs.length)), .val (.int (Int32.ofNat cs.length)), .val (.ref b5)] [(.int (0 : Int32)), (.ref b5), (.int (0 : Int32)), (.ref d)])) _
      refine XS.aloadN X5.here hx rfl (hb hby own_d_jdk_65_method_133_code_19) rfl rfl ?_
      show Steps p.tables e below (T5.setTop (mkF m 20 #[.val (.ref d), .val (.int (0 : Int32)), .val (.int (Int32.ofNat cs.length)), .val (.int (Int32.ofNat cs.length)), .val (.ref b5)] [(.ref d), (.int (0 : Int32)), (.ref b5), (.int (0 : Int32)), (.ref d)])) _
      refine X5.arraylength hx (by rw [e5]; exact Ar11.1) (State.isArrayOf_alike hZ.alike Ar11.2.1) (g := (mkF m 20 #[.val (.ref d), .val (.int (0 : Int32)), .val (.int (Int32.ofNat cs.length)), .val (.int (Int32.ofNat cs.length)), .val (.ref b5)] [(.ref d), (.int (0 : Int32)), (.ref b5), (.int (0 : Int32)), (.ref d)])) rfl rfl (hb hby own_d_jdk_65_method_133_code_20) _ ?_
      rw [len_of S11 NN11]
      show Steps p.tables e below (T5.setTop (mkF m 21 #[.val (.ref d), .val (.int (0 : Int32)), .val (.int (Int32.ofNat cs.length)), .val (.int (Int32.ofNat cs.length)), .val (.ref b5)] [(.int (Int32.ofNat N)), (.int (0 : Int32)), (.ref b5), (.int (0 : Int32)), (.ref d)])) _
      refine XS.iloadN X5.here hx rfl (hb hby own_d_jdk_65_method_133_code_21) rfl ?_
      show Steps p.tables e below (T5.setTop (mkF m 22 #[.val (.ref d), .val (.int (0 : Int32)), .val (.int (Int32.ofNat cs.length)), .val (.int (Int32.ofNat cs.length)), .val (.ref b5)] [(.int (0 : Int32)), (.int (Int32.ofNat N)), (.int (0 : Int32)), (.ref b5), (.int (0 : Int32)), (.ref d)])) _
      refine XS.isub X5.here hx rfl (hb hby own_d_jdk_65_method_133_code_22) rfl ?_
      show Steps p.tables e below (T5.setTop (mkF m 23 #[.val (.ref d), .val (.int (0 : Int32)), .val (.int (Int32.ofNat cs.length)), .val (.int (Int32.ofNat cs.length)), .val (.ref b5)] [(.int ((Int32.ofNat N) - (0 : Int32))), (.int (0 : Int32)), (.ref b5), (.int (0 : Int32)), (.ref d)])) _
      exact kk_)
  have r13 : GoTo p.tables e below s₁ (own_F_own_corb m d cs) T5 (mkF m 23 #[.val (.ref d), .val (.int (0 : Int32)), .val (.int (Int32.ofNat cs.length)), .val (.int (Int32.ofNat cs.length)), .val (.ref b5)] [(.int (Int32.ofNat N)), (.int (0 : Int32)), (.ref b5), (.int (0 : Int32)), (.ref d)]) := Eq.mp (congrArg (fun zz_ => GoTo p.tables e below s₁ (own_F_own_corb m d cs) T5 (mkF m 23 #[.val (.ref d), .val (.int (0 : Int32)), .val (.int (Int32.ofNat cs.length)), .val (.int (Int32.ofNat cs.length)), .val (.ref b5)] [(.int zz_), (.int (0 : Int32)), (.ref b5), (.int (0 : Int32)), (.ref d)])) (show ((Int32.ofNat N) - (0 : Int32)) = (Int32.ofNat N) from (own_subN (a := N) (b := 0) (Nat.zero_le _)))) r12
  obtain ⟨_, _, ⟨T14, L14, k14, n14⟩, -, X14, ⟨Lc14, hQ14, l14, y14, z14⟩, st14⟩ := Jvm.LawKit.callS X5 hx (y := (⟨"java/lang/Math", "min", "(II)I"⟩ : MethodName)) hown (mvT hZ (hw _ (List.mem_of_getElem? (i := 178) rfl))) (mvT hZ (hw _ (List.mem_of_getElem? (i := 179) rfl))) (mvT hZ (hw _ (List.mem_of_getElem? (i := 26) rfl))) (mvT hZ (hw _ (List.mem_of_getElem? (i := 180) rfl))) (by decide) (backOf (W := 4) (own_minN l Z a0 hw [] (N) (cs.length) h5 n0 (O0.keep K9 all0) (hN6) (hc6)) hZ (hw _ (List.mem_of_getElem? (i := 180) rfl)) (hw _ (List.mem_of_getElem? (i := 26) rfl)) (by decide) (by decide)) (g := (mkF m 24 #[.val (.ref d), .val (.int (0 : Int32)), .val (.int (Int32.ofNat cs.length)), .val (.int (Int32.ofNat cs.length)), .val (.ref b5)] [(.int (Int32.ofNat cs.length)), (.int (Int32.ofNat N)), (.int (0 : Int32)), (.ref b5), (.int (0 : Int32)), (.ref d)])) rfl (by rw [hml]; rfl) (argsL := [(.int (Int32.ofNat N)), (.int (Int32.ofNat cs.length))]) (rest := [(.int (0 : Int32)), (.ref b5), (.int (0 : Int32)), (.ref d)]) (lenOf own_pd1 rfl) rfl (by show 2 * 0 + _ ≤ _; exact Nat.le_of_eq rfl) (hb hby own_d_jdk_65_method_133_code_24) (fun _ _ => ⟨rfl, e5, (by decide : 1 + 0 ≤ _), (by decide : 200 + 0 ≤ _)⟩)
  dsimp only [Pt.U, Pt.locs, Pt.cells, Pt.slots] at X14 l14 y14 z14 st14 hQ14
  subst l14 y14 z14
  obtain ⟨rfl, Nq14, hh14⟩ := hQ14
  have N14 := Fr.app N2 Nq14
  have r15 : GoTo p.tables e below s₁ (own_F_own_corb m d cs) T14 (mkF m 27 #[.val (.ref d), .val (.int (0 : Int32)), .val (.int (Int32.ofNat cs.length)), .val (.int (Int32.ofNat cs.length)), .val (.ref b5)] [(.int (Int32.ofNat (min N cs.length))), (.int (0 : Int32)), (.ref b5), (.int (0 : Int32)), (.ref d)]) := fun tt_ kk_ => r13 tt_ (by
      show Steps p.tables e below (T5.setTop (mkF m 23 #[.val (.ref d), .val (.int (0 : Int32)), .val (.int (Int32.ofNat cs.length)), .val (.int (Int32.ofNat cs.length)), .val (.ref b5)] [(.int (Int32.ofNat N)), (.int (0 : Int32)), (.ref b5), (.int (0 : Int32)), (.ref d)])) _
      refine XS.iloadN X5.here hx rfl (hb hby own_d_jdk_65_method_133_code_23) rfl ?_
      show Steps p.tables e below (T5.setTop (mkF m 24 #[.val (.ref d), .val (.int (0 : Int32)), .val (.int (Int32.ofNat cs.length)), .val (.int (Int32.ofNat cs.length)), .val (.ref b5)] [(.int (Int32.ofNat cs.length)), (.int (Int32.ofNat N)), (.int (0 : Int32)), (.ref b5), (.int (0 : Int32)), (.ref d)])) _
      refine st14 _ ?_
      show Steps p.tables e below (T14.setTop (mkF m 27 #[.val (.ref d), .val (.int (0 : Int32)), .val (.int (Int32.ofNat cs.length)), .val (.int (Int32.ofNat cs.length)), .val (.ref b5)] [(.int (Int32.ofNat (min N cs.length))), (.int (0 : Int32)), (.ref b5), (.int (0 : Int32)), (.ref d)])) _
      exact kk_)
  have r16 : GoTo p.tables e below s₁ (own_F_own_corb m d cs) T14 (mkF m 27 #[.val (.ref d), .val (.int (0 : Int32)), .val (.int (Int32.ofNat cs.length)), .val (.int (Int32.ofNat cs.length)), .val (.ref b5)] [(.int (Int32.ofNat cs.length)), (.int (0 : Int32)), (.ref b5), (.int (0 : Int32)), (.ref d)]) := Eq.mp (congrArg (fun zz_ => GoTo p.tables e below s₁ (own_F_own_corb m d cs) T14 (mkF m 27 #[.val (.ref d), .val (.int (0 : Int32)), .val (.int (Int32.ofNat cs.length)), .val (.int (Int32.ofNat cs.length)), .val (.ref b5)] [(.int zz_), (.int (0 : Int32)), (.ref b5), (.int (0 : Int32)), (.ref d)])) (show (Int32.ofNat (min N cs.length)) = (Int32.ofNat cs.length) from by rw [Nat.min_eq_right hcN])) r15
  obtain ⟨us17, hus17⟩ : ∃ us : List Value, us = (List.range cs.length).map fun i => (vs1).getD (0 + i) (.int 0) := ⟨_, rfl⟩
  obtain ⟨T17, h17, L17, X17, e17, N17, Kc17, V17, st17⟩ := cpA X14 hx hZ hown (hw _ (List.mem_of_getElem? (i := 181) rfl)) (hw _ (List.mem_of_getElem? (i := 137) rfl)) (hw _ (List.mem_of_getElem? (i := 135) rfl)) (hw _ (List.mem_of_getElem? (i := 136) rfl)) hh14 (us := us17) f10 Vp (Or.inl ⟨rfl, rfl⟩) (own_negN (by decide : (0 : Nat) ≤ 1000000)) (own_negN (by decide : (0 : Nat) ≤ 1000000)) (own_negN hc6) (by have q0 : (Int32.ofNat 0).toNatClampNeg = 0 := rfl; have q0' : (0 : Int32).toNatClampNeg = 0 := rfl; have q1 := own_clamp hc6; have q2 := own_clamp hN6; (try simp only [List.length_replicate]); omega) (by have q0 : (Int32.ofNat 0).toNatClampNeg = 0 := rfl; have q0' : (0 : Int32).toNatClampNeg = 0 := rfl; have q1 := own_clamp hc6; (try simp only [List.length_replicate]); omega) (by rw [own_clamp hc6, own_clamp (by decide : (0 : Nat) ≤ 1000000)]; exact hus17) (by have q0 : (Int32.ofNat 0).toNatClampNeg = 0 := rfl; have q0' : (0 : Int32).toNatClampNeg = 0 := rfl; have q1 := own_clamp hc6; (try simp only [List.length_replicate]); omega) N14 g7 (g := (mkF m 27 #[.val (.ref d), .val (.int (0 : Int32)), .val (.int (Int32.ofNat cs.length)), .val (.int (Int32.ofNat cs.length)), .val (.ref b5)] [(.int (Int32.ofNat cs.length)), (.int (0 : Int32)), (.ref b5), (.int (0 : Int32)), (.ref d)])) rfl (by rw [hml]; rfl) rfl (hb hby own_d_jdk_65_method_133_code_27) (by decide) (W := 0) (by show 2 * 0 + _ ≤ _; exact Nat.le_of_eq rfl) (by decide)
  rw [own_clamp (by decide : (0 : Nat) ≤ 1000000), own_clamp hc6] at V17
  have K18 : Keep h0 h17 [] := K9.trans Kc17 (allS (Or.inr b8) all0)
  have f19 : Exa Z h17 b5 "[B" := (Ex5.keep Kc17)
  obtain ⟨-, -, -, vq, hq1, hq2, hq3⟩ := own_By.cp f19 hc6 (Nat.le_refl _) (Nat.le_refl _) hus17 hvc1 V17
  obtain ⟨fs, hr, hrun, hended, hW, hsame⟩ := X17.leave (v := some (.ref b5)) (fun h => by rw [Bd.returns] at h; cases h)
  refine ⟨_, _, r16 _ ?_, hrun, hended, _, _, rfl, ?_, ⟨_, rfl⟩, hW, hsame.mono (by decide) (by decide)⟩
  · show Steps p.tables e below (T14.setTop (mkF m 27 #[.val (.ref d), .val (.int (0 : Int32)), .val (.int (Int32.ofNat cs.length)), .val (.int (Int32.ofNat cs.length)), .val (.ref b5)] [(.int (Int32.ofNat cs.length)), (.int (0 : Int32)), (.ref b5), (.int (0 : Int32)), (.ref d)])) _
    refine st17 _ ?_
    show Steps p.tables e below (T17.setTop (mkF m 30 #[.val (.ref d), .val (.int (0 : Int32)), .val (.int (Int32.ofNat cs.length)), .val (.int (Int32.ofNat cs.length)), .val (.ref b5)] [])) _
    refine XS.aload X17.here hx rfl (hb hby own_d_jdk_65_method_133_code_30) rfl rfl ?_
    show Steps p.tables e below (T17.setTop (mkF m 32 #[.val (.ref d), .val (.int (0 : Int32)), .val (.int (Int32.ofNat cs.length)), .val (.int (Int32.ofNat cs.length)), .val (.ref b5)] [(.ref b5)])) _
    exact retOut X17 hx (t := (.array .byte)) Bd.returns rfl (Or.inr (Or.inr (Or.inr (Or.inr ⟨rfl, rfl, rfl⟩)))) (hb hby own_d_jdk_65_method_133_code_32) hr
  · show Q_own_corb Z d kd N cs h0 n0 _ T17.heap _
    rw [e17]
    exact ⟨b5, k5, rfl, N17, K18, b8, g7, own_arvStr hq1 hq3 hq2, f19⟩
theorem own_pn_own_cor : plainName "java/util/Arrays" = true := by first | (simp [plainName, overriddenIn]; done) | decide +kernel
theorem own_ef_own_cor (m : MethodId) (d : Addr) (cs : List Int32) : entryFrame m #[(.ref d), (.int (0 : Int32)), (.int (Int32.ofNat cs.length))] 3 = mkF m 0 #[.val (.ref d), .val (.int (0 : Int32)), .val (.int (Int32.ofNat cs.length))] [] := by first | (simp [entryFrame, mkF, argsToLocals, own_cI, own_cJ, own_cR, own_cN]; done) | rfl
abbrev own_F_own_cor (m : MethodId) (d : Addr) (cs : List Int32) : JFrame := entryFrame m #[(.ref d), (.int (0 : Int32)), (.int (Int32.ofNat cs.length))] 3
def Q_own_cor (Z : State) (d : Addr) (kd : ClassId) (N : Nat) (cs : List Int32) (h0 : Heap) (n0 : Nat) (v : Option Value) (h : Heap) (L : List Loc) : Prop := ∃ (b2 : Addr), ∃ (k2 : ClassId), v = some (.ref b2) ∧ Fr n0 L ∧ Keep h0 h [] ∧ (h0.size ≤ b2) ∧ (n0 ≤ b2) ∧ (Arv Z h b2 k2 .byte (Int32.ofNat cs.length) ((cs.map fun c => c.toInt8.toInt32).map Value.int) (.int (0 : Int32))) ∧ (Exa Z h b2 "[B")
set_option maxRecDepth 65536 in
set_option maxHeartbeats 40000000 in
theorem own_cor (l : Launch) (Z : State) (a0 : Array Value) (hw : ∀ d ∈ tables_1, d.before a0 Z = true) (ws : List Jvm.Cond) (d : Addr) (kd : ClassId) (N : Nat) (cs : List Int32) (h0 : Heap) (n0 : Nat) (O0 : Old Z n0 h0) (hp0 : own_By Z h0 d kd N cs) (hcc : cs.length ≤ 200) :
    MetFree l (⟨"java/util/Arrays", "copyOfRange", "([BII)[B"⟩ : MethodName) (head1 (Jvm.Cond.code (⟨"java/util/Arrays", "copyOfRange", "([BII)[B"⟩ : MethodName) jdk_65_method_132_code 3 (some (.array .byte)) :: ws) ({ frames := 2, cells := 1, slots := 200, locals := 34 } : Room)) (fun aa_ U_ => aa_ = #[(.ref d), (.int (0 : Int32)), (.int (Int32.ofNat cs.length))] ∧ Z.Warmed39 U_.vm ∧ U_.heap = h0) (fun _ _ _ _ _ => True) (fun _ U_ o_ V_ => ∃ v_ L_, o_ = .returned v_ ∧ Q_own_cor Z d kd N cs h0 n0 v_ V_.heap L_ ∧ FrameEnd U_ o_ V_ L_ ({ frames := 2, cells := 1, slots := 200, locals := 34 } : Room).cells ({ frames := 2, cells := 1, slots := 200, locals := 34 } : Room).slots) := by
  refine MetFree.of_bodySF (plainFor_of_name own_pn_own_cor) hisR ?_
  intro p e s m args below meth c s₁ Bd hml0 hP hK
  obtain ⟨rfl, hZ, hh⟩ := hP
  have hx := Bd.exec
  have hby := Bd.bytes
  have hml : c.maxLocals = 3 := hml0
  have hown : s.vm.findClass "java/util/Arrays" = some m.cls := findClass_of_methodNamed Bd.named
  have hnm := (name_of_methodNamed Bd.named Bd.method).1
  have X0 : Stand p l e ({ frames := 2, cells := 1, slots := 200, locals := 34 } : Room) s m #[(.ref d), (.int (0 : Int32)), (.int (Int32.ofNat cs.length))] below meth c s₁ [] 0 0 := Stand.of_body Bd
  have e0 : s₁.heap = h0 := by rw [← hh, Bd.state]; rfl
  have N0 := Fr.nil n0
  have K0 : Keep h0 h0 [] := Keep.refl _ _
  have r0 : GoTo p.tables e below s₁ (own_F_own_cor m d cs) s₁ (mkF m 0 #[.val (.ref d), .val (.int (0 : Int32)), .val (.int (Int32.ofNat cs.length))] []) := fun tt_ kk_ => castTop (own_ef_own_cor m d cs) kk_
  obtain ⟨vs1, hvl1, hva1, hvc1⟩ := own_By.arv hp0
  have hN6 := hp0.2.2.1
  have hcN := hp0.2.1
  have hc6 : cs.length ≤ 1000000 := by omega
  obtain ⟨cl2, Ar2, q2, S2, NN2, H2, G2⟩ := id hva1
  have r3 : GoTo p.tables e below s₁ (own_F_own_cor m d cs) s₁ (mkF m 7 #[.val (.ref d), .val (.int (0 : Int32)), .val (.int (Int32.ofNat cs.length))] [(.int (Int32.ofNat N)), (.int (Int32.ofNat cs.length))]) := fun tt_ kk_ => r0 tt_ (by
      show Steps p.tables e below (s₁.setTop (mkF m 0 #[.val (.ref d), .val (.int (0 : Int32)), .val (.int (Int32.ofNat cs.length))] [])) _
      refine XS.iloadN X0.here hx rfl (hb hby own_d_jdk_65_method_132_code_0) rfl ?_
      show Steps p.tables e below (s₁.setTop (mkF m 1 #[.val (.ref d), .val (.int (0 : Int32)), .val (.int (Int32.ofNat cs.length))] [(.int (0 : Int32))])) _
      refine XS.ifNo X0.here hx rfl (hb hby own_d_jdk_65_method_132_code_1) rfl ((if0 _ _).trans (teq rfl).2) ?_
      show Steps p.tables e below (s₁.setTop (mkF m 4 #[.val (.ref d), .val (.int (0 : Int32)), .val (.int (Int32.ofNat cs.length))] [])) _
      refine XS.iloadN X0.here hx rfl (hb hby own_d_jdk_65_method_132_code_4) rfl ?_
      show Steps p.tables e below (s₁.setTop (mkF m 5 #[.val (.ref d), .val (.int (0 : Int32)), .val (.int (Int32.ofNat cs.length))] [(.int (Int32.ofNat cs.length))])) _
      refine XS.aloadN X0.here hx rfl (hb hby own_d_jdk_65_method_132_code_5) rfl rfl ?_
      show Steps p.tables e below (s₁.setTop (mkF m 6 #[.val (.ref d), .val (.int (0 : Int32)), .val (.int (Int32.ofNat cs.length))] [(.ref d), (.int (Int32.ofNat cs.length))])) _
      refine X0.arraylength hx (by rw [e0]; exact Ar2.1) (State.isArrayOf_alike hZ.alike Ar2.2.1) (g := (mkF m 6 #[.val (.ref d), .val (.int (0 : Int32)), .val (.int (Int32.ofNat cs.length))] [(.ref d), (.int (Int32.ofNat cs.length))])) rfl rfl (hb hby own_d_jdk_65_method_132_code_6) _ ?_
      rw [len_of S2 NN2]
      show Steps p.tables e below (s₁.setTop (mkF m 7 #[.val (.ref d), .val (.int (0 : Int32)), .val (.int (Int32.ofNat cs.length))] [(.int (Int32.ofNat N)), (.int (Int32.ofNat cs.length))])) _
      exact kk_)
  by_cases hcn : cs.length = N
  · obtain ⟨T4, h4, X4, e4, E4, A4, Ex4, st4⟩ := cloneH X0 hx hZ hown (hw _ (List.mem_of_getElem? (i := 231) rfl)) (hw _ (List.mem_of_getElem? (i := 232) rfl)) (hw _ (List.mem_of_getElem? (i := 236) rfl)) (hw _ (List.mem_of_getElem? (i := 234) rfl)) (hw _ (List.mem_of_getElem? (i := 235) rfl)) (hw _ (List.mem_of_getElem? (i := 237) rfl)) e0 (Arv.arh hva1) hp0.1 (g := (mkF m 18 #[.val (.ref d), .val (.int (0 : Int32)), .val (.int (Int32.ofNat cs.length))] [(.ref d)])) rfl (by rw [hml]; rfl) rfl (hb hby own_d_jdk_65_method_132_code_18) (by decide) (W := 0) (cap := 200) (by show 2 * 0 + _ ≤ _; exact Nat.le_of_eq rfl) (by decide) (by rw [own_clamp hN6]; omega) (by decide) (by decide)
    obtain ⟨b4, gg4⟩ : ∃ z, z = h0.size := ⟨_, rfl⟩
    rw [← gg4] at A4 Ex4 st4
    have ne5 : d ≠ b4 := Nat.ne_of_lt (Nat.lt_of_lt_of_le hp0.lt (Nat.le_of_eq gg4.symm))
    have g6 : n0 ≤ b4 := Nat.le_trans (Nat.le_trans (own_le O0) K0.1) (Nat.le_of_eq gg4.symm)
    have b7 : h0.size ≤ b4 := Nat.le_trans K0.1 (Nat.le_of_eq gg4.symm)
    have K8 : Keep h0 h4 [] := K0.ext E4
    have V4 : Arv Z h4 b4 kd .byte (Int32.ofNat N) vs1 (.int (0 : Int32)) := A4
    obtain ⟨T9, X9, e9, st9⟩ := castY X4 hx hZ hown (hw _ (List.mem_of_getElem? (i := 238) rfl)) e4 (Ins.self Ex4) (g := (mkF m 21 #[.val (.ref d), .val (.int (0 : Int32)), .val (.int (Int32.ofNat cs.length))] [(.ref b4)])) rfl rfl (hb hby own_d_jdk_65_method_132_code_21)
    obtain ⟨fs, hr, hrun, hended, hW, hsame⟩ := X9.leave (v := some (.ref b4)) (fun h => by rw [Bd.returns] at h; cases h)
    refine ⟨_, _, r3 _ ?_, hrun, hended, _, _, rfl, ?_, ⟨_, rfl⟩, hW, hsame.mono (by decide) (by decide)⟩
    · show Steps p.tables e below (s₁.setTop (mkF m 7 #[.val (.ref d), .val (.int (0 : Int32)), .val (.int (Int32.ofNat cs.length))] [(.int (Int32.ofNat N)), (.int (Int32.ofNat cs.length))])) _
      refine XS.icmpYes X0.here hx rfl (pc0 := 7) (pc' := 17) rfl (hb hby own_d_jdk_65_method_132_code_7) rfl (teq ((own_eqN hc6 hN6).mpr hcn)).1 (by decide) (by decide) ?_
      show Steps p.tables e below (s₁.setTop (mkF m 17 #[.val (.ref d), .val (.int (0 : Int32)), .val (.int (Int32.ofNat cs.length))] [])) _
      refine XS.aloadN X0.here hx rfl (hb hby own_d_jdk_65_method_132_code_17) rfl rfl ?_
      show Steps p.tables e below (s₁.setTop (mkF m 18 #[.val (.ref d), .val (.int (0 : Int32)), .val (.int (Int32.ofNat cs.length))] [(.ref d)])) _
      refine st4 _ ?_
      show Steps p.tables e below (T4.setTop (mkF m 21 #[.val (.ref d), .val (.int (0 : Int32)), .val (.int (Int32.ofNat cs.length))] [(.ref b4)])) _
      refine st9 _ ?_
      show Steps p.tables e below (T9.setTop (mkF m 24 #[.val (.ref d), .val (.int (0 : Int32)), .val (.int (Int32.ofNat cs.length))] [(.ref b4)])) _
      exact retOut X9 hx (t := (.array .byte)) Bd.returns rfl (Or.inr (Or.inr (Or.inr (Or.inr ⟨rfl, rfl, rfl⟩)))) (hb hby own_d_jdk_65_method_132_code_24) hr
    · show Q_own_cor Z d kd N cs h0 n0 _ T9.heap _
      rw [e9]
      exact ⟨b4, kd, rfl, N0, K8, b7, g6, own_arvStr (hvl1.trans hcn.symm) hvc1 (hcn ▸ V4), Ex4⟩
  · obtain ⟨_, _, ⟨T10, L10, k10, n10⟩, -, X10, ⟨Lc10, hQ10, l10, y10, z10⟩, st10⟩ := Jvm.LawKit.callS X0 hx (y := (⟨"java/util/Arrays", "copyOfRangeByte", "([BII)[B"⟩ : MethodName)) hown (mvT hZ (hw _ (List.mem_of_getElem? (i := 172) rfl))) (mvT hZ (hw _ (List.mem_of_getElem? (i := 173) rfl))) (mvT hZ (hw _ (List.mem_of_getElem? (i := 170) rfl))) (mvT hZ (hw _ (List.mem_of_getElem? (i := 174) rfl))) (by decide) (backOf (W := 0) (own_corb l Z a0 hw [] (d) (kd) (N) (cs) h0 n0 (O0.keep K0 all0) (hp0) (hcc)) hZ (hw _ (List.mem_of_getElem? (i := 174) rfl)) (hw _ (List.mem_of_getElem? (i := 170) rfl)) (by decide) (by decide)) (g := (mkF m 13 #[.val (.ref d), .val (.int (0 : Int32)), .val (.int (Int32.ofNat cs.length))] [(.int (Int32.ofNat cs.length)), (.int (0 : Int32)), (.ref d)])) rfl (by rw [hml]; rfl) (argsL := [(.ref d), (.int (0 : Int32)), (.int (Int32.ofNat cs.length))]) (rest := []) (lenOf own_pd15 rfl) rfl (by show 2 * 0 + _ ≤ _; exact Nat.le_of_eq rfl) (hb hby own_d_jdk_65_method_132_code_13) (fun _ _ => ⟨rfl, e0, (by decide : 0 + 1 ≤ _), (by decide : 0 + 200 ≤ _)⟩)
    dsimp only [Pt.U, Pt.locs, Pt.cells, Pt.slots] at X10 l10 y10 z10 st10 hQ10
    subst l10 y10 z10
    obtain ⟨b2_10, k2_10, rfl, Nq10, Kq10, po10_0, po10_1, po10_2, po10_3⟩ := hQ10
    have N10 := Fr.app N0 Nq10
    have ne11 : d ≠ b2_10 := Nat.ne_of_lt (Nat.lt_of_lt_of_le hp0.lt po10_0)
    have g12 : n0 ≤ b2_10 := Nat.le_trans (Nat.le_trans (own_le O0) K0.1) po10_0
    have b13 : h0.size ≤ b2_10 := Nat.le_trans K0.1 po10_0
    have K14 : Keep h0 T10.heap [] := K0.trans Kq10 all0
    obtain ⟨fs, hr, hrun, hended, hW, hsame⟩ := X10.leave (v := some (.ref b2_10)) (fun h => by rw [Bd.returns] at h; cases h)
    refine ⟨_, _, r3 _ ?_, hrun, hended, _, _, rfl, ?_, ⟨_, rfl⟩, hW, hsame.mono (by decide) (by decide)⟩
    · show Steps p.tables e below (s₁.setTop (mkF m 7 #[.val (.ref d), .val (.int (0 : Int32)), .val (.int (Int32.ofNat cs.length))] [(.int (Int32.ofNat N)), (.int (Int32.ofNat cs.length))])) _
      refine XS.icmpNo X0.here hx rfl (hb hby own_d_jdk_65_method_132_code_7) rfl (feq (fun q => hcn ((own_eqN hc6 hN6).mp q))).1 ?_
      show Steps p.tables e below (s₁.setTop (mkF m 10 #[.val (.ref d), .val (.int (0 : Int32)), .val (.int (Int32.ofNat cs.length))] [])) _
      refine XS.aloadN X0.here hx rfl (hb hby own_d_jdk_65_method_132_code_10) rfl rfl ?_
      show Steps p.tables e below (s₁.setTop (mkF m 11 #[.val (.ref d), .val (.int (0 : Int32)), .val (.int (Int32.ofNat cs.length))] [(.ref d)])) _
      refine XS.iloadN X0.here hx rfl (hb hby own_d_jdk_65_method_132_code_11) rfl ?_
      show Steps p.tables e below (s₁.setTop (mkF m 12 #[.val (.ref d), .val (.int (0 : Int32)), .val (.int (Int32.ofNat cs.length))] [(.int (0 : Int32)), (.ref d)])) _
      refine XS.iloadN X0.here hx rfl (hb hby own_d_jdk_65_method_132_code_12) rfl ?_
      show Steps p.tables e below (s₁.setTop (mkF m 13 #[.val (.ref d), .val (.int (0 : Int32)), .val (.int (Int32.ofNat cs.length))] [(.int (Int32.ofNat cs.length)), (.int (0 : Int32)), (.ref d)])) _
      refine st10 _ ?_
      show Steps p.tables e below (T10.setTop (mkF m 16 #[.val (.ref d), .val (.int (0 : Int32)), .val (.int (Int32.ofNat cs.length))] [(.ref b2_10)])) _
      exact retOut X10 hx (t := (.array .byte)) Bd.returns rfl (Or.inr (Or.inr (Or.inr (Or.inr ⟨rfl, rfl, rfl⟩)))) (hb hby own_d_jdk_65_method_132_code_16) hr
    · show Q_own_cor Z d kd N cs h0 n0 _ T10.heap _
      exact ⟨b2_10, k2_10, rfl, N10, K14, b13, po10_1, po10_2, po10_3⟩
theorem own_pn_own_agetValue : plainName "java/lang/AbstractStringBuilder" = true := by first | (simp [plainName, overriddenIn]; done) | decide +kernel
theorem own_ef_own_agetValue (m : MethodId) (b : Addr) : entryFrame m #[(.ref b)] 1 = mkF m 0 #[.val (.ref b)] [] := by first | (simp [entryFrame, mkF, argsToLocals, own_cI, own_cJ, own_cR, own_cN]; done) | rfl
abbrev own_F_own_agetValue (m : MethodId) (b : Addr) : JFrame := entryFrame m #[(.ref b)] 1
def Q_own_agetValue (Z : State) (b : Addr) (d : Addr) (h0 : Heap) (n0 : Nat) (v : Option Value) (h : Heap) (L : List Loc) : Prop := v = some (.ref d) ∧ Fr n0 L ∧ h = h0
set_option maxRecDepth 65536 in
set_option maxHeartbeats 40000000 in
theorem own_agetValue (l : Launch) (Z : State) (a0 : Array Value) (hw : ∀ d ∈ tables_1, d.before a0 Z = true) (ws : List Jvm.Cond) (b : Addr) (d : Addr) (h0 : Heap) (n0 : Nat) (O0 : Old Z n0 h0) (hp0 : Fld Z h0 b "java/lang/AbstractStringBuilder" "value" "[B" (.ref d)) :
    MetFree l (⟨"java/lang/AbstractStringBuilder", "getValue", "()[B"⟩ : MethodName) (head1 (Jvm.Cond.code (⟨"java/lang/AbstractStringBuilder", "getValue", "()[B"⟩ : MethodName) jdk_68_method_64_code 1 (some (.array .byte)) :: ws) ({ frames := 0, cells := 0, slots := 0, locals := 0 } : Room)) (fun aa_ U_ => aa_ = #[(.ref b)] ∧ Z.Warmed39 U_.vm ∧ U_.heap = h0) (fun _ _ _ _ _ => True) (fun _ U_ o_ V_ => ∃ v_ L_, o_ = .returned v_ ∧ Q_own_agetValue Z b d h0 n0 v_ V_.heap L_ ∧ FrameEnd U_ o_ V_ L_ ({ frames := 0, cells := 0, slots := 0, locals := 0 } : Room).cells ({ frames := 0, cells := 0, slots := 0, locals := 0 } : Room).slots) := by
  refine MetFree.of_bodySF (plainFor_of_name own_pn_own_agetValue) hisR ?_
  intro p e s m args below meth c s₁ Bd hml0 hP hK
  obtain ⟨rfl, hZ, hh⟩ := hP
  have hx := Bd.exec
  have hby := Bd.bytes
  have hml : c.maxLocals = 1 := hml0
  have hown : s.vm.findClass "java/lang/AbstractStringBuilder" = some m.cls := findClass_of_methodNamed Bd.named
  have hnm := (name_of_methodNamed Bd.named Bd.method).1
  have X0 : Stand p l e ({ frames := 0, cells := 0, slots := 0, locals := 0 } : Room) s m #[(.ref b)] below meth c s₁ [] 0 0 := Stand.of_body Bd
  have e0 : s₁.heap = h0 := by rw [← hh, Bd.state]; rfl
  have N0 := Fr.nil n0
  have K0 : Keep h0 h0 [] := Keep.refl _ _
  have r0 : GoTo p.tables e below s₁ (own_F_own_agetValue m b) s₁ (mkF m 0 #[.val (.ref b)] []) := fun tt_ kk_ => castTop (own_ef_own_agetValue m b) kk_
  obtain ⟨T1, X1, e1, st1⟩ := getF X0 hx hZ hown (host := "") (Or.inl (hw _ (List.mem_of_getElem? (i := 76) rfl))) Via.refl e0 hp0 (g := (mkF m 1 #[.val (.ref b)] [(.ref b)])) rfl rfl (hb hby own_d_jdk_68_method_64_code_1)
  obtain ⟨fs, hr, hrun, hended, hW, hsame⟩ := X1.leave (v := some (.ref d)) (fun h => by rw [Bd.returns] at h; cases h)
  refine ⟨_, _, r0 _ ?_, hrun, hended, _, _, rfl, ?_, ⟨_, rfl⟩, hW, hsame.mono (by decide) (by decide)⟩
  · show Steps p.tables e below (s₁.setTop (mkF m 0 #[.val (.ref b)] [])) _
    refine XS.aloadN X0.here hx rfl (hb hby own_d_jdk_68_method_64_code_0) rfl rfl ?_
    show Steps p.tables e below (s₁.setTop (mkF m 1 #[.val (.ref b)] [(.ref b)])) _
    refine st1 _ ?_
    show Steps p.tables e below (T1.setTop (mkF m 4 #[.val (.ref b)] [(.ref d)])) _
    exact retOut X1 hx (t := (.array .byte)) Bd.returns rfl (Or.inr (Or.inr (Or.inr (Or.inr ⟨rfl, rfl, rfl⟩)))) (hb hby own_d_jdk_68_method_64_code_4) hr
  · show Q_own_agetValue Z b d h0 n0 _ T1.heap _
    rw [e1]
    exact ⟨rfl, N0, rfl⟩
theorem own_pn_own_alength : plainName "java/lang/AbstractStringBuilder" = true := by first | (simp [plainName, overriddenIn]; done) | decide +kernel
theorem own_ef_own_alength (m : MethodId) (b : Addr) : entryFrame m #[(.ref b)] 1 = mkF m 0 #[.val (.ref b)] [] := by first | (simp [entryFrame, mkF, argsToLocals, own_cI, own_cJ, own_cR, own_cN]; done) | rfl
abbrev own_F_own_alength (m : MethodId) (b : Addr) : JFrame := entryFrame m #[(.ref b)] 1
def Q_own_alength (Z : State) (b : Addr) (cs : List Int32) (h0 : Heap) (n0 : Nat) (v : Option Value) (h : Heap) (L : List Loc) : Prop := v = some (.int (Int32.ofNat cs.length)) ∧ Fr n0 L ∧ h = h0
set_option maxRecDepth 65536 in
set_option maxHeartbeats 40000000 in
theorem own_alength (l : Launch) (Z : State) (a0 : Array Value) (hw : ∀ d ∈ tables_1, d.before a0 Z = true) (ws : List Jvm.Cond) (b : Addr) (cs : List Int32) (h0 : Heap) (n0 : Nat) (O0 : Old Z n0 h0) (hp0 : Fld Z h0 b "java/lang/AbstractStringBuilder" "count" "I" (.int (Int32.ofNat cs.length))) :
    MetFree l (⟨"java/lang/AbstractStringBuilder", "length", "()I"⟩ : MethodName) (head1 (Jvm.Cond.code (⟨"java/lang/AbstractStringBuilder", "length", "()I"⟩ : MethodName) jdk_68_method_6_code 1 (some .int) :: ws) ({ frames := 0, cells := 0, slots := 0, locals := 0 } : Room)) (fun aa_ U_ => aa_ = #[(.ref b)] ∧ Z.Warmed39 U_.vm ∧ U_.heap = h0) (fun _ _ _ _ _ => True) (fun _ U_ o_ V_ => ∃ v_ L_, o_ = .returned v_ ∧ Q_own_alength Z b cs h0 n0 v_ V_.heap L_ ∧ FrameEnd U_ o_ V_ L_ ({ frames := 0, cells := 0, slots := 0, locals := 0 } : Room).cells ({ frames := 0, cells := 0, slots := 0, locals := 0 } : Room).slots) := by
  refine MetFree.of_bodySF (plainFor_of_name own_pn_own_alength) hisR ?_
  intro p e s m args below meth c s₁ Bd hml0 hP hK
  obtain ⟨rfl, hZ, hh⟩ := hP
  have hx := Bd.exec
  have hby := Bd.bytes
  have hml : c.maxLocals = 1 := hml0
  have hown : s.vm.findClass "java/lang/AbstractStringBuilder" = some m.cls := findClass_of_methodNamed Bd.named
  have hnm := (name_of_methodNamed Bd.named Bd.method).1
  have X0 : Stand p l e ({ frames := 0, cells := 0, slots := 0, locals := 0 } : Room) s m #[(.ref b)] below meth c s₁ [] 0 0 := Stand.of_body Bd
  have e0 : s₁.heap = h0 := by rw [← hh, Bd.state]; rfl
  have N0 := Fr.nil n0
  have K0 : Keep h0 h0 [] := Keep.refl _ _
  have r0 : GoTo p.tables e below s₁ (own_F_own_alength m b) s₁ (mkF m 0 #[.val (.ref b)] []) := fun tt_ kk_ => castTop (own_ef_own_alength m b) kk_
  obtain ⟨T1, X1, e1, st1⟩ := getF X0 hx hZ hown (host := "") (Or.inl (hw _ (List.mem_of_getElem? (i := 111) rfl))) Via.refl e0 hp0 (g := (mkF m 1 #[.val (.ref b)] [(.ref b)])) rfl rfl (hb hby own_d_jdk_68_method_6_code_1)
  obtain ⟨fs, hr, hrun, hended, hW, hsame⟩ := X1.leave (v := some (.int (Int32.ofNat cs.length))) (fun h => by rw [Bd.returns] at h; cases h)
  refine ⟨_, _, r0 _ ?_, hrun, hended, _, _, rfl, ?_, ⟨_, rfl⟩, hW, hsame.mono (by decide) (by decide)⟩
  · show Steps p.tables e below (s₁.setTop (mkF m 0 #[.val (.ref b)] [])) _
    refine XS.aloadN X0.here hx rfl (hb hby own_d_jdk_68_method_6_code_0) rfl rfl ?_
    show Steps p.tables e below (s₁.setTop (mkF m 1 #[.val (.ref b)] [(.ref b)])) _
    refine st1 _ ?_
    show Steps p.tables e below (T1.setTop (mkF m 4 #[.val (.ref b)] [(.int (Int32.ofNat cs.length))])) _
    exact retI X1 hx Bd.returns (hb hby own_d_jdk_68_method_6_code_4) hr
  · show Q_own_alength Z b cs h0 n0 _ T1.heap _
    rw [e1]
    exact ⟨rfl, N0, rfl⟩
theorem own_pn_own_slength : plainName "java/lang/StringBuilder" = true := by first | (simp [plainName, overriddenIn]; done) | decide +kernel
theorem own_ef_own_slength (m : MethodId) (b : Addr) : entryFrame m #[(.ref b)] 1 = mkF m 0 #[.val (.ref b)] [] := by first | (simp [entryFrame, mkF, argsToLocals, own_cI, own_cJ, own_cR, own_cN]; done) | rfl
abbrev own_F_own_slength (m : MethodId) (b : Addr) : JFrame := entryFrame m #[(.ref b)] 1
def Q_own_slength (Z : State) (b : Addr) (cs : List Int32) (h0 : Heap) (n0 : Nat) (v : Option Value) (h : Heap) (L : List Loc) : Prop := v = some (.int (Int32.ofNat cs.length)) ∧ Fr n0 L ∧ h = h0
set_option maxRecDepth 65536 in
set_option maxHeartbeats 40000000 in
theorem own_slength (l : Launch) (Z : State) (a0 : Array Value) (hw : ∀ d ∈ tables_1, d.before a0 Z = true) (ws : List Jvm.Cond) (b : Addr) (cs : List Int32) (h0 : Heap) (n0 : Nat) (O0 : Old Z n0 h0) (hp0 : Exa Z h0 b "java/lang/StringBuilder") (hp1 : Fld Z h0 b "java/lang/AbstractStringBuilder" "count" "I" (.int (Int32.ofNat cs.length))) :
    MetFree l (⟨"java/lang/StringBuilder", "length", "()I"⟩ : MethodName) (head1 (Jvm.Cond.code (⟨"java/lang/StringBuilder", "length", "()I"⟩ : MethodName) jdk_67_method_93_code 1 (some .int) :: ws) ({ frames := 1, cells := 0, slots := 0, locals := 12 } : Room)) (fun aa_ U_ => aa_ = #[(.ref b)] ∧ Z.Warmed39 U_.vm ∧ U_.heap = h0) (fun _ _ _ _ _ => True) (fun _ U_ o_ V_ => ∃ v_ L_, o_ = .returned v_ ∧ Q_own_slength Z b cs h0 n0 v_ V_.heap L_ ∧ FrameEnd U_ o_ V_ L_ ({ frames := 1, cells := 0, slots := 0, locals := 12 } : Room).cells ({ frames := 1, cells := 0, slots := 0, locals := 12 } : Room).slots) := by
  refine MetFree.of_bodySF (plainFor_of_name own_pn_own_slength) hisR ?_
  intro p e s m args below meth c s₁ Bd hml0 hP hK
  obtain ⟨rfl, hZ, hh⟩ := hP
  have hx := Bd.exec
  have hby := Bd.bytes
  have hml : c.maxLocals = 1 := hml0
  have hown : s.vm.findClass "java/lang/StringBuilder" = some m.cls := findClass_of_methodNamed Bd.named
  have hnm := (name_of_methodNamed Bd.named Bd.method).1
  have X0 : Stand p l e ({ frames := 1, cells := 0, slots := 0, locals := 12 } : Room) s m #[(.ref b)] below meth c s₁ [] 0 0 := Stand.of_body Bd
  have e0 : s₁.heap = h0 := by rw [← hh, Bd.state]; rfl
  have N0 := Fr.nil n0
  have K0 : Keep h0 h0 [] := Keep.refl _ _
  have r0 : GoTo p.tables e below s₁ (own_F_own_slength m b) s₁ (mkF m 0 #[.val (.ref b)] []) := fun tt_ kk_ => castTop (own_ef_own_slength m b) kk_
  obtain ⟨_, _, ⟨T1, L1, k1, n1⟩, -, X1, ⟨Lc1, hQ1, l1, y1, z1⟩, st1⟩ := superBack X0 hx hZ (y := (⟨"java/lang/AbstractStringBuilder", "length", "()I"⟩ : MethodName)) hown (hw _ (List.mem_of_getElem? (i := 161) rfl)) (own_sameSelf (y := (⟨"java/lang/AbstractStringBuilder", "length", "()I"⟩ : MethodName)) (hw _ (List.mem_of_getElem? (i := 116) rfl)) rfl (hw _ (List.mem_of_getElem? (i := 157) rfl)) (by decide)) (hw _ (List.mem_of_getElem? (i := 157) rfl)) (hw _ (List.mem_of_getElem? (i := 107) rfl)) (by decide) (backOf (W := 0) (own_alength l Z a0 hw [] (b) (cs) h0 n0 (O0.keep K0 all0) (hp1)) hZ (hw _ (List.mem_of_getElem? (i := 162) rfl)) (hw _ (List.mem_of_getElem? (i := 72) rfl)) (by decide) (by decide)) e0 (Ins.self hp0) (g := (mkF m 1 #[.val (.ref b)] [(.ref b)])) rfl (by rw [hml]; rfl) (hw _ (List.mem_of_getElem? (i := 162) rfl)) (argsL := []) (rest := []) (lenOf own_pd12 rfl) rfl (by show 2 * 0 + _ ≤ _; exact Nat.le_of_eq rfl) (hb hby own_d_jdk_67_method_93_code_1) (fun _ _ => ⟨rfl, e0, (by decide : 0 + 0 ≤ _), (by decide : 0 + 0 ≤ _)⟩)
  dsimp only [Pt.U, Pt.locs, Pt.cells, Pt.slots] at X1 l1 y1 z1 st1 hQ1
  subst l1 y1 z1
  obtain ⟨rfl, Nq1, hh1⟩ := hQ1
  have N1 := Fr.app N0 Nq1
  obtain ⟨fs, hr, hrun, hended, hW, hsame⟩ := X1.leave (v := some (.int (Int32.ofNat cs.length))) (fun h => by rw [Bd.returns] at h; cases h)
  refine ⟨_, _, r0 _ ?_, hrun, hended, _, _, rfl, ?_, ⟨_, rfl⟩, hW, hsame.mono (by decide) (by decide)⟩
  · show Steps p.tables e below (s₁.setTop (mkF m 0 #[.val (.ref b)] [])) _
    refine XS.aloadN X0.here hx rfl (hb hby own_d_jdk_67_method_93_code_0) rfl rfl ?_
    show Steps p.tables e below (s₁.setTop (mkF m 1 #[.val (.ref b)] [(.ref b)])) _
    refine st1.trans ?_
    show Steps p.tables e below (T1.setTop (mkF m 4 #[.val (.ref b)] [(.int (Int32.ofNat cs.length))])) _
    exact retI X1 hx Bd.returns (hb hby own_d_jdk_67_method_93_code_4) hr
  · show Q_own_slength Z b cs h0 n0 _ T1.heap _
    rw [hh1]
    exact ⟨rfl, N1, rfl⟩
theorem own_pn_own_strA : plainName "java/lang/String" = true := by first | (simp [plainName, overriddenIn]; done) | decide +kernel
theorem own_ef_own_strA (m : MethodId) (x : Addr) (b : Addr) : entryFrame m #[(.ref x), (.ref b), .null] 5 = mkF m 0 #[.val (.ref x), .val (.ref b), .val .null, .unset, .unset] [] := by first | (simp [entryFrame, mkF, argsToLocals, own_cI, own_cJ, own_cR, own_cN]; done) | rfl
abbrev own_F_own_strA (m : MethodId) (x : Addr) (b : Addr) : JFrame := entryFrame m #[(.ref x), (.ref b), .null] 5
def Q_own_strA (Z : State) (x : Addr) (b : Addr) (d : Addr) (kd : ClassId) (N : Nat) (cs : List Int32) (gCS : Int32) (h0 : Heap) (n0 : Nat) (v : Option Value) (h : Heap) (L : List Loc) : Prop := ∃ (t : Addr), ∃ (kt : ClassId), v = none ∧ Fr n0 L ∧ Keep h0 h [x] ∧ (h0.size ≤ t) ∧ (n0 ≤ t) ∧ (own_Str Z h x t kt cs)
set_option maxRecDepth 65536 in
set_option maxHeartbeats 40000000 in
theorem own_strA (l : Launch) (Z : State) (a0 : Array Value) (hw : ∀ d ∈ tables_1, d.before a0 Z = true) (ws : List Jvm.Cond) (x : Addr) (b : Addr) (d : Addr) (kd : ClassId) (N : Nat) (cs : List Int32) (gCS : Int32) (h0 : Heap) (n0 : Nat) (O0 : Old Z n0 h0) (hp0 : Exa Z h0 x "java/lang/String") (hp1 : n0 ≤ x) (hp2 : Fld Z h0 x "java/lang/String" "value" "[B" .null) (hp3 : Fld Z h0 x "java/lang/String" "coder" "B" (.int (0 : Int32))) (hp4 : own_SB Z h0 b d kd N cs) (hp5 : x ≠ b) (hp6 : x ≠ d) (hcc : cs.length ≤ 200) (hp8 : Sta Z Z.heap "java/lang/String" "COMPACT_STRINGS" "Z" (.int gCS)) (hG1 : ¬ gCS = (0 : Int32)) :
    MetFree l (⟨"java/lang/String", "<init>", "(Ljava/lang/AbstractStringBuilder;Ljava/lang/Void;)V"⟩ : MethodName) (head1 (Jvm.Cond.code (⟨"java/lang/String", "<init>", "(Ljava/lang/AbstractStringBuilder;Ljava/lang/Void;)V"⟩ : MethodName) jdk_42_method_150_code 5 none :: ws) ({ frames := 3, cells := 1, slots := 200, locals := 49 } : Room)) (fun aa_ U_ => aa_ = #[(.ref x), (.ref b), .null] ∧ Z.Warmed39 U_.vm ∧ U_.heap = h0) (fun _ _ _ _ _ => True) (fun _ U_ o_ V_ => ∃ v_ L_, o_ = .returned v_ ∧ Q_own_strA Z x b d kd N cs gCS h0 n0 v_ V_.heap L_ ∧ FrameEnd U_ o_ V_ L_ ({ frames := 3, cells := 1, slots := 200, locals := 49 } : Room).cells ({ frames := 3, cells := 1, slots := 200, locals := 49 } : Room).slots) := by
  refine MetFree.of_bodySF (plainFor_of_name own_pn_own_strA) hisR ?_
  intro p e s m args below meth c s₁ Bd hml0 hP hK
  obtain ⟨rfl, hZ, hh⟩ := hP
  have hx := Bd.exec
  have hby := Bd.bytes
  have hml : c.maxLocals = 5 := hml0
  have hown : s.vm.findClass "java/lang/String" = some m.cls := findClass_of_methodNamed Bd.named
  have hnm := (name_of_methodNamed Bd.named Bd.method).1
  have X0 : Stand p l e ({ frames := 3, cells := 1, slots := 200, locals := 49 } : Room) s m #[(.ref x), (.ref b), .null] below meth c s₁ [] 0 0 := Stand.of_body Bd
  have e0 : s₁.heap = h0 := by rw [← hh, Bd.state]; rfl
  have N0 := Fr.nil n0
  have K0 : Keep h0 h0 [x] := Keep.refl _ _
  have r0 : GoTo p.tables e below s₁ (own_F_own_strA m x b) s₁ (mkF m 0 #[.val (.ref x), .val (.ref b), .val .null, .unset, .unset] []) := fun tt_ kk_ => castTop (own_ef_own_strA m x b) kk_
  obtain ⟨T1, X1, e1, st1⟩ := initO X0 hx hZ hown (hw _ (List.mem_of_getElem? (i := 55) rfl)) (hw _ (List.mem_of_getElem? (i := 56) rfl)) (hw _ (List.mem_of_getElem? (i := 57) rfl)) e0 (g := (mkF m 1 #[.val (.ref x), .val (.ref b), .val .null, .unset, .unset] [(.ref x)])) rfl (by rw [hml]; rfl) rfl (hb hby own_d_jdk_42_method_150_code_1) (by decide) (W := 0) (by show 2 * 0 + _ ≤ _; exact Nat.le_of_eq rfl) (by decide)
  obtain ⟨cq2, kq2, qa2, qb2, qc2⟩ := isOf hZ e1 hp4.1
  obtain ⟨_, _, ⟨T2, L2, k2, n2⟩, -, X2, ⟨Lc2, hQ2, l2, y2, z2⟩, st2⟩ := X1.virtualBack hx (y := (⟨"java/lang/AbstractStringBuilder", "getValue", "()[B"⟩ : MethodName)) (z := (⟨"java/lang/AbstractStringBuilder", "getValue", "()[B"⟩ : MethodName)) hown (mvT hZ (hw _ (List.mem_of_getElem? (i := 150) rfl))) (mvT hZ (hw _ (List.mem_of_getElem? (i := 151) rfl))) (notFace_of_selects (args := #[]) (mvT hZ (hw _ (List.mem_of_getElem? (i := 153) rfl)))) (mvT hZ (hw _ (List.mem_of_getElem? (i := 153) rfl))) (mvT hZ (hw _ (List.mem_of_getElem? (i := 152) rfl))) (by decide) (backOf (W := 0) (own_agetValue l Z a0 hw [] (b) (d) h0 n0 (O0.keep K0 (allS hp1 all0)) (hp4.2.1)) hZ (hw _ (List.mem_of_getElem? (i := 154) rfl)) (hw _ (List.mem_of_getElem? (i := 72) rfl)) (by decide) (by decide)) qa2 qc2 (g := (mkF m 5 #[.val (.ref x), .val (.ref b), .val .null, .unset, .unset] [(.ref b)])) rfl (by rw [hml]; rfl) (Steps.refl _) (argsL := []) (rest := []) (lenOf own_pd16 rfl) rfl (by show 2 * 0 + _ ≤ _; exact Nat.le_of_eq rfl) (hb hby own_d_jdk_42_method_150_code_5) (fun _ _ => ⟨rfl, e1, (by decide : 0 + 0 ≤ _), (by decide : 0 + 0 ≤ _)⟩)
  dsimp only [Pt.U, Pt.locs, Pt.cells, Pt.slots] at X2 l2 y2 z2 st2 hQ2
  subst l2 y2 z2
  obtain ⟨rfl, Nq2, hh2⟩ := hQ2
  have N2 := Fr.app N0 Nq2
  obtain ⟨cq3, kq3, qa3, qb3, qc3⟩ := isOf hZ hh2 hp4.1
  obtain ⟨_, _, ⟨T3, L3, k3, n3⟩, -, X3, ⟨Lc3, hQ3, l3, y3, z3⟩, st3⟩ := X2.virtualBack hx (y := (⟨"java/lang/AbstractStringBuilder", "length", "()I"⟩ : MethodName)) (z := (⟨"java/lang/StringBuilder", "length", "()I"⟩ : MethodName)) hown (mvT hZ (hw _ (List.mem_of_getElem? (i := 155) rfl))) (mvT hZ (hw _ (List.mem_of_getElem? (i := 156) rfl))) (own_notFace (args := #[]) (mvT hZ (hw _ (List.mem_of_getElem? (i := 116) rfl))) rfl) (mvT hZ (hw _ (List.mem_of_getElem? (i := 158) rfl))) (mvT hZ (hw _ (List.mem_of_getElem? (i := 159) rfl))) (by decide) (backOf (W := 0) (own_slength l Z a0 hw [] (b) (cs) h0 n0 (O0.keep K0 (allS hp1 all0)) (hp4.1) (hp4.2.2.2.1)) hZ (hw _ (List.mem_of_getElem? (i := 160) rfl)) (hw _ (List.mem_of_getElem? (i := 64) rfl)) (by decide) (by decide)) qa3 qc3 (g := (mkF m 10 #[.val (.ref x), .val (.ref b), .val .null, .val (.ref d), .unset] [(.ref b)])) rfl (by rw [hml]; rfl) (Steps.refl _) (argsL := []) (rest := []) (lenOf own_pd12 rfl) rfl (by show 2 * 0 + _ ≤ _; exact Nat.le_of_eq rfl) (hb hby own_d_jdk_42_method_150_code_10) (fun _ _ => ⟨rfl, hh2, (by decide : 0 + 0 ≤ _), (by decide : 0 + 0 ≤ _)⟩)
  dsimp only [Pt.U, Pt.locs, Pt.cells, Pt.slots] at X3 l3 y3 z3 st3 hQ3
  subst l3 y3 z3
  obtain ⟨rfl, Nq3, hh3⟩ := hQ3
  have N3 := Fr.app N2 Nq3
  obtain ⟨cq4, kq4, qa4, qb4, qc4⟩ := isOf hZ hh3 hp4.1
  obtain ⟨_, _, ⟨T4, L4, k4, n4⟩, -, X4, ⟨Lc4, hQ4, l4, y4, z4⟩, st4⟩ := X3.virtualBack hx (y := (⟨"java/lang/AbstractStringBuilder", "isLatin1", "()Z"⟩ : MethodName)) (z := (⟨"java/lang/AbstractStringBuilder", "isLatin1", "()Z"⟩ : MethodName)) hown (mvT hZ (hw _ (List.mem_of_getElem? (i := 163) rfl))) (mvT hZ (hw _ (List.mem_of_getElem? (i := 164) rfl))) (notFace_of_selects (args := #[]) (mvT hZ (hw _ (List.mem_of_getElem? (i := 166) rfl)))) (mvT hZ (hw _ (List.mem_of_getElem? (i := 166) rfl))) (mvT hZ (hw _ (List.mem_of_getElem? (i := 165) rfl))) (by decide) (backOf (W := 0) (own_isL l Z a0 hw [] (b) (gCS) h0 n0 (O0.keep K0 (allS hp1 all0)) (hp4.2.2.1) (hp8) (hG1)) hZ (hw _ (List.mem_of_getElem? (i := 167) rfl)) (hw _ (List.mem_of_getElem? (i := 72) rfl)) (by decide) (by decide)) qa4 qc4 (g := (mkF m 16 #[.val (.ref x), .val (.ref b), .val .null, .val (.ref d), .val (.int (Int32.ofNat cs.length))] [(.ref b)])) rfl (by rw [hml]; rfl) (Steps.refl _) (argsL := []) (rest := []) (lenOf own_pd8 rfl) rfl (by show 2 * 0 + _ ≤ _; exact Nat.le_of_eq rfl) (hb hby own_d_jdk_42_method_150_code_16) (fun _ _ => ⟨rfl, hh3, (by decide : 0 + 0 ≤ _), (by decide : 0 + 0 ≤ _)⟩)
  dsimp only [Pt.U, Pt.locs, Pt.cells, Pt.slots] at X4 l4 y4 z4 st4 hQ4
  subst l4 y4 z4
  obtain ⟨rfl, Nq4, hh4⟩ := hQ4
  have N4 := Fr.app N3 Nq4
  obtain ⟨T5, h5, X5, e5, W5, st5⟩ := putFN X4 hx hZ hown (hw _ (List.mem_of_getElem? (i := 60) rfl)) Via.refl hh4 hp3 hp0 (Or.inr ⟨(hw _ (List.mem_of_getElem? (i := 61) rfl)), rfl, hnm⟩) (hw _ (List.mem_of_getElem? (i := 50) rfl)) (ty := .byte) (v' := (.int (nar .byte (0 : Int32)))) (by decide) rfl (fits_nar_byte _) (g := (mkF m 24 #[.val (.ref x), .val (.ref b), .val .null, .val (.ref d), .val (.int (Int32.ofNat cs.length))] [(.int (0 : Int32)), (.ref x)])) rfl rfl (hb hby own_d_jdk_42_method_150_code_24)
  have K6 : Keep h0 h5 [x] := K0.wr W5 (Or.inl (List.mem_of_getElem? (i := 0) rfl))
  have Fw5 : Fld Z h5 x "java/lang/String" "coder" "B" (.int (nar .byte (0 : Int32))) := hp3.same W5
  have N5 := Fr.snoc X5 N4 hp1
  have f7 : own_By Z h5 d kd N cs := (hp4.2.2.2.2.1.other W5 (Ne.symm hp6))
  obtain ⟨_, _, ⟨T8, L8, k8, n8⟩, -, X8, ⟨Lc8, hQ8, l8, y8, z8⟩, st8⟩ := Jvm.LawKit.callS X5 hx (y := (⟨"java/util/Arrays", "copyOfRange", "([BII)[B"⟩ : MethodName)) hown (mvT hZ (hw _ (List.mem_of_getElem? (i := 168) rfl))) (mvT hZ (hw _ (List.mem_of_getElem? (i := 169) rfl))) (mvT hZ (hw _ (List.mem_of_getElem? (i := 170) rfl))) (mvT hZ (hw _ (List.mem_of_getElem? (i := 171) rfl))) (by decide) (backOf (W := 1) (own_cor l Z a0 hw [] (d) (kd) (N) (cs) h5 n0 (O0.keep K6 (allS hp1 all0)) (f7) (hcc)) hZ (hw _ (List.mem_of_getElem? (i := 171) rfl)) (hw _ (List.mem_of_getElem? (i := 170) rfl)) (by decide) (by decide)) (g := (mkF m 32 #[.val (.ref x), .val (.ref b), .val .null, .val (.ref d), .val (.int (Int32.ofNat cs.length))] [(.int (Int32.ofNat cs.length)), (.int (0 : Int32)), (.ref d), (.ref x)])) rfl (by rw [hml]; rfl) (argsL := [(.ref d), (.int (0 : Int32)), (.int (Int32.ofNat cs.length))]) (rest := [(.ref x)]) (lenOf own_pd15 rfl) rfl (by show 2 * 0 + _ ≤ _; exact Nat.le_of_eq rfl) (hb hby own_d_jdk_42_method_150_code_32) (fun _ _ => ⟨rfl, e5, (by decide : 0 + 1 ≤ _), (by decide : 0 + 200 ≤ _)⟩)
  dsimp only [Pt.U, Pt.locs, Pt.cells, Pt.slots] at X8 l8 y8 z8 st8 hQ8
  subst l8 y8 z8
  obtain ⟨b2_8, k2_8, rfl, Nq8, Kq8, po8_0, po8_1, po8_2, po8_3⟩ := hQ8
  have N8 := Fr.app N5 Nq8
  have ne9 : x ≠ b2_8 := Nat.ne_of_lt (Nat.lt_of_lt_of_le (Nat.lt_of_lt_of_le hp0.lt (Nat.le_of_eq (Wr.size W5).symm)) po8_0)
  have ne10 : b ≠ b2_8 := Nat.ne_of_lt (Nat.lt_of_lt_of_le (Nat.lt_of_lt_of_le hp4.1.lt (Nat.le_of_eq (Wr.size W5).symm)) po8_0)
  have ne11 : d ≠ b2_8 := Nat.ne_of_lt (Nat.lt_of_lt_of_le (Nat.lt_of_lt_of_le hp4.2.2.2.2.1.lt (Nat.le_of_eq (Wr.size W5).symm)) po8_0)
  have g12 : n0 ≤ b2_8 := Nat.le_trans (Nat.le_trans (own_le O0) K6.1) po8_0
  have b13 : h0.size ≤ b2_8 := Nat.le_trans K6.1 po8_0
  have K14 : Keep h0 T8.heap [x] := K6.trans Kq8 all0
  have f15 : Fld Z T8.heap x "java/lang/String" "value" "[B" .null := ((hp2.other W5 (Or.inr (Jvm.RoadKit.slot_ne (Or.inr (hw _ (List.mem_of_getElem? (i := 59) rfl))) (Or.inr (hw _ (List.mem_of_getElem? (i := 61) rfl))) (by decide) (t := (.array .byte)) (t' := .byte) (by decide) (by decide)))).keep Kq8 nin0)
  have f16 : Exa Z T8.heap x "java/lang/String" := ((hp0.wr W5).keep Kq8)
  obtain ⟨T17, h17, X17, e17, W17, st17⟩ := putF X8 hx hZ hown (host := "") (Or.inl (hw _ (List.mem_of_getElem? (i := 58) rfl))) Via.refl rfl f15 f16 (Or.inr ⟨(hw _ (List.mem_of_getElem? (i := 59) rfl)), rfl, hnm⟩) (hw _ (List.mem_of_getElem? (i := 50) rfl)) (ty := (.array .byte)) (by decide) rfl rfl (g := (mkF m 35 #[.val (.ref x), .val (.ref b), .val .null, .val (.ref d), .val (.int (Int32.ofNat cs.length))] [(.ref b2_8), (.ref x)])) rfl rfl (hb hby own_d_jdk_42_method_150_code_35)
  have K18 : Keep h0 h17 [x] := K14.wr W17 (Or.inl (List.mem_of_getElem? (i := 0) rfl))
  have Fw17 : Fld Z h17 x "java/lang/String" "value" "[B" (.ref b2_8) := f15.same W17
  have N17 := Fr.snoc X17 N8 hp1
  have f19 : Fld Z h17 x "java/lang/String" "coder" "B" (.int (nar .byte (0 : Int32))) := ((Fw5.keep Kq8 nin0).other W17 (Or.inr (Jvm.RoadKit.slot_ne (Or.inr (hw _ (List.mem_of_getElem? (i := 61) rfl))) (Or.inr (hw _ (List.mem_of_getElem? (i := 59) rfl))) (by decide) (t := .byte) (t' := (.array .byte)) (by decide) (by decide))))
  have f20 : Fld Z h17 x "java/lang/String" "coder" "B" (.int (0 : Int32)) := by rw [show (nar .byte (0 : Int32)) = (0 : Int32) from (by decide)] at f19; exact f19
  have f21 : Arv Z h17 b2_8 k2_8 .byte (Int32.ofNat cs.length) ((cs.map fun c => c.toInt8.toInt32).map Value.int) (.int (0 : Int32)) := (po8_2.other W17 (Ne.symm ne9))
  have f22 : Exa Z h17 x "java/lang/String" := (f16.wr W17)
  obtain ⟨fs, hr, hrun, hended, hW, hsame⟩ := X17.leave (v := none) (fun _ => rfl)
  refine ⟨_, _, r0 _ ?_, hrun, hended, _, _, rfl, ?_, ⟨_, rfl⟩, hW, hsame.mono (by decide) (by decide)⟩
  · show Steps p.tables e below (s₁.setTop (mkF m 0 #[.val (.ref x), .val (.ref b), .val .null, .unset, .unset] [])) _
    refine XS.aloadN X0.here hx rfl (hb hby own_d_jdk_42_method_150_code_0) rfl rfl ?_
    show Steps p.tables e below (s₁.setTop (mkF m 1 #[.val (.ref x), .val (.ref b), .val .null, .unset, .unset] [(.ref x)])) _
    refine st1 _ ?_
    show Steps p.tables e below (T1.setTop (mkF m 4 #[.val (.ref x), .val (.ref b), .val .null, .unset, .unset] [])) _
    refine XS.aloadN X1.here hx rfl (hb hby own_d_jdk_42_method_150_code_4) rfl rfl ?_
    show Steps p.tables e below (T1.setTop (mkF m 5 #[.val (.ref x), .val (.ref b), .val .null, .unset, .unset] [(.ref b)])) _
    refine st2.trans ?_
    show Steps p.tables e below (T2.setTop (mkF m 8 #[.val (.ref x), .val (.ref b), .val .null, .unset, .unset] [(.ref d)])) _
    refine XS.astoreN X2.here hx rfl (hb hby own_d_jdk_42_method_150_code_8) rfl rfl (l' := #[.val (.ref x), .val (.ref b), .val .null, .val (.ref d), .unset]) rfl ?_
    show Steps p.tables e below (T2.setTop (mkF m 9 #[.val (.ref x), .val (.ref b), .val .null, .val (.ref d), .unset] [])) _
    refine XS.aloadN X2.here hx rfl (hb hby own_d_jdk_42_method_150_code_9) rfl rfl ?_
    show Steps p.tables e below (T2.setTop (mkF m 10 #[.val (.ref x), .val (.ref b), .val .null, .val (.ref d), .unset] [(.ref b)])) _
    refine st3.trans ?_
    show Steps p.tables e below (T3.setTop (mkF m 13 #[.val (.ref x), .val (.ref b), .val .null, .val (.ref d), .unset] [(.int (Int32.ofNat cs.length))])) _
    refine XS.istore X3.here hx rfl (hb hby own_d_jdk_42_method_150_code_13) rfl (l' := #[.val (.ref x), .val (.ref b), .val .null, .val (.ref d), .val (.int (Int32.ofNat cs.length))]) rfl ?_
    show Steps p.tables e below (T3.setTop (mkF m 15 #[.val (.ref x), .val (.ref b), .val .null, .val (.ref d), .val (.int (Int32.ofNat cs.length))] [])) _
    refine XS.aloadN X3.here hx rfl (hb hby own_d_jdk_42_method_150_code_15) rfl rfl ?_
    show Steps p.tables e below (T3.setTop (mkF m 16 #[.val (.ref x), .val (.ref b), .val .null, .val (.ref d), .val (.int (Int32.ofNat cs.length))] [(.ref b)])) _
    refine st4.trans ?_
    show Steps p.tables e below (T4.setTop (mkF m 19 #[.val (.ref x), .val (.ref b), .val .null, .val (.ref d), .val (.int (Int32.ofNat cs.length))] [(.int (1 : Int32))])) _
    refine XS.ifNo X4.here hx rfl (hb hby own_d_jdk_42_method_150_code_19) rfl ((if0 _ _).trans (feq (by decide)).1) ?_
    show Steps p.tables e below (T4.setTop (mkF m 22 #[.val (.ref x), .val (.ref b), .val .null, .val (.ref d), .val (.int (Int32.ofNat cs.length))] [])) _
    refine XS.aloadN X4.here hx rfl (hb hby own_d_jdk_42_method_150_code_22) rfl rfl ?_
    show Steps p.tables e below (T4.setTop (mkF m 23 #[.val (.ref x), .val (.ref b), .val .null, .val (.ref d), .val (.int (Int32.ofNat cs.length))] [(.ref x)])) _
    refine XS.iconst X4.here hx rfl (hb hby own_d_jdk_42_method_150_code_23) ?_
    show Steps p.tables e below (T4.setTop (mkF m 24 #[.val (.ref x), .val (.ref b), .val .null, .val (.ref d), .val (.int (Int32.ofNat cs.length))] [(.int (0 : Int32)), (.ref x)])) _
    refine st5 _ ?_
    show Steps p.tables e below (T5.setTop (mkF m 27 #[.val (.ref x), .val (.ref b), .val .null, .val (.ref d), .val (.int (Int32.ofNat cs.length))] [])) _
    refine XS.aloadN X5.here hx rfl (hb hby own_d_jdk_42_method_150_code_27) rfl rfl ?_
    show Steps p.tables e below (T5.setTop (mkF m 28 #[.val (.ref x), .val (.ref b), .val .null, .val (.ref d), .val (.int (Int32.ofNat cs.length))] [(.ref x)])) _
    refine XS.aloadN X5.here hx rfl (hb hby own_d_jdk_42_method_150_code_28) rfl rfl ?_
    show Steps p.tables e below (T5.setTop (mkF m 29 #[.val (.ref x), .val (.ref b), .val .null, .val (.ref d), .val (.int (Int32.ofNat cs.length))] [(.ref d), (.ref x)])) _
    refine XS.iconst X5.here hx rfl (hb hby own_d_jdk_42_method_150_code_29) ?_
    show Steps p.tables e below (T5.setTop (mkF m 30 #[.val (.ref x), .val (.ref b), .val .null, .val (.ref d), .val (.int (Int32.ofNat cs.length))] [(.int (0 : Int32)), (.ref d), (.ref x)])) _
    refine XS.iload X5.here hx rfl (hb hby own_d_jdk_42_method_150_code_30) rfl ?_
    show Steps p.tables e below (T5.setTop (mkF m 32 #[.val (.ref x), .val (.ref b), .val .null, .val (.ref d), .val (.int (Int32.ofNat cs.length))] [(.int (Int32.ofNat cs.length)), (.int (0 : Int32)), (.ref d), (.ref x)])) _
    refine st8 _ ?_
    show Steps p.tables e below (T8.setTop (mkF m 35 #[.val (.ref x), .val (.ref b), .val .null, .val (.ref d), .val (.int (Int32.ofNat cs.length))] [(.ref b2_8), (.ref x)])) _
    refine st17 _ ?_
    show Steps p.tables e below (T17.setTop (mkF m 38 #[.val (.ref x), .val (.ref b), .val .null, .val (.ref d), .val (.int (Int32.ofNat cs.length))] [])) _
    refine XS.goto X17.here hx rfl (pc0 := 38) (pc' := 97) rfl (hb hby own_d_jdk_42_method_150_code_38) (by decide) (by decide) ?_
    show Steps p.tables e below (T17.setTop (mkF m 97 #[.val (.ref x), .val (.ref b), .val .null, .val (.ref d), .val (.int (Int32.ofNat cs.length))] [])) _
    exact X17.returnOut hx Bd.returns (hb hby own_d_jdk_42_method_150_code_97) hr
  · show Q_own_strA Z x b d kd N cs gCS h0 n0 _ T17.heap _
    rw [e17]
    exact ⟨b2_8, k2_8, rfl, N17, K18, b13, po8_1, ⟨f22, Fw17, f20, f21, hp4.2.2.2.2.2, by omega⟩⟩
theorem own_pn_own_strB : plainName "java/lang/String" = true := by first | (simp [plainName, overriddenIn]; done) | decide +kernel
theorem own_ef_own_strB (m : MethodId) (x : Addr) (b : Addr) : entryFrame m #[(.ref x), (.ref b)] 2 = mkF m 0 #[.val (.ref x), .val (.ref b)] [] := by first | (simp [entryFrame, mkF, argsToLocals, own_cI, own_cJ, own_cR, own_cN]; done) | rfl
abbrev own_F_own_strB (m : MethodId) (x : Addr) (b : Addr) : JFrame := entryFrame m #[(.ref x), (.ref b)] 2
def Q_own_strB (Z : State) (x : Addr) (b : Addr) (d : Addr) (kd : ClassId) (N : Nat) (cs : List Int32) (gCS : Int32) (h0 : Heap) (n0 : Nat) (v : Option Value) (h : Heap) (L : List Loc) : Prop := ∃ (t : Addr), ∃ (kt : ClassId), v = none ∧ Fr n0 L ∧ Keep h0 h [x] ∧ (h0.size ≤ t) ∧ (n0 ≤ t) ∧ (own_Str Z h x t kt cs)
set_option maxRecDepth 65536 in
set_option maxHeartbeats 40000000 in
theorem own_strB (l : Launch) (Z : State) (a0 : Array Value) (hw : ∀ d ∈ tables_1, d.before a0 Z = true) (ws : List Jvm.Cond) (x : Addr) (b : Addr) (d : Addr) (kd : ClassId) (N : Nat) (cs : List Int32) (gCS : Int32) (h0 : Heap) (n0 : Nat) (O0 : Old Z n0 h0) (hp0 : Exa Z h0 x "java/lang/String") (hp1 : n0 ≤ x) (hp2 : Fld Z h0 x "java/lang/String" "value" "[B" .null) (hp3 : Fld Z h0 x "java/lang/String" "coder" "B" (.int (0 : Int32))) (hp4 : own_SB Z h0 b d kd N cs) (hp5 : x ≠ b) (hp6 : x ≠ d) (hcc : cs.length ≤ 200) (hp8 : Sta Z Z.heap "java/lang/String" "COMPACT_STRINGS" "Z" (.int gCS)) (hG1 : ¬ gCS = (0 : Int32)) :
    MetFree l (⟨"java/lang/String", "<init>", "(Ljava/lang/StringBuilder;)V"⟩ : MethodName) (head1 (Jvm.Cond.code (⟨"java/lang/String", "<init>", "(Ljava/lang/StringBuilder;)V"⟩ : MethodName) jdk_42_method_53_code 2 none :: ws) ({ frames := 4, cells := 1, slots := 200, locals := 65 } : Room)) (fun aa_ U_ => aa_ = #[(.ref x), (.ref b)] ∧ Z.Warmed39 U_.vm ∧ U_.heap = h0) (fun _ _ _ _ _ => True) (fun _ U_ o_ V_ => ∃ v_ L_, o_ = .returned v_ ∧ Q_own_strB Z x b d kd N cs gCS h0 n0 v_ V_.heap L_ ∧ FrameEnd U_ o_ V_ L_ ({ frames := 4, cells := 1, slots := 200, locals := 65 } : Room).cells ({ frames := 4, cells := 1, slots := 200, locals := 65 } : Room).slots) := by
  refine MetFree.of_bodySF (plainFor_of_name own_pn_own_strB) hisR ?_
  intro p e s m args below meth c s₁ Bd hml0 hP hK
  obtain ⟨rfl, hZ, hh⟩ := hP
  have hx := Bd.exec
  have hby := Bd.bytes
  have hml : c.maxLocals = 2 := hml0
  have hown : s.vm.findClass "java/lang/String" = some m.cls := findClass_of_methodNamed Bd.named
  have hnm := (name_of_methodNamed Bd.named Bd.method).1
  have X0 : Stand p l e ({ frames := 4, cells := 1, slots := 200, locals := 65 } : Room) s m #[(.ref x), (.ref b)] below meth c s₁ [] 0 0 := Stand.of_body Bd
  have e0 : s₁.heap = h0 := by rw [← hh, Bd.state]; rfl
  have N0 := Fr.nil n0
  have K0 : Keep h0 h0 [x] := Keep.refl _ _
  have r0 : GoTo p.tables e below s₁ (own_F_own_strB m x b) s₁ (mkF m 0 #[.val (.ref x), .val (.ref b)] []) := fun tt_ kk_ => castTop (own_ef_own_strB m x b) kk_
  obtain ⟨_, _, ⟨T1, L1, k1, n1⟩, -, X1, ⟨Lc1, hQ1, l1, y1, z1⟩, st1⟩ := X0.specialBack hx (y := (⟨"java/lang/String", "<init>", "(Ljava/lang/AbstractStringBuilder;Ljava/lang/Void;)V"⟩ : MethodName)) rfl hown (mvT hZ (hw _ (List.mem_of_getElem? (i := 147) rfl))) (mvT hZ (hw _ (List.mem_of_getElem? (i := 148) rfl))) (mvT hZ (hw _ (List.mem_of_getElem? (i := 149) rfl))) (by decide) (backOf (W := 0) (own_strA l Z a0 hw [] (x) (b) (d) (kd) (N) (cs) (gCS) h0 n0 (O0.keep K0 (allS hp1 all0)) (hp0) (hp1) (hp2) (hp3) (hp4) (hp5) (hp6) (hcc) (hp8) (hG1)) hZ (hw _ (List.mem_of_getElem? (i := 149) rfl)) (hw _ (List.mem_of_getElem? (i := 41) rfl)) (by decide) (by decide)) (g := (mkF m 3 #[.val (.ref x), .val (.ref b)] [.null, (.ref b), (.ref x)])) rfl (by rw [hml]; rfl) (Steps.refl _) (a := x) (argsL := [(.ref b), .null]) (rest := []) (lenOf own_pd17 rfl) rfl (by show 2 * 0 + _ ≤ _; exact Nat.le_of_eq rfl) (hb hby own_d_jdk_42_method_53_code_3) (fun _ _ => ⟨rfl, e0, (by decide : 0 + 1 ≤ _), (by decide : 0 + 200 ≤ _)⟩)
  dsimp only [Pt.U, Pt.locs, Pt.cells, Pt.slots] at X1 l1 y1 z1 st1 hQ1
  subst l1 y1 z1
  obtain ⟨t_1, kt_1, rfl, Nq1, Kq1, po1_0, po1_1, po1_2⟩ := hQ1
  have N1 := Fr.app N0 Nq1
  have ne2 : x ≠ t_1 := Nat.ne_of_lt (Nat.lt_of_lt_of_le hp0.lt po1_0)
  have ne3 : b ≠ t_1 := Nat.ne_of_lt (Nat.lt_of_lt_of_le hp4.1.lt po1_0)
  have ne4 : d ≠ t_1 := Nat.ne_of_lt (Nat.lt_of_lt_of_le hp4.2.2.2.2.1.lt po1_0)
  have g5 : n0 ≤ t_1 := Nat.le_trans (Nat.le_trans (own_le O0) K0.1) po1_0
  have b6 : h0.size ≤ t_1 := Nat.le_trans K0.1 po1_0
  have K7 : Keep h0 T1.heap [x] := K0.trans Kq1 (allS (Or.inl (List.mem_of_getElem? (i := 0) rfl)) all0)
  obtain ⟨fs, hr, hrun, hended, hW, hsame⟩ := X1.leave (v := none) (fun _ => rfl)
  refine ⟨_, _, r0 _ ?_, hrun, hended, _, _, rfl, ?_, ⟨_, rfl⟩, hW, hsame.mono (by decide) (by decide)⟩
  · show Steps p.tables e below (s₁.setTop (mkF m 0 #[.val (.ref x), .val (.ref b)] [])) _
    refine XS.aloadN X0.here hx rfl (hb hby own_d_jdk_42_method_53_code_0) rfl rfl ?_
    show Steps p.tables e below (s₁.setTop (mkF m 1 #[.val (.ref x), .val (.ref b)] [(.ref x)])) _
    refine XS.aloadN X0.here hx rfl (hb hby own_d_jdk_42_method_53_code_1) rfl rfl ?_
    show Steps p.tables e below (s₁.setTop (mkF m 2 #[.val (.ref x), .val (.ref b)] [(.ref b), (.ref x)])) _
    refine XS.aconstNull X0.here hx rfl (hb hby own_d_jdk_42_method_53_code_2) ?_
    show Steps p.tables e below (s₁.setTop (mkF m 3 #[.val (.ref x), .val (.ref b)] [.null, (.ref b), (.ref x)])) _
    refine st1.trans ?_
    show Steps p.tables e below (T1.setTop (mkF m 6 #[.val (.ref x), .val (.ref b)] [])) _
    exact X1.returnOut hx Bd.returns (hb hby own_d_jdk_42_method_53_code_6) hr
  · show Q_own_strB Z x b d kd N cs gCS h0 n0 _ T1.heap _
    exact ⟨t_1, kt_1, rfl, N1, K7, b6, po1_1, po1_2⟩
theorem own_pn_own_toStr : plainName "java/lang/StringBuilder" = true := by first | (simp [plainName, overriddenIn]; done) | decide +kernel
theorem own_ef_own_toStr (m : MethodId) (b : Addr) : entryFrame m #[(.ref b)] 1 = mkF m 0 #[.val (.ref b)] [] := by first | (simp [entryFrame, mkF, argsToLocals, own_cI, own_cJ, own_cR, own_cN]; done) | rfl
abbrev own_F_own_toStr (m : MethodId) (b : Addr) : JFrame := entryFrame m #[(.ref b)] 1
def Q_own_toStr (Z : State) (b : Addr) (d : Addr) (kd : ClassId) (N : Nat) (cs : List Int32) (gCS : Int32) (h0 : Heap) (n0 : Nat) (v : Option Value) (h : Heap) (L : List Loc) : Prop := ∃ (x : Addr), ∃ (t : Addr), ∃ (kt : ClassId), v = some (.ref x) ∧ Fr n0 L ∧ Keep h0 h [] ∧ (h0.size ≤ x) ∧ (h0.size ≤ t) ∧ (t ≠ x) ∧ (own_Str Z h x t kt cs)
set_option maxRecDepth 65536 in
set_option maxHeartbeats 40000000 in
theorem own_toStr (l : Launch) (Z : State) (a0 : Array Value) (hw : ∀ d ∈ tables_1, d.before a0 Z = true) (ws : List Jvm.Cond) (b : Addr) (d : Addr) (kd : ClassId) (N : Nat) (cs : List Int32) (gCS : Int32) (h0 : Heap) (n0 : Nat) (O0 : Old Z n0 h0) (hp0 : own_SB Z h0 b d kd N cs) (hcc : cs.length ≤ 200) (hp2 : Sta Z Z.heap "java/lang/String" "COMPACT_STRINGS" "Z" (.int gCS)) (hG1 : ¬ gCS = (0 : Int32)) :
    MetFree l (⟨"java/lang/StringBuilder", "toString", "()Ljava/lang/String;"⟩ : MethodName) (head1 (Jvm.Cond.code (⟨"java/lang/StringBuilder", "toString", "()Ljava/lang/String;"⟩ : MethodName) jdk_67_method_42_code 1 (some (.object "java/lang/String")) :: ws) ({ frames := 5, cells := 2, slots := 204, locals := 79 } : Room)) (fun aa_ U_ => aa_ = #[(.ref b)] ∧ Z.Warmed39 U_.vm ∧ U_.heap = h0) (fun _ _ _ _ _ => True) (fun _ U_ o_ V_ => ∃ v_ L_, o_ = .returned v_ ∧ Q_own_toStr Z b d kd N cs gCS h0 n0 v_ V_.heap L_ ∧ FrameEnd U_ o_ V_ L_ ({ frames := 5, cells := 2, slots := 204, locals := 79 } : Room).cells ({ frames := 5, cells := 2, slots := 204, locals := 79 } : Room).slots) := by
  refine MetFree.of_bodySF (plainFor_of_name own_pn_own_toStr) hisR ?_
  intro p e s m args below meth c s₁ Bd hml0 hP hK
  obtain ⟨rfl, hZ, hh⟩ := hP
  have hx := Bd.exec
  have hby := Bd.bytes
  have hml : c.maxLocals = 1 := hml0
  have hown : s.vm.findClass "java/lang/StringBuilder" = some m.cls := findClass_of_methodNamed Bd.named
  have hnm := (name_of_methodNamed Bd.named Bd.method).1
  have X0 : Stand p l e ({ frames := 5, cells := 2, slots := 204, locals := 79 } : Room) s m #[(.ref b)] below meth c s₁ [] 0 0 := Stand.of_body Bd
  have e0 : s₁.heap = h0 := by rw [← hh, Bd.state]; rfl
  have N0 := Fr.nil n0
  have K0 : Keep h0 h0 [] := Keep.refl _ _
  have r0 : GoTo p.tables e below s₁ (own_F_own_toStr m b) s₁ (mkF m 0 #[.val (.ref b)] []) := fun tt_ kk_ => castTop (own_ef_own_toStr m b) kk_
  obtain ⟨T1, h1, X1, e1, E1, A1, D1, -, st1⟩ := newO X0 hx hZ hown (hw _ (List.mem_of_getElem? (i := 143) rfl)) (hw _ (List.mem_of_getElem? (i := 50) rfl)) (hw _ (List.mem_of_getElem? (i := 41) rfl)) e0 (g := (mkF m 0 #[.val (.ref b)] [])) rfl (hb hby own_d_jdk_67_method_42_code_0) (by decide) (by decide)
  obtain ⟨b1, gg1⟩ : ∃ z, z = h0.size := ⟨_, rfl⟩
  rw [← gg1] at A1 D1 st1
  have ne2 : b ≠ b1 := Nat.ne_of_lt (Nat.lt_of_lt_of_le hp0.1.lt (Nat.le_of_eq gg1.symm))
  have ne3 : d ≠ b1 := Nat.ne_of_lt (Nat.lt_of_lt_of_le hp0.2.2.2.2.1.lt (Nat.le_of_eq gg1.symm))
  have g4 : n0 ≤ b1 := Nat.le_trans (Nat.le_trans (own_le O0) K0.1) (Nat.le_of_eq gg1.symm)
  have b5 : h0.size ≤ b1 := Nat.le_trans K0.1 (Nat.le_of_eq gg1.symm)
  have K6 : Keep h0 h1 [] := K0.ext E1
  have f7 : own_SB Z h1 b d kd N cs := (hp0.ext E1)
  obtain ⟨_, _, ⟨T8, L8, k8, n8⟩, -, X8, ⟨Lc8, hQ8, l8, y8, z8⟩, st8⟩ := X1.specialBack hx (y := (⟨"java/lang/String", "<init>", "(Ljava/lang/StringBuilder;)V"⟩ : MethodName)) rfl hown (mvT hZ (hw _ (List.mem_of_getElem? (i := 144) rfl))) (mvT hZ (hw _ (List.mem_of_getElem? (i := 145) rfl))) (mvT hZ (hw _ (List.mem_of_getElem? (i := 146) rfl))) (by decide) (backOf (W := 1) (own_strB l Z a0 hw [] (b1) (b) (d) (kd) (N) (cs) (gCS) h1 n0 (O0.keep K6 all0) (A1) (g4) ((D1 (Or.inr (hw _ (List.mem_of_getElem? (i := 59) rfl))) (ty := (.array .byte)) (by decide))) ((D1 (Or.inr (hw _ (List.mem_of_getElem? (i := 61) rfl))) (ty := .byte) (by decide))) (f7) ((Ne.symm ne2)) ((Ne.symm ne3)) (hcc) (hp2) (hG1)) hZ (hw _ (List.mem_of_getElem? (i := 146) rfl)) (hw _ (List.mem_of_getElem? (i := 41) rfl)) (by decide) (by decide)) (g := (mkF m 5 #[.val (.ref b)] [(.ref b), (.ref b1), (.ref b1)])) rfl (by rw [hml]; rfl) (Steps.refl _) (a := b1) (argsL := [(.ref b)]) (rest := [(.ref b1)]) (lenOf own_pd18 rfl) rfl (by show 2 * 0 + _ ≤ _; exact Nat.le_of_eq rfl) (hb hby own_d_jdk_67_method_42_code_5) (fun _ _ => ⟨rfl, e1, (by decide : 1 + 1 ≤ _), (by decide : 4 + 200 ≤ _)⟩)
  dsimp only [Pt.U, Pt.locs, Pt.cells, Pt.slots] at X8 l8 y8 z8 st8 hQ8
  subst l8 y8 z8
  obtain ⟨t_8, kt_8, rfl, Nq8, Kq8, po8_0, po8_1, po8_2⟩ := hQ8
  have N8 := Fr.app N0 Nq8
  have ne9 : b ≠ t_8 := Nat.ne_of_lt (Nat.lt_of_lt_of_le (Nat.lt_of_lt_of_le hp0.1.lt E1.1) po8_0)
  have ne10 : d ≠ t_8 := Nat.ne_of_lt (Nat.lt_of_lt_of_le (Nat.lt_of_lt_of_le hp0.2.2.2.2.1.lt E1.1) po8_0)
  have ne11 : b1 ≠ t_8 := Nat.ne_of_lt (Nat.lt_of_lt_of_le A1.lt po8_0)
  have g12 : n0 ≤ t_8 := Nat.le_trans (Nat.le_trans (own_le O0) K6.1) po8_0
  have b13 : h0.size ≤ t_8 := Nat.le_trans K6.1 po8_0
  have K14 : Keep h0 T8.heap [] := K6.trans Kq8 (allS (Or.inr b5) all0)
  obtain ⟨fs, hr, hrun, hended, hW, hsame⟩ := X8.leave (v := some (.ref b1)) (fun h => by rw [Bd.returns] at h; cases h)
  refine ⟨_, _, r0 _ ?_, hrun, hended, _, _, rfl, ?_, ⟨_, rfl⟩, hW, hsame.mono (by decide) (by decide)⟩
  · show Steps p.tables e below (s₁.setTop (mkF m 0 #[.val (.ref b)] [])) _
    refine st1 _ ?_
    show Steps p.tables e below (T1.setTop (mkF m 3 #[.val (.ref b)] [(.ref b1)])) _
    refine XS.dup X1.here hx rfl (hb hby own_d_jdk_67_method_42_code_3) rfl rfl ?_
    show Steps p.tables e below (T1.setTop (mkF m 4 #[.val (.ref b)] [(.ref b1), (.ref b1)])) _
    refine XS.aloadN X1.here hx rfl (hb hby own_d_jdk_67_method_42_code_4) rfl rfl ?_
    show Steps p.tables e below (T1.setTop (mkF m 5 #[.val (.ref b)] [(.ref b), (.ref b1), (.ref b1)])) _
    refine st8.trans ?_
    show Steps p.tables e below (T8.setTop (mkF m 8 #[.val (.ref b)] [(.ref b1)])) _
    exact retOut X8 hx (t := (.object "java/lang/String")) Bd.returns rfl (Or.inr (Or.inr (Or.inr (Or.inr ⟨rfl, rfl, rfl⟩)))) (hb hby own_d_jdk_67_method_42_code_8) hr
  · show Q_own_toStr Z b d kd N cs gCS h0 n0 _ T8.heap _
    exact ⟨b1, t_8, kt_8, rfl, N8, K14, b5, b13, (Ne.symm ne11), po8_2⟩
theorem own_pn_own_strBB : plainName "java/lang/String" = true := by first | (simp [plainName, overriddenIn]; done) | decide +kernel
theorem own_ef_own_strBB (m : MethodId) (x : Addr) (t : Addr) : entryFrame m #[(.ref x), (.ref t), (.int (0 : Int32))] 3 = mkF m 0 #[.val (.ref x), .val (.ref t), .val (.int (0 : Int32))] [] := by first | (simp [entryFrame, mkF, argsToLocals, own_cI, own_cJ, own_cR, own_cN]; done) | rfl
abbrev own_F_own_strBB (m : MethodId) (x : Addr) (t : Addr) : JFrame := entryFrame m #[(.ref x), (.ref t), (.int (0 : Int32))] 3
def Q_own_strBB (Z : State) (x : Addr) (t : Addr) (kt : ClassId) (ds : List Int32) (h0 : Heap) (n0 : Nat) (v : Option Value) (h : Heap) (L : List Loc) : Prop := v = none ∧ Fr n0 L ∧ Keep h0 h [x] ∧ (own_Str Z h x t kt ds)
set_option maxRecDepth 65536 in
set_option maxHeartbeats 40000000 in
theorem own_strBB (l : Launch) (Z : State) (a0 : Array Value) (hw : ∀ d ∈ tables_1, d.before a0 Z = true) (ws : List Jvm.Cond) (x : Addr) (t : Addr) (kt : ClassId) (ds : List Int32) (h0 : Heap) (n0 : Nat) (O0 : Old Z n0 h0) (hp0 : Exa Z h0 x "java/lang/String") (hp1 : n0 ≤ x) (hp2 : Fld Z h0 x "java/lang/String" "value" "[B" .null) (hp3 : Fld Z h0 x "java/lang/String" "coder" "B" (.int (0 : Int32))) (hp4 : Arv Z h0 t kt .byte (Int32.ofNat ds.length) ((ds.map fun c => c.toInt8.toInt32).map Value.int) (.int (0 : Int32))) (hrg : ∀ c ∈ ds, ¬ c < 0 ∧ ¬ (255 : Int32) < c) (hn4 : ds.length ≤ 4000) (hp7 : t ≠ x) :
    MetFree l (⟨"java/lang/String", "<init>", "([BB)V"⟩ : MethodName) (head1 (Jvm.Cond.code (⟨"java/lang/String", "<init>", "([BB)V"⟩ : MethodName) jdk_42_method_151_code 3 none :: ws) ({ frames := 1, cells := 0, slots := 0, locals := 12 } : Room)) (fun aa_ U_ => aa_ = #[(.ref x), (.ref t), (.int (0 : Int32))] ∧ Z.Warmed39 U_.vm ∧ U_.heap = h0) (fun _ _ _ _ _ => True) (fun _ U_ o_ V_ => ∃ v_ L_, o_ = .returned v_ ∧ Q_own_strBB Z x t kt ds h0 n0 v_ V_.heap L_ ∧ FrameEnd U_ o_ V_ L_ ({ frames := 1, cells := 0, slots := 0, locals := 12 } : Room).cells ({ frames := 1, cells := 0, slots := 0, locals := 12 } : Room).slots) := by
  refine MetFree.of_bodySF (plainFor_of_name own_pn_own_strBB) hisR ?_
  intro p e s m args below meth c s₁ Bd hml0 hP hK
  obtain ⟨rfl, hZ, hh⟩ := hP
  have hx := Bd.exec
  have hby := Bd.bytes
  have hml : c.maxLocals = 3 := hml0
  have hown : s.vm.findClass "java/lang/String" = some m.cls := findClass_of_methodNamed Bd.named
  have hnm := (name_of_methodNamed Bd.named Bd.method).1
  have X0 : Stand p l e ({ frames := 1, cells := 0, slots := 0, locals := 12 } : Room) s m #[(.ref x), (.ref t), (.int (0 : Int32))] below meth c s₁ [] 0 0 := Stand.of_body Bd
  have e0 : s₁.heap = h0 := by rw [← hh, Bd.state]; rfl
  have N0 := Fr.nil n0
  have K0 : Keep h0 h0 [x] := Keep.refl _ _
  have r0 : GoTo p.tables e below s₁ (own_F_own_strBB m x t) s₁ (mkF m 0 #[.val (.ref x), .val (.ref t), .val (.int (0 : Int32))] []) := fun tt_ kk_ => castTop (own_ef_own_strBB m x t) kk_
  obtain ⟨T1, X1, e1, st1⟩ := initO X0 hx hZ hown (hw _ (List.mem_of_getElem? (i := 55) rfl)) (hw _ (List.mem_of_getElem? (i := 56) rfl)) (hw _ (List.mem_of_getElem? (i := 57) rfl)) e0 (g := (mkF m 1 #[.val (.ref x), .val (.ref t), .val (.int (0 : Int32))] [(.ref x)])) rfl (by rw [hml]; rfl) rfl (hb hby own_d_jdk_42_method_151_code_1) (by decide) (W := 0) (by show 2 * 0 + _ ≤ _; exact Nat.le_of_eq rfl) (by decide)
  obtain ⟨T2, h2, X2, e2, W2, st2⟩ := putF X1 hx hZ hown (host := "") (Or.inl (hw _ (List.mem_of_getElem? (i := 58) rfl))) Via.refl e1 hp2 hp0 (Or.inr ⟨(hw _ (List.mem_of_getElem? (i := 59) rfl)), rfl, hnm⟩) (hw _ (List.mem_of_getElem? (i := 50) rfl)) (ty := (.array .byte)) (by decide) rfl rfl (g := (mkF m 6 #[.val (.ref x), .val (.ref t), .val (.int (0 : Int32))] [(.ref t), (.ref x)])) rfl rfl (hb hby own_d_jdk_42_method_151_code_6)
  have K3 : Keep h0 h2 [x] := K0.wr W2 (Or.inl (List.mem_of_getElem? (i := 0) rfl))
  have Fw2 : Fld Z h2 x "java/lang/String" "value" "[B" (.ref t) := hp2.same W2
  have N2 := Fr.snoc X2 N0 hp1
  have f4 : Fld Z h2 x "java/lang/String" "coder" "B" (.int (0 : Int32)) := (hp3.other W2 (Or.inr (Jvm.RoadKit.slot_ne (Or.inr (hw _ (List.mem_of_getElem? (i := 61) rfl))) (Or.inr (hw _ (List.mem_of_getElem? (i := 59) rfl))) (by decide) (t := .byte) (t' := (.array .byte)) (by decide) (by decide))))
  have f5 : Exa Z h2 x "java/lang/String" := (hp0.wr W2)
  obtain ⟨T6, h6, X6, e6, W6, st6⟩ := putFN X2 hx hZ hown (hw _ (List.mem_of_getElem? (i := 60) rfl)) Via.refl e2 f4 f5 (Or.inr ⟨(hw _ (List.mem_of_getElem? (i := 61) rfl)), rfl, hnm⟩) (hw _ (List.mem_of_getElem? (i := 50) rfl)) (ty := .byte) (v' := (.int (nar .byte (0 : Int32)))) (by decide) rfl (fits_nar_byte _) (g := (mkF m 11 #[.val (.ref x), .val (.ref t), .val (.int (0 : Int32))] [(.int (0 : Int32)), (.ref x)])) rfl rfl (hb hby own_d_jdk_42_method_151_code_11)
  have K7 : Keep h0 h6 [x] := K3.wr W6 (Or.inl (List.mem_of_getElem? (i := 0) rfl))
  have Fw6 : Fld Z h6 x "java/lang/String" "coder" "B" (.int (nar .byte (0 : Int32))) := f4.same W6
  have N6 := Fr.snoc X6 N2 hp1
  have f8 : Fld Z h6 x "java/lang/String" "coder" "B" (.int (0 : Int32)) := by rw [show (nar .byte (0 : Int32)) = (0 : Int32) from (by decide)] at Fw6; exact Fw6
  have f9 : Exa Z h6 x "java/lang/String" := (f5.wr W6)
  have f10 : Fld Z h6 x "java/lang/String" "value" "[B" (.ref t) := (Fw2.other W6 (Or.inr (Jvm.RoadKit.slot_ne (Or.inr (hw _ (List.mem_of_getElem? (i := 59) rfl))) (Or.inr (hw _ (List.mem_of_getElem? (i := 61) rfl))) (by decide) (t := (.array .byte)) (t' := .byte) (by decide) (by decide))))
  have f11 : Arv Z h6 t kt .byte (Int32.ofNat ds.length) ((ds.map fun c => c.toInt8.toInt32).map Value.int) (.int (0 : Int32)) := ((hp4.other W2 hp7).other W6 hp7)
  obtain ⟨fs, hr, hrun, hended, hW, hsame⟩ := X6.leave (v := none) (fun _ => rfl)
  refine ⟨_, _, r0 _ ?_, hrun, hended, _, _, rfl, ?_, ⟨_, rfl⟩, hW, hsame.mono (by decide) (by decide)⟩
  · show Steps p.tables e below (s₁.setTop (mkF m 0 #[.val (.ref x), .val (.ref t), .val (.int (0 : Int32))] [])) _
    refine XS.aloadN X0.here hx rfl (hb hby own_d_jdk_42_method_151_code_0) rfl rfl ?_
    show Steps p.tables e below (s₁.setTop (mkF m 1 #[.val (.ref x), .val (.ref t), .val (.int (0 : Int32))] [(.ref x)])) _
    refine st1 _ ?_
    show Steps p.tables e below (T1.setTop (mkF m 4 #[.val (.ref x), .val (.ref t), .val (.int (0 : Int32))] [])) _
    refine XS.aloadN X1.here hx rfl (hb hby own_d_jdk_42_method_151_code_4) rfl rfl ?_
    show Steps p.tables e below (T1.setTop (mkF m 5 #[.val (.ref x), .val (.ref t), .val (.int (0 : Int32))] [(.ref x)])) _
    refine XS.aloadN X1.here hx rfl (hb hby own_d_jdk_42_method_151_code_5) rfl rfl ?_
    show Steps p.tables e below (T1.setTop (mkF m 6 #[.val (.ref x), .val (.ref t), .val (.int (0 : Int32))] [(.ref t), (.ref x)])) _
    refine st2 _ ?_
    show Steps p.tables e below (T2.setTop (mkF m 9 #[.val (.ref x), .val (.ref t), .val (.int (0 : Int32))] [])) _
    refine XS.aloadN X2.here hx rfl (hb hby own_d_jdk_42_method_151_code_9) rfl rfl ?_
    show Steps p.tables e below (T2.setTop (mkF m 10 #[.val (.ref x), .val (.ref t), .val (.int (0 : Int32))] [(.ref x)])) _
    refine XS.iloadN X2.here hx rfl (hb hby own_d_jdk_42_method_151_code_10) rfl ?_
    show Steps p.tables e below (T2.setTop (mkF m 11 #[.val (.ref x), .val (.ref t), .val (.int (0 : Int32))] [(.int (0 : Int32)), (.ref x)])) _
    refine st6 _ ?_
    show Steps p.tables e below (T6.setTop (mkF m 14 #[.val (.ref x), .val (.ref t), .val (.int (0 : Int32))] [])) _
    exact X6.returnOut hx Bd.returns (hb hby own_d_jdk_42_method_151_code_14) hr
  · show Q_own_strBB Z x t kt ds h0 n0 _ T6.heap _
    rw [e6]
    exact ⟨rfl, N6, K7, ⟨f9, f10, f8, f11, hrg, hn4⟩⟩
theorem own_pn_own_ltoS : plainName "java/lang/Long" = true := by first | (simp [plainName, overriddenIn]; done) | decide +kernel
theorem own_ef_own_ltoS (m : MethodId) (vv : Int64) : entryFrame m #[(.long vv)] 4 = mkF m 0 #[.val (.long vv), .second, .unset, .unset] [] := by first | (simp [entryFrame, mkF, argsToLocals, own_cI, own_cJ, own_cR, own_cN]; done) | rfl
abbrev own_F_own_ltoS (m : MethodId) (vv : Int64) : JFrame := entryFrame m #[(.long vv)] 4
def Q_own_ltoS (Z : State) (vv : Int64) (nn : Nat) (gCS : Int32) (ist : Addr) (dt1 : Addr) (dt2 : Addr) (cD1 : Cell) (cD2 : Cell) (h0 : Heap) (n0 : Nat) (v : Option Value) (h : Heap) (L : List Loc) : Prop := ∃ (x : Addr), ∃ (t : Addr), ∃ (kt : ClassId), v = some (.ref x) ∧ Fr n0 L ∧ Keep h0 h [] ∧ (h0.size ≤ x) ∧ (h0.size ≤ t) ∧ (t ≠ x) ∧ (own_Str Z h x t kt (own_decL nn))
set_option maxRecDepth 65536 in
set_option maxHeartbeats 40000000 in
theorem own_ltoS (l : Launch) (Z : State) (a0 : Array Value) (hw : ∀ d ∈ tables_1, d.before a0 Z = true) (ws : List Jvm.Cond) (vv : Int64) (nn : Nat) (gCS : Int32) (ist : Addr) (dt1 : Addr) (dt2 : Addr) (cD1 : Cell) (cD2 : Cell) (h0 : Heap) (n0 : Nat) (O0 : Old Z n0 h0) (hvn : vv.toInt = nn) (hp1 : Sta Z Z.heap "java/lang/String" "COMPACT_STRINGS" "Z" (.int gCS)) (hG1 : ¬ gCS = (0 : Int32)) (hT1 : Jvm.Free.SBG.Tbl Z "DigitOnes" ist dt1 cD1) (hT2 : Jvm.Free.SBG.Tbl Z "DigitTens" ist dt2 cD2) (hO1 : Jvm.Free.SBG.Ones cD1) (hO2 : Jvm.Free.SBG.Tens cD2) (hp7 : ist < n0) (hp8 : dt1 < n0) (hp9 : dt2 < n0) (hD1 : Z.heap[dt1]? = some cD1) (hD2 : Z.heap[dt2]? = some cD2) :
    MetFree l (⟨"java/lang/Long", "toString", "(J)Ljava/lang/String;"⟩ : MethodName) (head1 (Jvm.Cond.code (⟨"java/lang/Long", "toString", "(J)Ljava/lang/String;"⟩ : MethodName) jdk_35_method_12_code 4 (some (.object "java/lang/String")) :: ws) ({ frames := 2, cells := 2, slots := 24, locals := 102 } : Room)) (fun aa_ U_ => aa_ = #[(.long vv)] ∧ Z.Warmed39 U_.vm ∧ U_.heap = h0) (fun _ _ _ _ _ => True) (fun _ U_ o_ V_ => ∃ v_ L_, o_ = .returned v_ ∧ Q_own_ltoS Z vv nn gCS ist dt1 dt2 cD1 cD2 h0 n0 v_ V_.heap L_ ∧ FrameEnd U_ o_ V_ L_ ({ frames := 2, cells := 2, slots := 24, locals := 102 } : Room).cells ({ frames := 2, cells := 2, slots := 24, locals := 102 } : Room).slots) := by
  refine MetFree.of_bodySF (plainFor_of_name own_pn_own_ltoS) hisR ?_
  intro p e s m args below meth c s₁ Bd hml0 hP hK
  obtain ⟨rfl, hZ, hh⟩ := hP
  have hx := Bd.exec
  have hby := Bd.bytes
  have hml : c.maxLocals = 4 := hml0
  have hown : s.vm.findClass "java/lang/Long" = some m.cls := findClass_of_methodNamed Bd.named
  have hnm := (name_of_methodNamed Bd.named Bd.method).1
  have X0 : Stand p l e ({ frames := 2, cells := 2, slots := 24, locals := 102 } : Room) s m #[(.long vv)] below meth c s₁ [] 0 0 := Stand.of_body Bd
  have e0 : s₁.heap = h0 := by rw [← hh, Bd.state]; rfl
  have N0 := Fr.nil n0
  have K0 : Keep h0 h0 [] := Keep.refl _ _
  have r0 : GoTo p.tables e below s₁ (own_F_own_ltoS m vv) s₁ (mkF m 0 #[.val (.long vv), .second, .unset, .unset] []) := fun tt_ kk_ => castTop (own_ef_own_ltoS m vv) kk_
  have hvl : nn < 2 ^ 63 := by have := vv.toInt_lt; omega
  have hv0 : ¬ vv < 0 := by rw [Int64.lt_iff_toInt_lt, hvn, show (0 : Int64).toInt = 0 from rfl]; omega
  have hneg : (if vv < 0 then vv else -vv) = Jvm.Free.SBG.negL nn := by rw [if_neg hv0]; apply Int64.toInt_inj.mp; rw [Int64.toInt_neg, hvn, Jvm.Free.SBG.negL_toInt (by omega), Int.bmod_eq_of_le (by omega) (by omega)]
  have hsg : Jvm.Free.SBG.GetCharsL.sgnL vv = 0 := if_neg hv0
  have hdg := Jvm.Free.SBG.digitsL_pos nn
  obtain ⟨_, _, ⟨T1, L1, k1, n1⟩, -, X1, ⟨⟨hh1, l1, y1, z1⟩, hv1⟩, st1⟩ := Jvm.LawKit.callS X0 hx (y := (⟨"java/lang/Long", "stringSize", "(J)I"⟩ : MethodName)) hown (mvT hZ (hw _ (List.mem_of_getElem? (i := 36) rfl))) (mvT hZ (hw _ (List.mem_of_getElem? (i := 37) rfl))) (mvT hZ (hw _ (List.mem_of_getElem? (i := 34) rfl))) (mvT hZ (hw _ (List.mem_of_getElem? (i := 38) rfl))) (by decide) (Jvm.Free.SBG.StrSizeL.pays (W := 0) (by decide) (by decide) (by simp only [Jvm.Free.SBG.StrSizeL.tab, Cond.before_and, Bool.and_eq_true]; exact ⟨mvT hZ (hw _ (List.mem_of_getElem? (i := 38) rfl)), mvT hZ (hw _ (List.mem_of_getElem? (i := 39) rfl)), mvT hZ (hw _ (List.mem_of_getElem? (i := 206) rfl))⟩) (mvT hZ (hw _ (List.mem_of_getElem? (i := 34) rfl)))) (g := (mkF m 1 #[.val (.long vv), .second, .unset, .unset] [(.long vv)])) rfl (by rw [hml]; rfl) (argsL := [(.long vv)]) (rest := []) (lenOf own_pd19 rfl) rfl (by show 2 * 0 + _ ≤ _; exact Nat.le_of_eq rfl) (hb hby own_d_jdk_35_method_12_code_1) (fun _ _ => ⟨(Nat.le_of_ble_eq_true rfl), (Nat.le_of_ble_eq_true rfl), vv, rfl⟩)
  dsimp only [Pt.U, Pt.locs, Pt.cells, Pt.slots] at X1 l1 y1 z1 st1 hh1
  subst l1 y1 z1
  obtain rfl := hv1 vv rfl
  have e1 : T1.heap = h0 := hh1.trans e0
  have r2 : GoTo p.tables e below s₁ (own_F_own_ltoS m vv) T1 (mkF m 4 #[.val (.long vv), .second, .unset, .unset] [(.int (Jvm.Free.SBG.strSizeOfL vv))]) := fun tt_ kk_ => r0 tt_ (by
      show Steps p.tables e below (s₁.setTop (mkF m 0 #[.val (.long vv), .second, .unset, .unset] [])) _
      refine XS.lloadN X0.here hx rfl (hb hby own_d_jdk_35_method_12_code_0) rfl ?_
      show Steps p.tables e below (s₁.setTop (mkF m 1 #[.val (.long vv), .second, .unset, .unset] [(.long vv)])) _
      refine st1 _ ?_
      show Steps p.tables e below (T1.setTop (mkF m 4 #[.val (.long vv), .second, .unset, .unset] [(.int (Jvm.Free.SBG.strSizeOfL vv))])) _
      exact kk_)
  have r3 : GoTo p.tables e below s₁ (own_F_own_ltoS m vv) T1 (mkF m 4 #[.val (.long vv), .second, .unset, .unset] [(.int (Int32.ofNat (Jvm.Free.SBG.digitsL nn)))]) := Eq.mp (congrArg (fun zz_ => GoTo p.tables e below s₁ (own_F_own_ltoS m vv) T1 (mkF m 4 #[.val (.long vv), .second, .unset, .unset] [(.int zz_)])) (show (Jvm.Free.SBG.strSizeOfL vv) = (Int32.ofNat (Jvm.Free.SBG.digitsL nn)) from (by rw [Jvm.Free.SBG.strSizeOfL_eq (by omega) hneg, hsg, Nat.add_zero]))) r2
  obtain ⟨T4, X4, e4, st4⟩ := getS2 X1 hx hZ hown (host := "") (Or.inl (hw _ (List.mem_of_getElem? (i := 40) rfl))) Via.refl e1 (hp1.ext (O0.keep K0 all0).2) (g := (mkF m 5 #[.val (.long vv), .second, .val (.int (Int32.ofNat (Jvm.Free.SBG.digitsL nn))), .unset] [])) rfl (hb hby own_d_jdk_35_method_12_code_5)
  obtain ⟨T5, h5, k5, X5, e5, E5, A5, Ex5, st5⟩ := newPE X4 hx hZ (hw _ (List.mem_of_getElem? (i := 42) rfl)) e4 (g := (mkF m 12 #[.val (.long vv), .second, .val (.int (Int32.ofNat (Jvm.Free.SBG.digitsL nn))), .unset] [(.int (Int32.ofNat (Jvm.Free.SBG.digitsL nn)))])) rfl (hb hby own_d_jdk_35_method_12_code_12) rfl (own_negN (by omega)) (cap := 20) (by rw [own_clamp (by omega)]; omega) (by decide) (by decide) (by decide) (ad := "[B") (by decide)
  obtain ⟨b5, gg5⟩ : ∃ z, z = h0.size := ⟨_, rfl⟩
  rw [← gg5] at A5 Ex5 st5
  have g6 : n0 ≤ b5 := Nat.le_trans (Nat.le_trans (own_le O0) K0.1) (Nat.le_of_eq gg5.symm)
  have b7 : h0.size ≤ b5 := Nat.le_trans K0.1 (Nat.le_of_eq gg5.symm)
  have K8 : Keep h0 h5 [] := K0.ext E5
  have V5 : Arv Z h5 b5 k5 .byte (Int32.ofNat (Jvm.Free.SBG.digitsL nn)) [] (.int (0 : Int32)) := Arv.new A5 (own_negN (by omega))
  have Bn : own_By Z h5 b5 k5 (Jvm.Free.SBG.digitsL nn) [] := own_By.new Ex5 (by omega) V5
  obtain ⟨vs9, hvl9, ⟨cl9, Ar9, q9, S9, NN9, H9, G9⟩, hvc9⟩ := own_By.arv Bn
  rw [own_clamp (by omega)] at S9
  have hOld : Old Z n0 h5 := (O0.keep K8 all0)
  have hTh : T5.heap = h5 := e5
  obtain ⟨_, _, ⟨T10, L10, k10, n10⟩, -, X10, ⟨hv10, hda10, y10, z10, hsz10, hko10, Lc10, l10, hbs10⟩, st10⟩ := Jvm.LawKit.callS X5 hx (y := (⟨"java/lang/Long", "getChars", "(JI[B)I"⟩ : MethodName)) hown (mvT hZ (hw _ (List.mem_of_getElem? (i := 43) rfl))) (mvT hZ (hw _ (List.mem_of_getElem? (i := 44) rfl))) (mvT hZ (hw _ (List.mem_of_getElem? (i := 34) rfl))) (mvT hZ (hw _ (List.mem_of_getElem? (i := 45) rfl))) (by decide) (Jvm.Free.SBG.GetCharsL.pays (⟨vv, nn, (Jvm.Free.SBG.digitsL nn), b5, cl9, ist, dt1, cD1, dt2, cD2⟩ : Jvm.Free.SBG.GetCharsL.G) 0 (by simp only [Jvm.Free.SBG.GetCharsL.tab, Cond.before_and, Bool.and_eq_true]; exact ⟨mvT hZ (hw _ (List.mem_of_getElem? (i := 45) rfl)), mvT hZ (hw _ (List.mem_of_getElem? (i := 47) rfl)), mvT hZ (hw _ (List.mem_of_getElem? (i := 208) rfl)), mvT hZ (hw _ (List.mem_of_getElem? (i := 46) rfl)), mvT hZ (hw _ (List.mem_of_getElem? (i := 207) rfl))⟩) (mvT hZ (hw _ (List.mem_of_getElem? (i := 34) rfl))) (by decide) (by decide)) (g := (mkF m 18 #[.val (.long vv), .second, .val (.int (Int32.ofNat (Jvm.Free.SBG.digitsL nn))), .val (.ref b5)] [(.ref b5), (.int (Int32.ofNat (Jvm.Free.SBG.digitsL nn))), (.long vv)])) rfl (by rw [hml]; rfl) (argsL := [(.long vv), (.int (Int32.ofNat (Jvm.Free.SBG.digitsL nn))), (.ref b5)]) (rest := []) (lenOf own_pd20 rfl) rfl (by show 2 * 0 + _ ≤ _; exact Nat.le_of_eq rfl) (hb hby own_d_jdk_35_method_12_code_18) (fun vm1 hW1 => ⟨rfl, (Nat.le_of_ble_eq_true rfl), (Nat.le_of_ble_eq_true rfl), rfl, (by show T5.heap[b5]? = some cl9; rw [hTh]; exact Ar9.1), State.isArrayOf_alike (hZ.alike.trans hW1.alike) Ar9.2.1, Ar9.2.2, (by show cl9.slots.size < 2 ^ 31; omega), (by show (Jvm.Free.SBG.digitsL nn) ≤ cl9.slots.size; omega), (by show (Jvm.Free.SBG.digitsL nn) + Jvm.Free.SBG.GetCharsL.sgnL vv ≤ (Jvm.Free.SBG.digitsL nn); omega), (by show nn ≤ 2 ^ 63; omega), hneg, (Jvm.Free.SBG.Tbl.move (hZ.alike.trans hW1.alike) (fun c hc => by show T5.heap[ist]? = some c; rw [hTh]; exact hOld.2.2 _ _ hc) (by show T5.heap[dt1]? = some cD1; rw [hTh]; exact hOld.2.2 _ _ hD1) hT1), (Jvm.Free.SBG.Tbl.move (hZ.alike.trans hW1.alike) (fun c hc => by show T5.heap[ist]? = some c; rw [hTh]; exact hOld.2.2 _ _ hc) (by show T5.heap[dt2]? = some cD2; rw [hTh]; exact hOld.2.2 _ _ hD2) hT2), (Ne.symm (Nat.ne_of_lt (Nat.lt_of_lt_of_le hp7 g6))), (Ne.symm (Nat.ne_of_lt (Nat.lt_of_lt_of_le hp8 g6))), (Ne.symm (Nat.ne_of_lt (Nat.lt_of_lt_of_le hp9 g6)))⟩)
  dsimp only [Pt.U, Pt.locs, Pt.cells, Pt.slots] at X10 l10 y10 z10 st10 hda10 hsz10 hko10
  subst l10 y10 z10
  obtain rfl := hv10
  obtain ⟨Kg10, Bg10⟩ := own_gcL (v := vv) (nn := nn) (h := h5) (h' := T10.heap) (cs := ([] : List Int32)) Bn Ar9.1 hO1 hO2 hv0 (by omega) (by show 0 + _ ≤ _; omega) (by rw [show ([] : List Int32).length + (Jvm.Free.SBG.digitsL nn) = (Jvm.Free.SBG.digitsL nn) from Nat.zero_add _]; exact hda10) (by rw [hsz10]; show T5.heap.size = _; rw [hTh]) (fun y cy hy hc => hko10 y cy hy (by show T5.heap[y]? = some cy; rw [hTh]; exact hc))
  have N10 := Fr.app N0 (fun y hy => by rw [hbs10 y hy]; exact g6)
  have K11 : Keep h0 T10.heap [] := K8.trans Kg10 (allS (Or.inr b7) all0)
  obtain ⟨-, -, -, vq, hq1, hq2, hq3⟩ := Bg10
  have Vq : Arv Z T10.heap b5 k5 .byte (Int32.ofNat (own_decL nn).length) (((own_decL nn).map fun c => c.toInt8.toInt32).map Value.int) (.int 0) := own_arvStr (by rw [own_decL_len]; exact hq1) hq3 (by rw [own_decL_len]; exact hq2)
  obtain ⟨T12, h12, X12, e12, E12, A12, D12, -, st12⟩ := newO X10 hx hZ hown (hw _ (List.mem_of_getElem? (i := 49) rfl)) (hw _ (List.mem_of_getElem? (i := 50) rfl)) (hw _ (List.mem_of_getElem? (i := 41) rfl)) rfl (g := (mkF m 22 #[.val (.long vv), .second, .val (.int (Int32.ofNat (Jvm.Free.SBG.digitsL nn))), .val (.ref b5)] [])) rfl (hb hby own_d_jdk_35_method_12_code_22) (by decide) (by decide)
  obtain ⟨b12, gg12⟩ : ∃ z, z = T10.heap.size := ⟨_, rfl⟩
  rw [← gg12] at A12 D12 st12
  have ne13 : b5 ≠ b12 := Nat.ne_of_lt (Nat.lt_of_lt_of_le (Nat.lt_of_lt_of_le V5.lt Kg10.1) (Nat.le_of_eq gg12.symm))
  have g14 : n0 ≤ b12 := Nat.le_trans (Nat.le_trans (own_le O0) K11.1) (Nat.le_of_eq gg12.symm)
  have b15 : h0.size ≤ b12 := Nat.le_trans K11.1 (Nat.le_of_eq gg12.symm)
  have K16 : Keep h0 h12 [] := K11.ext E12
  have f17 : Arv Z h12 b5 k5 .byte (Int32.ofNat (own_decL nn).length) (((own_decL nn).map fun c => c.toInt8.toInt32).map Value.int) (.int (0 : Int32)) := (Vq.ext E12)
  obtain ⟨_, _, ⟨T18, L18, k18, n18⟩, -, X18, ⟨Lc18, hQ18, l18, y18, z18⟩, st18⟩ := X12.specialBack hx (y := (⟨"java/lang/String", "<init>", "([BB)V"⟩ : MethodName)) rfl hown (mvT hZ (hw _ (List.mem_of_getElem? (i := 51) rfl))) (mvT hZ (hw _ (List.mem_of_getElem? (i := 52) rfl))) (mvT hZ (hw _ (List.mem_of_getElem? (i := 54) rfl))) (by decide) (backOf (W := 1) (own_strBB l Z a0 hw [] (b12) (b5) (k5) ((own_decL nn)) h12 n0 (O0.keep K16 all0) (A12) (g14) ((D12 (Or.inr (hw _ (List.mem_of_getElem? (i := 59) rfl))) (ty := (.array .byte)) (by decide))) ((D12 (Or.inr (hw _ (List.mem_of_getElem? (i := 61) rfl))) (ty := .byte) (by decide))) (f17) (own_decL_rng nn) (by rw [own_decL_len]; omega) (ne13)) hZ (hw _ (List.mem_of_getElem? (i := 54) rfl)) (hw _ (List.mem_of_getElem? (i := 41) rfl)) (by decide) (by decide)) (g := (mkF m 28 #[.val (.long vv), .second, .val (.int (Int32.ofNat (Jvm.Free.SBG.digitsL nn))), .val (.ref b5)] [(.int (0 : Int32)), (.ref b5), (.ref b12), (.ref b12)])) rfl (by rw [hml]; rfl) (Steps.refl _) (a := b12) (argsL := [(.ref b5), (.int (0 : Int32))]) (rest := [(.ref b12)]) (lenOf own_pd21 rfl) rfl (by show 2 * 0 + _ ≤ _; exact Nat.le_of_eq rfl) (hb hby own_d_jdk_35_method_12_code_28) (fun _ _ => ⟨rfl, e12, (by decide : 2 + 0 ≤ _), (by decide : 24 + 0 ≤ _)⟩)
  dsimp only [Pt.U, Pt.locs, Pt.cells, Pt.slots] at X18 l18 y18 z18 st18 hQ18
  subst l18 y18 z18
  obtain ⟨rfl, Nq18, Kq18, po18_0⟩ := hQ18
  have N18 := Fr.app N10 Nq18
  have K19 : Keep h0 T18.heap [] := K16.trans Kq18 (allS (Or.inr b15) all0)
  obtain ⟨fs, hr, hrun, hended, hW, hsame⟩ := X18.leave (v := some (.ref b12)) (fun h => by rw [Bd.returns] at h; cases h)
  refine ⟨_, _, r3 _ ?_, hrun, hended, _, _, rfl, ?_, ⟨_, rfl⟩, hW, hsame.mono (by decide) (by decide)⟩
  · show Steps p.tables e below (T1.setTop (mkF m 4 #[.val (.long vv), .second, .unset, .unset] [(.int (Int32.ofNat (Jvm.Free.SBG.digitsL nn)))])) _
    refine XS.istoreN X1.here hx rfl (hb hby own_d_jdk_35_method_12_code_4) rfl (l' := #[.val (.long vv), .second, .val (.int (Int32.ofNat (Jvm.Free.SBG.digitsL nn))), .unset]) rfl ?_
    show Steps p.tables e below (T1.setTop (mkF m 5 #[.val (.long vv), .second, .val (.int (Int32.ofNat (Jvm.Free.SBG.digitsL nn))), .unset] [])) _
    refine st4 _ ?_
    show Steps p.tables e below (T4.setTop (mkF m 8 #[.val (.long vv), .second, .val (.int (Int32.ofNat (Jvm.Free.SBG.digitsL nn))), .unset] [(.int gCS)])) _
    refine XS.ifNo X4.here hx rfl (hb hby own_d_jdk_35_method_12_code_8) rfl ((if0 _ _).trans (feq hG1).1) ?_
    show Steps p.tables e below (T4.setTop (mkF m 11 #[.val (.long vv), .second, .val (.int (Int32.ofNat (Jvm.Free.SBG.digitsL nn))), .unset] [])) _
    refine XS.iloadN X4.here hx rfl (hb hby own_d_jdk_35_method_12_code_11) rfl ?_
    show Steps p.tables e below (T4.setTop (mkF m 12 #[.val (.long vv), .second, .val (.int (Int32.ofNat (Jvm.Free.SBG.digitsL nn))), .unset] [(.int (Int32.ofNat (Jvm.Free.SBG.digitsL nn)))])) _
    refine st5 _ ?_
    show Steps p.tables e below (T5.setTop (mkF m 14 #[.val (.long vv), .second, .val (.int (Int32.ofNat (Jvm.Free.SBG.digitsL nn))), .unset] [(.ref b5)])) _
    refine XS.astoreN X5.here hx rfl (hb hby own_d_jdk_35_method_12_code_14) rfl rfl (l' := #[.val (.long vv), .second, .val (.int (Int32.ofNat (Jvm.Free.SBG.digitsL nn))), .val (.ref b5)]) rfl ?_
    show Steps p.tables e below (T5.setTop (mkF m 15 #[.val (.long vv), .second, .val (.int (Int32.ofNat (Jvm.Free.SBG.digitsL nn))), .val (.ref b5)] [])) _
    refine XS.lloadN X5.here hx rfl (hb hby own_d_jdk_35_method_12_code_15) rfl ?_
    show Steps p.tables e below (T5.setTop (mkF m 16 #[.val (.long vv), .second, .val (.int (Int32.ofNat (Jvm.Free.SBG.digitsL nn))), .val (.ref b5)] [(.long vv)])) _
    refine XS.iloadN X5.here hx rfl (hb hby own_d_jdk_35_method_12_code_16) rfl ?_
    show Steps p.tables e below (T5.setTop (mkF m 17 #[.val (.long vv), .second, .val (.int (Int32.ofNat (Jvm.Free.SBG.digitsL nn))), .val (.ref b5)] [(.int (Int32.ofNat (Jvm.Free.SBG.digitsL nn))), (.long vv)])) _
    refine XS.aloadN X5.here hx rfl (hb hby own_d_jdk_35_method_12_code_17) rfl rfl ?_
    show Steps p.tables e below (T5.setTop (mkF m 18 #[.val (.long vv), .second, .val (.int (Int32.ofNat (Jvm.Free.SBG.digitsL nn))), .val (.ref b5)] [(.ref b5), (.int (Int32.ofNat (Jvm.Free.SBG.digitsL nn))), (.long vv)])) _
    refine st10 _ ?_
    show Steps p.tables e below (T10.setTop (mkF m 21 #[.val (.long vv), .second, .val (.int (Int32.ofNat (Jvm.Free.SBG.digitsL nn))), .val (.ref b5)] [(.int (Int32.ofNat ((Jvm.Free.SBG.digitsL nn) - ((Jvm.Free.SBG.digitsL nn) + Jvm.Free.SBG.GetCharsL.sgnL vv))))])) _
    refine XS.pop X10.here hx rfl (hb hby own_d_jdk_35_method_12_code_21) rfl rfl ?_
    show Steps p.tables e below (T10.setTop (mkF m 22 #[.val (.long vv), .second, .val (.int (Int32.ofNat (Jvm.Free.SBG.digitsL nn))), .val (.ref b5)] [])) _
    refine st12 _ ?_
    show Steps p.tables e below (T12.setTop (mkF m 25 #[.val (.long vv), .second, .val (.int (Int32.ofNat (Jvm.Free.SBG.digitsL nn))), .val (.ref b5)] [(.ref b12)])) _
    refine XS.dup X12.here hx rfl (hb hby own_d_jdk_35_method_12_code_25) rfl rfl ?_
    show Steps p.tables e below (T12.setTop (mkF m 26 #[.val (.long vv), .second, .val (.int (Int32.ofNat (Jvm.Free.SBG.digitsL nn))), .val (.ref b5)] [(.ref b12), (.ref b12)])) _
    refine XS.aloadN X12.here hx rfl (hb hby own_d_jdk_35_method_12_code_26) rfl rfl ?_
    show Steps p.tables e below (T12.setTop (mkF m 27 #[.val (.long vv), .second, .val (.int (Int32.ofNat (Jvm.Free.SBG.digitsL nn))), .val (.ref b5)] [(.ref b5), (.ref b12), (.ref b12)])) _
    refine XS.iconst X12.here hx rfl (hb hby own_d_jdk_35_method_12_code_27) ?_
    show Steps p.tables e below (T12.setTop (mkF m 28 #[.val (.long vv), .second, .val (.int (Int32.ofNat (Jvm.Free.SBG.digitsL nn))), .val (.ref b5)] [(.int (0 : Int32)), (.ref b5), (.ref b12), (.ref b12)])) _
    refine st18.trans ?_
    show Steps p.tables e below (T18.setTop (mkF m 31 #[.val (.long vv), .second, .val (.int (Int32.ofNat (Jvm.Free.SBG.digitsL nn))), .val (.ref b5)] [(.ref b12)])) _
    exact retOut X18 hx (t := (.object "java/lang/String")) Bd.returns rfl (Or.inr (Or.inr (Or.inr (Or.inr ⟨rfl, rfl, rfl⟩)))) (hb hby own_d_jdk_35_method_12_code_31) hr
  · show Q_own_ltoS Z vv nn gCS ist dt1 dt2 cD1 cD2 h0 n0 _ T18.heap _
    exact ⟨b12, b5, k5, rfl, N18, K19, b15, b7, ne13, po18_0⟩
theorem own_ef_own_maxI (m : MethodId) (x : Int32) (y : Int32) : entryFrame m #[(.int x), (.int y)] 2 = mkF m 0 #[.val (.int x), .val (.int y)] [] := by first | (simp [entryFrame, mkF, argsToLocals, own_cI, own_cJ, own_cR, own_cN]; done) | rfl
abbrev own_F_own_maxI (m : MethodId) (x : Int32) (y : Int32) : JFrame := entryFrame m #[(.int x), (.int y)] 2
def Q_own_maxI (Z : State) (x : Int32) (y : Int32) (h0 : Heap) (n0 : Nat) (v : Option Value) (h : Heap) (L : List Loc) : Prop := v = some (.int (if x < y then y else x)) ∧ Fr n0 L ∧ h = h0
set_option maxRecDepth 65536 in
set_option maxHeartbeats 40000000 in
theorem own_maxI (l : Launch) (Z : State) (a0 : Array Value) (hw : ∀ d ∈ tables_1, d.before a0 Z = true) (ws : List Jvm.Cond) (x : Int32) (y : Int32) (h0 : Heap) (n0 : Nat) (O0 : Old Z n0 h0) :
    MetFree l (⟨"java/lang/Math", "max", "(II)I"⟩ : MethodName) (head1 (Jvm.Cond.code (⟨"java/lang/Math", "max", "(II)I"⟩ : MethodName) jdk_29_method_65_code 2 (some .int) :: ws) ({ frames := 0, cells := 0, slots := 0, locals := 0 } : Room)) (fun aa_ U_ => aa_ = #[(.int x), (.int y)] ∧ Z.Warmed39 U_.vm ∧ U_.heap = h0) (fun _ _ _ _ _ => True) (fun _ U_ o_ V_ => ∃ v_ L_, o_ = .returned v_ ∧ Q_own_maxI Z x y h0 n0 v_ V_.heap L_ ∧ FrameEnd U_ o_ V_ L_ ({ frames := 0, cells := 0, slots := 0, locals := 0 } : Room).cells ({ frames := 0, cells := 0, slots := 0, locals := 0 } : Room).slots) := by
  refine MetFree.of_bodySF (Jvm.Free.JP.mathPlain rfl (by decide +kernel)) hisR ?_
  intro p e s m args below meth c s₁ Bd hml0 hP hK
  obtain ⟨rfl, hZ, hh⟩ := hP
  have hx := Bd.exec
  have hby := Bd.bytes
  have hml : c.maxLocals = 2 := hml0
  have hown : s.vm.findClass "java/lang/Math" = some m.cls := findClass_of_methodNamed Bd.named
  have hnm := (name_of_methodNamed Bd.named Bd.method).1
  have X0 : Stand p l e ({ frames := 0, cells := 0, slots := 0, locals := 0 } : Room) s m #[(.int x), (.int y)] below meth c s₁ [] 0 0 := Stand.of_body Bd
  have e0 : s₁.heap = h0 := by rw [← hh, Bd.state]; rfl
  have N0 := Fr.nil n0
  have K0 : Keep h0 h0 [] := Keep.refl _ _
  have r0 : GoTo p.tables e below s₁ (own_F_own_maxI m x y) s₁ (mkF m 0 #[.val (.int x), .val (.int y)] []) := fun tt_ kk_ => castTop (own_ef_own_maxI m x y) kk_
  have r1 : GoTo p.tables e below s₁ (own_F_own_maxI m x y) s₁ (mkF m 2 #[.val (.int x), .val (.int y)] [(.int y), (.int x)]) := fun tt_ kk_ => r0 tt_ (by
      show Steps p.tables e below (s₁.setTop (mkF m 0 #[.val (.int x), .val (.int y)] [])) _
      refine XS.iloadN X0.here hx rfl (hb hby own_d_jdk_29_method_65_code_0) rfl ?_
      show Steps p.tables e below (s₁.setTop (mkF m 1 #[.val (.int x), .val (.int y)] [(.int x)])) _
      refine XS.iloadN X0.here hx rfl (hb hby own_d_jdk_29_method_65_code_1) rfl ?_
      show Steps p.tables e below (s₁.setTop (mkF m 2 #[.val (.int x), .val (.int y)] [(.int y), (.int x)])) _
      exact kk_)
  by_cases hc2 : x < y
  · obtain ⟨fs, hr, hrun, hended, hW, hsame⟩ := X0.leave (v := some (.int y)) (fun h => by rw [Bd.returns] at h; cases h)
    refine ⟨_, _, r1 _ ?_, hrun, hended, _, _, rfl, ?_, ⟨_, rfl⟩, hW, hsame.mono (by decide) (by decide)⟩
    · show Steps p.tables e below (s₁.setTop (mkF m 2 #[.val (.int x), .val (.int y)] [(.int y), (.int x)])) _
      refine XS.icmpYes X0.here hx rfl (pc0 := 2) (pc' := 9) rfl (hb hby own_d_jdk_29_method_65_code_2) rfl (tlt hc2).1 (by decide) (by decide) ?_
      show Steps p.tables e below (s₁.setTop (mkF m 9 #[.val (.int x), .val (.int y)] [])) _
      refine XS.iloadN X0.here hx rfl (hb hby own_d_jdk_29_method_65_code_9) rfl ?_
      show Steps p.tables e below (s₁.setTop (mkF m 10 #[.val (.int x), .val (.int y)] [(.int y)])) _
      exact retI X0 hx Bd.returns (hb hby own_d_jdk_29_method_65_code_10) hr
    · show Q_own_maxI Z x y h0 n0 _ s₁.heap _
      rw [e0]
      exact ⟨(by rw [if_pos hc2]), N0, rfl⟩
  · obtain ⟨fs, hr, hrun, hended, hW, hsame⟩ := X0.leave (v := some (.int x)) (fun h => by rw [Bd.returns] at h; cases h)
    refine ⟨_, _, r1 _ ?_, hrun, hended, _, _, rfl, ?_, ⟨_, rfl⟩, hW, hsame.mono (by decide) (by decide)⟩
    · show Steps p.tables e below (s₁.setTop (mkF m 2 #[.val (.int x), .val (.int y)] [(.int y), (.int x)])) _
      refine XS.icmpNo X0.here hx rfl (hb hby own_d_jdk_29_method_65_code_2) rfl (flt hc2).1 ?_
      show Steps p.tables e below (s₁.setTop (mkF m 5 #[.val (.int x), .val (.int y)] [])) _
      refine XS.iloadN X0.here hx rfl (hb hby own_d_jdk_29_method_65_code_5) rfl ?_
      show Steps p.tables e below (s₁.setTop (mkF m 6 #[.val (.int x), .val (.int y)] [(.int x)])) _
      refine XS.goto X0.here hx rfl (pc0 := 6) (pc' := 10) rfl (hb hby own_d_jdk_29_method_65_code_6) (by decide) (by decide) ?_
      show Steps p.tables e below (s₁.setTop (mkF m 10 #[.val (.int x), .val (.int y)] [(.int x)])) _
      exact retI X0 hx Bd.returns (hb hby own_d_jdk_29_method_65_code_10) hr
    · show Q_own_maxI Z x y h0 n0 _ s₁.heap _
      rw [e0]
      exact ⟨(by rw [if_neg hc2]), N0, rfl⟩
theorem own_pn_own_rep : plainName "java/lang/String" = true := by first | (simp [plainName, overriddenIn]; done) | decide +kernel
theorem own_ef_own_rep (m : MethodId) (y : Addr) (cnt : Nat) : entryFrame m #[(.ref y), (.int (Int32.ofNat cnt))] 5 = mkF m 0 #[.val (.ref y), .val (.int (Int32.ofNat cnt)), .unset, .unset, .unset] [] := by first | (simp [entryFrame, mkF, argsToLocals, own_cI, own_cJ, own_cR, own_cN]; done) | rfl
abbrev own_F_own_rep (m : MethodId) (y : Addr) (cnt : Nat) : JFrame := entryFrame m #[(.ref y), (.int (Int32.ofNat cnt))] 5
def Q_own_rep (Z : State) (y : Addr) (ty : Addr) (ky : ClassId) (cnt : Nat) (h0 : Heap) (n0 : Nat) (v : Option Value) (h : Heap) (L : List Loc) : Prop := ∃ (x : Addr), ∃ (t : Addr), ∃ (kt : ClassId), v = some (.ref x) ∧ Fr n0 L ∧ Keep h0 h [] ∧ (own_Str Z h x t kt (List.replicate cnt (48 : Int32))) ∧ (cnt ≤ 1 ∨ h0.size ≤ t)
set_option maxRecDepth 65536 in
set_option maxHeartbeats 40000000 in
theorem own_rep (l : Launch) (Z : State) (a0 : Array Value) (hw : ∀ d ∈ tables_1, d.before a0 Z = true) (ws : List Jvm.Cond) (y : Addr) (ty : Addr) (ky : ClassId) (cnt : Nat) (h0 : Heap) (n0 : Nat) (O0 : Old Z n0 h0) (hp0 : own_Str Z h0 y ty ky ([48] : List Int32)) (hc60 : cnt ≤ 60) (hEL : EW Z a0 consts_1) :
    MetFree l (⟨"java/lang/String", "repeat", "(I)Ljava/lang/String;"⟩ : MethodName) (head1 (Jvm.Cond.code (⟨"java/lang/String", "repeat", "(I)Ljava/lang/String;"⟩ : MethodName) jdk_42_method_145_code 5 (some (.object "java/lang/String")) :: ws) ({ frames := 2, cells := 2, slots := 64, locals := 55 } : Room)) (fun aa_ U_ => aa_ = #[(.ref y), (.int (Int32.ofNat cnt))] ∧ Z.Warmed39 U_.vm ∧ U_.heap = h0 ∧ CHv Z consts_1 U_.vm h0) (fun _ _ _ _ _ => True) (fun _ U_ o_ V_ => ∃ v_ L_, o_ = .returned v_ ∧ Q_own_rep Z y ty ky cnt h0 n0 v_ V_.heap L_ ∧ CHr Z consts_1 U_.vm U_.heap V_.vm V_.heap ∧ ReturnedEndW U_ o_ V_ L_ ({ frames := 2, cells := 2, slots := 64, locals := 55 } : Room).cells ({ frames := 2, cells := 2, slots := 64, locals := 55 } : Room).slots) := by
  refine MetFree.of_bodySF (plainFor_of_name own_pn_own_rep) hisR ?_
  intro p e s m args below meth c s₁ Bd hml0 hP hK
  obtain ⟨rfl, hZ, hh, hC0⟩ := hP
  have hx := Bd.exec
  have hby := Bd.bytes
  have hml : c.maxLocals = 5 := hml0
  have hown : s.vm.findClass "java/lang/String" = some m.cls := findClass_of_methodNamed Bd.named
  have hnm := (name_of_methodNamed Bd.named Bd.method).1
  have X0 : Stand p l e ({ frames := 2, cells := 2, slots := 64, locals := 55 } : Room) s m #[(.ref y), (.int (Int32.ofNat cnt))] below meth c s₁ [] 0 0 := Stand.of_body Bd
  have e0 : s₁.heap = h0 := by rw [← hh, Bd.state]; rfl
  have N0 := Fr.nil n0
  have hS0 : s.Since s.vm 0 := (State.WarmedH.refl s).since 0
  have CA0 : CHr Z consts_1 s.vm h0 s.vm h0 := CHr.refl hC0
  have KA0 : Keep h0 h0 [] := Keep.refl _ _
  have K0 : Keep h0 h0 [] := Keep.refl _ _
  have r0 : GoTo p.tables e below s₁ (own_F_own_rep m y cnt) s₁ (mkF m 0 #[.val (.ref y), .val (.int (Int32.ofNat cnt)), .unset, .unset, .unset] []) := fun tt_ kk_ => castTop (own_ef_own_rep m y cnt) kk_
  have hA1 : Arv Z h0 ty ky .byte (1 : Int32) [(.int (48 : Int32))] (.int (0 : Int32)) := by have q := hp0.2.2.2.1; rw [show ((([48] : List Int32).map fun c => c.toInt8.toInt32).map Value.int) = [.int 48] from by decide +kernel] at q; exact q
  have r1 : GoTo p.tables e below s₁ (own_F_own_rep m y cnt) s₁ (mkF m 34 #[.val (.ref y), .val (.int (Int32.ofNat cnt)), .unset, .unset, .unset] [(.int (1 : Int32)), (.int (Int32.ofNat cnt))]) := fun tt_ kk_ => r0 tt_ (by
      show Steps p.tables e below (s₁.setTop (mkF m 0 #[.val (.ref y), .val (.int (Int32.ofNat cnt)), .unset, .unset, .unset] [])) _
      refine XS.iloadN X0.here hx rfl (hb hby own_d_jdk_42_method_145_code_0) rfl ?_
      show Steps p.tables e below (s₁.setTop (mkF m 1 #[.val (.ref y), .val (.int (Int32.ofNat cnt)), .unset, .unset, .unset] [(.int (Int32.ofNat cnt))])) _
      refine XS.ifYes X0.here hx rfl (pc0 := 1) (pc' := 32) rfl (hb hby own_d_jdk_42_method_145_code_1) rfl ((if0 _ _).trans (flt (own_negN (by omega))).2.1) (by decide) (by decide) ?_
      show Steps p.tables e below (s₁.setTop (mkF m 32 #[.val (.ref y), .val (.int (Int32.ofNat cnt)), .unset, .unset, .unset] [])) _
      refine XS.iloadN X0.here hx rfl (hb hby own_d_jdk_42_method_145_code_32) rfl ?_
      show Steps p.tables e below (s₁.setTop (mkF m 33 #[.val (.ref y), .val (.int (Int32.ofNat cnt)), .unset, .unset, .unset] [(.int (Int32.ofNat cnt))])) _
      refine XS.iconst X0.here hx rfl (hb hby own_d_jdk_42_method_145_code_33) ?_
      show Steps p.tables e below (s₁.setTop (mkF m 34 #[.val (.ref y), .val (.int (Int32.ofNat cnt)), .unset, .unset, .unset] [(.int (1 : Int32)), (.int (Int32.ofNat cnt))])) _
      exact kk_)
  by_cases hc1 : cnt = 1
  · have C2 : CHr Z consts_1 s.vm h0 s.vm h0 := CHr.keep K0 all0 hC0
    have CAe : CHr Z consts_1 s.vm h0 s.vm h0 := CA0.trans C2
    have CAf : CHr Z consts_1 s.vm h0 s₁.vm h0 := CAe.trans (CHv.at (s := s) (vm0 := s.vm) X0 hZ hEL CAe.1)
    obtain ⟨fs, hr, hrun, hended, hRW⟩ := Stand.leaveW (s := s) (vm₁ := s.vm) X0 hS0 (by rw [e0]; exact (Nat.le_trans (Nat.zero_le _) K0.1)) (v := some (.ref y)) (fun h => by rw [Bd.returns] at h; cases h)
    refine ⟨_, _, r1 _ ?_, hrun, hended, _, _, rfl, ?_, (by show CHr Z consts_1 s.vm s.heap s₁.vm s₁.heap; rw [hh, e0]; exact CAf), ⟨hRW.1, hRW.2.1, hRW.2.2.1, hRW.2.2.2.mono (by decide) (by decide)⟩⟩
    · show Steps p.tables e below (s₁.setTop (mkF m 34 #[.val (.ref y), .val (.int (Int32.ofNat cnt)), .unset, .unset, .unset] [(.int (1 : Int32)), (.int (Int32.ofNat cnt))])) _
      refine XS.icmpNo X0.here hx rfl (hb hby own_d_jdk_42_method_145_code_34) rfl (teq ((own_eqN (b := 1) (by omega) (by decide)).mpr hc1)).2 ?_
      show Steps p.tables e below (s₁.setTop (mkF m 37 #[.val (.ref y), .val (.int (Int32.ofNat cnt)), .unset, .unset, .unset] [])) _
      refine XS.aloadN X0.here hx rfl (hb hby own_d_jdk_42_method_145_code_37) rfl rfl ?_
      show Steps p.tables e below (s₁.setTop (mkF m 38 #[.val (.ref y), .val (.int (Int32.ofNat cnt)), .unset, .unset, .unset] [(.ref y)])) _
      exact retOut X0 hx (t := (.object "java/lang/String")) Bd.returns rfl (Or.inr (Or.inr (Or.inr (Or.inr ⟨rfl, rfl, rfl⟩)))) (hb hby own_d_jdk_42_method_145_code_38) hr
    · show Q_own_rep Z y ty ky cnt h0 n0 _ s₁.heap _
      rw [e0]
      exact ⟨y, ty, ky, rfl, N0, (KA0.trans K0 all0), (by rw [hc1]; exact hp0), Or.inl (by omega)⟩
  · obtain ⟨T3, X3, e3, st3⟩ := getF X0 hx hZ hown (host := "") (Or.inl (hw _ (List.mem_of_getElem? (i := 58) rfl))) Via.refl e0 hp0.2.1 (g := (mkF m 40 #[.val (.ref y), .val (.int (Int32.ofNat cnt)), .unset, .unset, .unset] [(.ref y)])) rfl rfl (hb hby own_d_jdk_42_method_145_code_40)
    obtain ⟨cl4, Ar4, q4, S4, NN4, H4, G4⟩ := id hA1
    have r5 : GoTo p.tables e below s₁ (own_F_own_rep m y cnt) T3 (mkF m 50 #[.val (.ref y), .val (.int (Int32.ofNat cnt)), .val (.int (1 : Int32)), .unset, .unset] [(.int (Int32.ofNat cnt))]) := fun tt_ kk_ => r1 tt_ (by
        show Steps p.tables e below (s₁.setTop (mkF m 34 #[.val (.ref y), .val (.int (Int32.ofNat cnt)), .unset, .unset, .unset] [(.int (1 : Int32)), (.int (Int32.ofNat cnt))])) _
        refine XS.icmpYes X0.here hx rfl (pc0 := 34) (pc' := 39) rfl (hb hby own_d_jdk_42_method_145_code_34) rfl (feq (fun q => hc1 ((own_eqN (b := 1) (by omega) (by decide)).mp q))).2 (by decide) (by decide) ?_
        show Steps p.tables e below (s₁.setTop (mkF m 39 #[.val (.ref y), .val (.int (Int32.ofNat cnt)), .unset, .unset, .unset] [])) _
        refine XS.aloadN X0.here hx rfl (hb hby own_d_jdk_42_method_145_code_39) rfl rfl ?_
        show Steps p.tables e below (s₁.setTop (mkF m 40 #[.val (.ref y), .val (.int (Int32.ofNat cnt)), .unset, .unset, .unset] [(.ref y)])) _
        refine st3 _ ?_
        show Steps p.tables e below (T3.setTop (mkF m 43 #[.val (.ref y), .val (.int (Int32.ofNat cnt)), .unset, .unset, .unset] [(.ref ty)])) _
        refine X3.arraylength hx (by rw [e3]; exact Ar4.1) (State.isArrayOf_alike hZ.alike Ar4.2.1) (g := (mkF m 43 #[.val (.ref y), .val (.int (Int32.ofNat cnt)), .unset, .unset, .unset] [(.ref ty)])) rfl rfl (hb hby own_d_jdk_42_method_145_code_43) _ ?_
        rw [len_of S4 NN4]
        show Steps p.tables e below (T3.setTop (mkF m 44 #[.val (.ref y), .val (.int (Int32.ofNat cnt)), .unset, .unset, .unset] [(.int (1 : Int32))])) _
        refine XS.istoreN X3.here hx rfl (hb hby own_d_jdk_42_method_145_code_44) rfl (l' := #[.val (.ref y), .val (.int (Int32.ofNat cnt)), .val (.int (1 : Int32)), .unset, .unset]) rfl ?_
        show Steps p.tables e below (T3.setTop (mkF m 45 #[.val (.ref y), .val (.int (Int32.ofNat cnt)), .val (.int (1 : Int32)), .unset, .unset] [])) _
        refine XS.iloadN X3.here hx rfl (hb hby own_d_jdk_42_method_145_code_45) rfl ?_
        show Steps p.tables e below (T3.setTop (mkF m 46 #[.val (.ref y), .val (.int (Int32.ofNat cnt)), .val (.int (1 : Int32)), .unset, .unset] [(.int (1 : Int32))])) _
        refine XS.ifNo X3.here hx rfl (hb hby own_d_jdk_42_method_145_code_46) rfl ((if0 _ _).trans (feq (by decide)).1) ?_
        show Steps p.tables e below (T3.setTop (mkF m 49 #[.val (.ref y), .val (.int (Int32.ofNat cnt)), .val (.int (1 : Int32)), .unset, .unset] [])) _
        refine XS.iloadN X3.here hx rfl (hb hby own_d_jdk_42_method_145_code_49) rfl ?_
        show Steps p.tables e below (T3.setTop (mkF m 50 #[.val (.ref y), .val (.int (Int32.ofNat cnt)), .val (.int (1 : Int32)), .unset, .unset] [(.int (Int32.ofNat cnt))])) _
        exact kk_)
    by_cases hc0 : cnt = 0
    · have r6 : GoTo p.tables e below s₁ (own_F_own_rep m y cnt) T3 (mkF m 53 #[.val (.ref y), .val (.int (Int32.ofNat cnt)), .val (.int (1 : Int32)), .unset, .unset] []) := fun tt_ kk_ => r5 tt_ (by
          show Steps p.tables e below (T3.setTop (mkF m 50 #[.val (.ref y), .val (.int (Int32.ofNat cnt)), .val (.int (1 : Int32)), .unset, .unset] [(.int (Int32.ofNat cnt))])) _
          refine XS.ifNo X3.here hx rfl (hb hby own_d_jdk_42_method_145_code_50) rfl ((if0 _ _).trans (teq ((own_eqN (b := 0) (by omega) (by decide)).mpr hc0)).2) ?_
          show Steps p.tables e below (T3.setTop (mkF m 53 #[.val (.ref y), .val (.int (Int32.ofNat cnt)), .val (.int (1 : Int32)), .unset, .unset] [])) _
          exact kk_)
      have C7 : CHr Z consts_1 s.vm h0 s.vm h0 := CHr.keep K0 all0 hC0
      obtain ⟨a8, T8, h8, k8, t8, kb8, X8, e8, E8, hS8, hk8, hZ, hown, Ea8, Fc8, Fv8, Av8, la8, lb8, CC8, -, hne8, st8⟩ := ldcCH (s := s) (vm0 := s.vm) X3 hx hZ hown (hw _ (List.mem_of_getElem? (i := 209) rfl)) (fun d hd => hw d (own_in_sa d hd)) e3 hS0 (Nat.le_trans (Nat.zero_le _) K0.1) hEL (List.mem_of_getElem? (i := 1) rfl) C7.1 (vs := ((([] : List Int32).map fun c => c.toInt8.toInt32).map Value.int)) (z := Int32.ofNat ([] : List Int32).length) (by refine ⟨by decide, ?_⟩; first | rfl | decide +kernel) (by decide) (by decide) (g := (mkF m 53 #[.val (.ref y), .val (.int (Int32.ofNat cnt)), .val (.int (1 : Int32)), .unset, .unset] [])) rfl (hb hby own_d_jdk_42_method_145_code_53) (n := 0) (by decide) (by decide) (by decide) (by decide)
      have K9 : Keep h0 h8 [] := K0.ext E8
      have CA10 : CHr Z consts_1 s.vm h0 T8.vm h8 := (CA0.trans C7).trans CC8
      have KA11 : Keep h0 h8 [] := KA0.trans K9 all0
      have O12 : Old Z n0 h8 := (O0.keep K9 all0)
      have K13 : Keep h8 h8 [] := Keep.refl _ _
      have Sr8 : own_Str Z h8 a8 t8 kb8 ([] : List Int32) := ⟨Ea8, Fv8, Fc8, Av8, own_all0, by decide⟩
      have C14 : CHr Z consts_1 T8.vm h8 T8.vm h8 := CHr.keep K13 all0 CC8.1
      have CAe : CHr Z consts_1 s.vm h0 T8.vm h8 := CA10.trans C14
      have CAf : CHr Z consts_1 s.vm h0 T8.vm h8 := CAe.trans (CHv.at (s := s) (vm0 := T8.vm) X8 hZ hEL CAe.1)
      obtain ⟨fs, hr, hrun, hended, hRW⟩ := Stand.leaveW (s := s) (vm₁ := T8.vm) X8 hS8 (by rw [e8]; exact (Nat.le_trans hk8 K13.1)) (v := some (.ref a8)) (fun h => by rw [Bd.returns] at h; cases h)
      refine ⟨_, _, r6 _ ?_, hrun, hended, _, _, rfl, ?_, (by show CHr Z consts_1 s.vm s.heap T8.vm T8.heap; rw [hh, e8]; exact CAf), ⟨hRW.1, hRW.2.1, hRW.2.2.1, hRW.2.2.2.mono (by decide) (by decide)⟩⟩
      · show Steps p.tables e below (T3.setTop (mkF m 53 #[.val (.ref y), .val (.int (Int32.ofNat cnt)), .val (.int (1 : Int32)), .unset, .unset] [])) _
        refine st8 _ ?_
        show Steps p.tables e below (T8.setTop (mkF m 55 #[.val (.ref y), .val (.int (Int32.ofNat cnt)), .val (.int (1 : Int32)), .unset, .unset] [(.ref a8)])) _
        exact retOut X8 hx (t := (.object "java/lang/String")) Bd.returns rfl (Or.inr (Or.inr (Or.inr (Or.inr ⟨rfl, rfl, rfl⟩)))) (hb hby own_d_jdk_42_method_145_code_55) hr
      · show Q_own_rep Z y ty ky cnt h0 n0 _ T8.heap _
        rw [e8]
        exact ⟨a8, t8, kb8, rfl, N0, (KA11.trans K13 all0), (by rw [hc0]; exact Sr8), Or.inl (by omega)⟩
    · obtain ⟨T15, h15, k15, X15, e15, E15, A15, Ex15, st15⟩ := newPE X3 hx hZ (hw _ (List.mem_of_getElem? (i := 42) rfl)) e3 (g := (mkF m 82 #[.val (.ref y), .val (.int (Int32.ofNat cnt)), .val (.int (1 : Int32)), .unset, .unset] [(.int (Int32.ofNat cnt))])) rfl (hb hby own_d_jdk_42_method_145_code_82) rfl (own_negN (by omega)) (cap := 60) (by rw [own_clamp (by omega)]; exact hc60) (by decide) (by decide) (by decide) (ad := "[B") (by decide)
      obtain ⟨b15, gg15⟩ : ∃ z, z = h0.size := ⟨_, rfl⟩
      rw [← gg15] at A15 Ex15 st15
      have ne16 : y ≠ b15 := Nat.ne_of_lt (Nat.lt_of_lt_of_le hp0.1.lt (Nat.le_of_eq gg15.symm))
      have ne17 : ty ≠ b15 := Nat.ne_of_lt (Nat.lt_of_lt_of_le hp0.2.2.2.1.lt (Nat.le_of_eq gg15.symm))
      have g18 : n0 ≤ b15 := Nat.le_trans (Nat.le_trans (own_le O0) K0.1) (Nat.le_of_eq gg15.symm)
      have b19 : h0.size ≤ b15 := Nat.le_trans K0.1 (Nat.le_of_eq gg15.symm)
      have K20 : Keep h0 h15 [] := K0.ext E15
      have V15 : Arv Z h15 b15 k15 .byte (Int32.ofNat cnt) [] (.int (0 : Int32)) := Arv.new A15 (own_negN (by omega))
      have Vp : Arv Z h15 b15 k15 .byte (Int32.ofNat cnt) (List.replicate cnt (Value.int 0)) (.int 0) := V15.pad (fun i => by rw [own_getD_rep]; simp)
      have f21 : Fld Z h15 y "java/lang/String" "value" "[B" (.ref ty) := (hp0.2.1.ext E15)
      obtain ⟨T22, X22, e22, st22⟩ := getF X15 hx hZ hown (host := "") (Or.inl (hw _ (List.mem_of_getElem? (i := 58) rfl))) Via.refl e15 f21 (g := (mkF m 87 #[.val (.ref y), .val (.int (Int32.ofNat cnt)), .val (.int (1 : Int32)), .val (.ref b15), .unset] [(.ref y), (.ref b15)])) rfl rfl (hb hby own_d_jdk_42_method_145_code_87)
      have f23 : Arv Z h15 ty ky .byte (1 : Int32) [(.int (48 : Int32))] (.int (0 : Int32)) := (hA1.ext E15)
      obtain ⟨cl24, Ar24, q24, S24, NN24, H24, G24⟩ := id f23
      have hin24 : ¬ ((0 : Int32) < 0 ∨ cl24.slots.size ≤ ((0 : Int32)).toNatClampNeg) := inb_of S24 ⟨by decide, by decide⟩
      obtain ⟨cl25, Ar25, q25, S25, NN25, H25, G25⟩ := id Vp
      have hTh : T22.heap = h15 := e22
      rw [own_clamp (by omega)] at S25
      obtain ⟨_, _, ⟨T26, L26, k26, n26⟩, -, X26, ⟨hv26, l26, y26, z26, A26, hda26, hc126, hc226, hc326, hc426, hc526, hc626⟩, st26⟩ := Jvm.LawKit.callS X22 hx (y := (⟨"java/util/Arrays", "fill", "([BB)V"⟩ : MethodName)) hown (mvT hZ (hw _ (List.mem_of_getElem? (i := 226) rfl))) (mvT hZ (hw _ (List.mem_of_getElem? (i := 227) rfl))) (mvT hZ (hw _ (List.mem_of_getElem? (i := 170) rfl))) (mvT hZ (hw _ (List.mem_of_getElem? (i := 228) rfl))) (by decide) (Jvm.Free.Str.FIL.pays (W := 0) b15 cl25 (48 : Int32) (by simp only [Jvm.Free.Str.FIL.tab, Cond.before_and, Bool.and_eq_true]; exact ⟨mvT hZ (hw _ (List.mem_of_getElem? (i := 228) rfl)), mvT hZ (hw _ (List.mem_of_getElem? (i := 170) rfl))⟩) (by decide) (by decide)) (g := (mkF m 92 #[.val (.ref y), .val (.int (Int32.ofNat cnt)), .val (.int (1 : Int32)), .val (.ref b15), .unset] [(.int (48 : Int32)), (.ref b15)])) rfl (by rw [hml]; rfl) (argsL := [(.ref b15), (.int (48 : Int32))]) (rest := []) (lenOf own_pd21 rfl) rfl (by show 2 * 0 + _ ≤ _; exact Nat.le_of_eq rfl) (hb hby own_d_jdk_42_method_145_code_92) (fun vm1 hW1 => ⟨(Nat.le_of_ble_eq_true rfl), (Nat.le_of_ble_eq_true rfl), rfl, ⟨(by show T22.heap[b15]? = some cl25; rw [hTh]; exact Ar25.1), State.isArrayOf_alike (hZ.alike.trans hW1.alike) Ar25.2.1, Ar25.2.2, (by omega), (fun i hi => by have e := H25 i hi; rw [own_getD_rep] at e; rw [e]; simp [Jvm.Lib.StringLatin1.equals.intAt, e])⟩, (by decide)⟩)
      dsimp only [Pt.U, Pt.locs, Pt.cells, Pt.slots] at X26 l26 y26 z26 st26 hda26 hc526 hc626
      subst l26 y26 z26
      obtain rfl := hv26
      obtain ⟨Kg26, Vg26⟩ := own_fil (h := h15) (h' := T26.heap) (x := (48 : Int32)) (n := cnt) Vp Ar25.1 hda26 hc126 hc226 hc326 hc426 (fun y hy => by rw [hc526 y hy]; show T22.heap[y]? = _; rw [hTh]) (by rw [hc626]; show T22.heap.size = _; rw [hTh]) (by decide) (own_clamp (by omega))
      have N26 := Fr.app N0 (show Fr n0 (copyLocs b15 0 cl25.slots.size) from fun y hy => by rw [own_cpb y hy]; exact g18)
      have K27 : Keep h0 T26.heap [] := K20.trans Kg26 (allS (Or.inr b19) all0)
      have Vr : Arv Z T26.heap b15 k15 .byte (Int32.ofNat (List.replicate cnt (48 : Int32)).length) (((List.replicate cnt (48 : Int32)).map fun c => c.toInt8.toInt32).map Value.int) (.int 0) := own_repArv Vg26
      obtain ⟨T28, h28, X28, e28, E28, A28, D28, -, st28⟩ := newO X26 hx hZ hown (hw _ (List.mem_of_getElem? (i := 229) rfl)) (hw _ (List.mem_of_getElem? (i := 50) rfl)) (hw _ (List.mem_of_getElem? (i := 41) rfl)) rfl (g := (mkF m 95 #[.val (.ref y), .val (.int (Int32.ofNat cnt)), .val (.int (1 : Int32)), .val (.ref b15), .unset] [])) rfl (hb hby own_d_jdk_42_method_145_code_95) (by decide) (by decide)
      obtain ⟨b28, gg28⟩ : ∃ z, z = T26.heap.size := ⟨_, rfl⟩
      rw [← gg28] at A28 D28 st28
      have ne29 : y ≠ b28 := Nat.ne_of_lt (Nat.lt_of_lt_of_le (Nat.lt_of_lt_of_le hp0.1.lt (Nat.le_trans E15.1 Kg26.1)) (Nat.le_of_eq gg28.symm))
      have ne30 : ty ≠ b28 := Nat.ne_of_lt (Nat.lt_of_lt_of_le (Nat.lt_of_lt_of_le hp0.2.2.2.1.lt (Nat.le_trans E15.1 Kg26.1)) (Nat.le_of_eq gg28.symm))
      have ne31 : b15 ≠ b28 := Nat.ne_of_lt (Nat.lt_of_lt_of_le (Nat.lt_of_lt_of_le V15.lt Kg26.1) (Nat.le_of_eq gg28.symm))
      have g32 : n0 ≤ b28 := Nat.le_trans (Nat.le_trans (own_le O0) K27.1) (Nat.le_of_eq gg28.symm)
      have b33 : h0.size ≤ b28 := Nat.le_trans K27.1 (Nat.le_of_eq gg28.symm)
      have K34 : Keep h0 h28 [] := K27.ext E28
      have f35 : Fld Z h28 y "java/lang/String" "coder" "B" (.int (0 : Int32)) := (((hp0.2.2.1.ext E15).keep Kg26 (ninS ne16 nin0)).ext E28)
      obtain ⟨T36, X36, e36, st36⟩ := getF X28 hx hZ hown (host := "") (Or.inl (hw _ (List.mem_of_getElem? (i := 60) rfl))) Via.refl e28 f35 (g := (mkF m 101 #[.val (.ref y), .val (.int (Int32.ofNat cnt)), .val (.int (1 : Int32)), .val (.ref b15), .unset] [(.ref y), (.ref b15), (.ref b28), (.ref b28)])) rfl rfl (hb hby own_d_jdk_42_method_145_code_101)
      have f37 : Arv Z h28 b15 k15 .byte (Int32.ofNat (List.replicate cnt (48 : Int32)).length) (((List.replicate cnt (48 : Int32)).map fun c => c.toInt8.toInt32).map Value.int) (.int (0 : Int32)) := (Vr.ext E28)
      obtain ⟨_, _, ⟨T38, L38, k38, n38⟩, -, X38, ⟨Lc38, hQ38, l38, y38, z38⟩, st38⟩ := X36.specialBack hx (y := (⟨"java/lang/String", "<init>", "([BB)V"⟩ : MethodName)) rfl hown (mvT hZ (hw _ (List.mem_of_getElem? (i := 230) rfl))) (mvT hZ (hw _ (List.mem_of_getElem? (i := 52) rfl))) (mvT hZ (hw _ (List.mem_of_getElem? (i := 54) rfl))) (by decide) (backOf (W := 1) (own_strBB l Z a0 hw [] (b28) (b15) (k15) ((List.replicate cnt (48 : Int32))) h28 n0 (O0.keep K34 all0) (A28) (g32) ((D28 (Or.inr (hw _ (List.mem_of_getElem? (i := 59) rfl))) (ty := (.array .byte)) (by decide))) ((D28 (Or.inr (hw _ (List.mem_of_getElem? (i := 61) rfl))) (ty := .byte) (by decide))) (f37) (own_repRng cnt) (by rw [List.length_replicate]; omega) (ne31)) hZ (hw _ (List.mem_of_getElem? (i := 54) rfl)) (hw _ (List.mem_of_getElem? (i := 41) rfl)) (by decide) (by decide)) (g := (mkF m 104 #[.val (.ref y), .val (.int (Int32.ofNat cnt)), .val (.int (1 : Int32)), .val (.ref b15), .unset] [(.int (0 : Int32)), (.ref b15), (.ref b28), (.ref b28)])) rfl (by rw [hml]; rfl) (Steps.refl _) (a := b28) (argsL := [(.ref b15), (.int (0 : Int32))]) (rest := [(.ref b28)]) (lenOf own_pd21 rfl) rfl (by show 2 * 0 + _ ≤ _; exact Nat.le_of_eq rfl) (hb hby own_d_jdk_42_method_145_code_104) (fun _ _ => ⟨rfl, e36, (by decide : 2 + 0 ≤ _), (by decide : 64 + 0 ≤ _)⟩)
      dsimp only [Pt.U, Pt.locs, Pt.cells, Pt.slots] at X38 l38 y38 z38 st38 hQ38
      subst l38 y38 z38
      obtain ⟨rfl, Nq38, Kq38, po38_0⟩ := hQ38
      have N38 := Fr.app N26 Nq38
      have K39 : Keep h0 T38.heap [] := K34.trans Kq38 (allS (Or.inr b33) all0)
      have C40 : CHr Z consts_1 s.vm h0 s.vm T38.heap := CHr.keep K39 all0 hC0
      have CAe : CHr Z consts_1 s.vm h0 s.vm T38.heap := CA0.trans C40
      have CAf : CHr Z consts_1 s.vm h0 T38.vm T38.heap := CAe.trans (CHv.at (s := s) (vm0 := s.vm) X38 hZ hEL CAe.1)
      obtain ⟨fs, hr, hrun, hended, hRW⟩ := Stand.leaveW (s := s) (vm₁ := s.vm) X38 hS0 (Nat.le_trans (Nat.zero_le _) K39.1) (v := some (.ref b28)) (fun h => by rw [Bd.returns] at h; cases h)
      refine ⟨_, _, r5 _ ?_, hrun, hended, _, _, rfl, ?_, (by show CHr Z consts_1 s.vm s.heap T38.vm T38.heap; rw [hh]; exact CAf), ⟨hRW.1, hRW.2.1, hRW.2.2.1, hRW.2.2.2.mono (by decide) (by decide)⟩⟩
      · show Steps p.tables e below (T3.setTop (mkF m 50 #[.val (.ref y), .val (.int (Int32.ofNat cnt)), .val (.int (1 : Int32)), .unset, .unset] [(.int (Int32.ofNat cnt))])) _
        refine XS.ifYes X3.here hx rfl (pc0 := 50) (pc' := 56) rfl (hb hby own_d_jdk_42_method_145_code_50) rfl ((if0 _ _).trans (feq (fun q => hc0 ((own_eqN (b := 0) (by omega) (by decide)).mp q))).2) (by decide) (by decide) ?_
        show Steps p.tables e below (T3.setTop (mkF m 56 #[.val (.ref y), .val (.int (Int32.ofNat cnt)), .val (.int (1 : Int32)), .unset, .unset] [])) _
        refine X3.ldcWI hx hown (mvT hZ (hw _ (List.mem_of_getElem? (i := 225) rfl))) rfl (hb hby own_d_jdk_42_method_145_code_56) ?_
        show Steps p.tables e below (T3.setTop (mkF m 59 #[.val (.ref y), .val (.int (Int32.ofNat cnt)), .val (.int (1 : Int32)), .unset, .unset] [(.int (2147483647 : Int32))])) _
        refine XS.iloadN X3.here hx rfl (hb hby own_d_jdk_42_method_145_code_59) rfl ?_
        show Steps p.tables e below (T3.setTop (mkF m 60 #[.val (.ref y), .val (.int (Int32.ofNat cnt)), .val (.int (1 : Int32)), .unset, .unset] [(.int (Int32.ofNat cnt)), (.int (2147483647 : Int32))])) _
        refine XS.idiv X3.here hx rfl (hb hby own_d_jdk_42_method_145_code_60) rfl (fun q => hc0 ((own_eqN (b := 0) (by omega) (by decide)).mp q)) ?_
        show Steps p.tables e below (T3.setTop (mkF m 61 #[.val (.ref y), .val (.int (Int32.ofNat cnt)), .val (.int (1 : Int32)), .unset, .unset] [(.int ((2147483647 : Int32) / (Int32.ofNat cnt)))])) _
        refine XS.iloadN X3.here hx rfl (hb hby own_d_jdk_42_method_145_code_61) rfl ?_
        show Steps p.tables e below (T3.setTop (mkF m 62 #[.val (.ref y), .val (.int (Int32.ofNat cnt)), .val (.int (1 : Int32)), .unset, .unset] [(.int (1 : Int32)), (.int ((2147483647 : Int32) / (Int32.ofNat cnt)))])) _
        refine XS.icmpYes X3.here hx rfl (pc0 := 62) (pc' := 76) rfl (hb hby own_d_jdk_42_method_145_code_62) rfl (flt (own_bigdiv (by omega) hc60)).2.1 (by decide) (by decide) ?_
        show Steps p.tables e below (T3.setTop (mkF m 76 #[.val (.ref y), .val (.int (Int32.ofNat cnt)), .val (.int (1 : Int32)), .unset, .unset] [])) _
        refine XS.iloadN X3.here hx rfl (hb hby own_d_jdk_42_method_145_code_76) rfl ?_
        show Steps p.tables e below (T3.setTop (mkF m 77 #[.val (.ref y), .val (.int (Int32.ofNat cnt)), .val (.int (1 : Int32)), .unset, .unset] [(.int (1 : Int32))])) _
        refine XS.iconst X3.here hx rfl (hb hby own_d_jdk_42_method_145_code_77) ?_
        show Steps p.tables e below (T3.setTop (mkF m 78 #[.val (.ref y), .val (.int (Int32.ofNat cnt)), .val (.int (1 : Int32)), .unset, .unset] [(.int (1 : Int32)), (.int (1 : Int32))])) _
        refine XS.icmpNo X3.here hx rfl (hb hby own_d_jdk_42_method_145_code_78) rfl (teq rfl).2 ?_
        show Steps p.tables e below (T3.setTop (mkF m 81 #[.val (.ref y), .val (.int (Int32.ofNat cnt)), .val (.int (1 : Int32)), .unset, .unset] [])) _
        refine XS.iloadN X3.here hx rfl (hb hby own_d_jdk_42_method_145_code_81) rfl ?_
        show Steps p.tables e below (T3.setTop (mkF m 82 #[.val (.ref y), .val (.int (Int32.ofNat cnt)), .val (.int (1 : Int32)), .unset, .unset] [(.int (Int32.ofNat cnt))])) _
        refine st15 _ ?_
        show Steps p.tables e below (T15.setTop (mkF m 84 #[.val (.ref y), .val (.int (Int32.ofNat cnt)), .val (.int (1 : Int32)), .unset, .unset] [(.ref b15)])) _
        refine XS.astoreN X15.here hx rfl (hb hby own_d_jdk_42_method_145_code_84) rfl rfl (l' := #[.val (.ref y), .val (.int (Int32.ofNat cnt)), .val (.int (1 : Int32)), .val (.ref b15), .unset]) rfl ?_
        show Steps p.tables e below (T15.setTop (mkF m 85 #[.val (.ref y), .val (.int (Int32.ofNat cnt)), .val (.int (1 : Int32)), .val (.ref b15), .unset] [])) _
        refine XS.aloadN X15.here hx rfl (hb hby own_d_jdk_42_method_145_code_85) rfl rfl ?_
        show Steps p.tables e below (T15.setTop (mkF m 86 #[.val (.ref y), .val (.int (Int32.ofNat cnt)), .val (.int (1 : Int32)), .val (.ref b15), .unset] [(.ref b15)])) _
        refine XS.aloadN X15.here hx rfl (hb hby own_d_jdk_42_method_145_code_86) rfl rfl ?_
        show Steps p.tables e below (T15.setTop (mkF m 87 #[.val (.ref y), .val (.int (Int32.ofNat cnt)), .val (.int (1 : Int32)), .val (.ref b15), .unset] [(.ref y), (.ref b15)])) _
        refine st22 _ ?_
        show Steps p.tables e below (T22.setTop (mkF m 90 #[.val (.ref y), .val (.int (Int32.ofNat cnt)), .val (.int (1 : Int32)), .val (.ref b15), .unset] [(.ref ty), (.ref b15)])) _
        refine XS.iconst X22.here hx rfl (hb hby own_d_jdk_42_method_145_code_90) ?_
        show Steps p.tables e below (T22.setTop (mkF m 91 #[.val (.ref y), .val (.int (Int32.ofNat cnt)), .val (.int (1 : Int32)), .val (.ref b15), .unset] [(.int (0 : Int32)), (.ref ty), (.ref b15)])) _
        refine X22.baloadBytes hx (j := (0 : Int32)) (v := (.int (48 : Int32))) (by rw [e22]; exact Ar24.1) (State.isArrayOf_alike hZ.alike Ar24.2.1) Ar24.2.2 hin24 (Has.at H24 hin24 rfl) (g := (mkF m 91 #[.val (.ref y), .val (.int (Int32.ofNat cnt)), .val (.int (1 : Int32)), .val (.ref b15), .unset] [(.int (0 : Int32)), (.ref ty), (.ref b15)])) rfl rfl (hb hby own_d_jdk_42_method_145_code_91) _ ?_
        show Steps p.tables e below (T22.setTop (mkF m 92 #[.val (.ref y), .val (.int (Int32.ofNat cnt)), .val (.int (1 : Int32)), .val (.ref b15), .unset] [(.int (48 : Int32)), (.ref b15)])) _
        refine st26 _ ?_
        show Steps p.tables e below (T26.setTop (mkF m 95 #[.val (.ref y), .val (.int (Int32.ofNat cnt)), .val (.int (1 : Int32)), .val (.ref b15), .unset] [])) _
        refine st28 _ ?_
        show Steps p.tables e below (T28.setTop (mkF m 98 #[.val (.ref y), .val (.int (Int32.ofNat cnt)), .val (.int (1 : Int32)), .val (.ref b15), .unset] [(.ref b28)])) _
        refine XS.dup X28.here hx rfl (hb hby own_d_jdk_42_method_145_code_98) rfl rfl ?_
        show Steps p.tables e below (T28.setTop (mkF m 99 #[.val (.ref y), .val (.int (Int32.ofNat cnt)), .val (.int (1 : Int32)), .val (.ref b15), .unset] [(.ref b28), (.ref b28)])) _
        refine XS.aloadN X28.here hx rfl (hb hby own_d_jdk_42_method_145_code_99) rfl rfl ?_
        show Steps p.tables e below (T28.setTop (mkF m 100 #[.val (.ref y), .val (.int (Int32.ofNat cnt)), .val (.int (1 : Int32)), .val (.ref b15), .unset] [(.ref b15), (.ref b28), (.ref b28)])) _
        refine XS.aloadN X28.here hx rfl (hb hby own_d_jdk_42_method_145_code_100) rfl rfl ?_
        show Steps p.tables e below (T28.setTop (mkF m 101 #[.val (.ref y), .val (.int (Int32.ofNat cnt)), .val (.int (1 : Int32)), .val (.ref b15), .unset] [(.ref y), (.ref b15), (.ref b28), (.ref b28)])) _
        refine st36 _ ?_
        show Steps p.tables e below (T36.setTop (mkF m 104 #[.val (.ref y), .val (.int (Int32.ofNat cnt)), .val (.int (1 : Int32)), .val (.ref b15), .unset] [(.int (0 : Int32)), (.ref b15), (.ref b28), (.ref b28)])) _
        refine st38.trans ?_
        show Steps p.tables e below (T38.setTop (mkF m 107 #[.val (.ref y), .val (.int (Int32.ofNat cnt)), .val (.int (1 : Int32)), .val (.ref b15), .unset] [(.ref b28)])) _
        exact retOut X38 hx (t := (.object "java/lang/String")) Bd.returns rfl (Or.inr (Or.inr (Or.inr (Or.inr ⟨rfl, rfl, rfl⟩)))) (hb hby own_d_jdk_42_method_145_code_107) hr
      · show Q_own_rep Z y ty ky cnt h0 n0 _ T38.heap _
        exact ⟨b28, b15, k15, rfl, N38, (KA0.trans K39 all0), po38_0, Or.inr b19⟩
theorem own_pn_own_idg : plainName "com/example/uketsuke/uketsuke/store/IdFormat" = true := by first | (simp [plainName, overriddenIn]; done) | decide +kernel
theorem own_ef_own_idg (m : MethodId) (vv : Int64) (ww : Int32) : entryFrame m #[(.long vv), (.int ww)] 4 = mkF m 0 #[.val (.long vv), .second, .val (.int ww), .unset] [] := by first | (simp [entryFrame, mkF, argsToLocals, own_cI, own_cJ, own_cR, own_cN]; done) | rfl
abbrev own_F_own_idg (m : MethodId) (vv : Int64) (ww : Int32) : JFrame := entryFrame m #[(.long vv), (.int ww)] 4
def Q_own_idg (Z : State) (vv : Int64) (ww : Int32) (nn : Nat) (cnt : Nat) (gCS : Int32) (ist : Addr) (dt1 : Addr) (dt2 : Addr) (cD1 : Cell) (cD2 : Cell) (h0 : Heap) (n0 : Nat) (v : Option Value) (h : Heap) (L : List Loc) : Prop := ∃ (x : Addr), ∃ (t : Addr), ∃ (kt : ClassId), v = some (.ref x) ∧ Fr n0 L ∧ Keep h0 h [] ∧ (h0.size ≤ x) ∧ (h0.size ≤ t) ∧ (t ≠ x) ∧ (own_Str Z h x t kt (([] ++ List.replicate cnt (48 : Int32)) ++ own_decL nn))
set_option maxRecDepth 65536 in
set_option maxHeartbeats 40000000 in
theorem own_idg (l : Launch) (Z : State) (a0 : Array Value) (hw : ∀ d ∈ tables_1, d.before a0 Z = true) (ws : List Jvm.Cond) (vv : Int64) (ww : Int32) (nn : Nat) (cnt : Nat) (gCS : Int32) (ist : Addr) (dt1 : Addr) (dt2 : Addr) (cD1 : Cell) (cD2 : Cell) (h0 : Heap) (n0 : Nat) (O0 : Old Z n0 h0) (hvn : vv.toInt = nn) (hcw : (if (0 : Int32) < ww - Int32.ofNat (Jvm.Free.SBG.digitsL nn) then ww - Int32.ofNat (Jvm.Free.SBG.digitsL nn) else (0 : Int32)) = Int32.ofNat cnt) (htot : cnt + (Jvm.Free.SBG.digitsL nn) ≤ 60) (hp3 : Sta Z Z.heap "java/lang/String" "COMPACT_STRINGS" "Z" (.int gCS)) (hG1 : ¬ gCS = (0 : Int32)) (hT1 : Jvm.Free.SBG.Tbl Z "DigitOnes" ist dt1 cD1) (hT2 : Jvm.Free.SBG.Tbl Z "DigitTens" ist dt2 cD2) (hO1 : Jvm.Free.SBG.Ones cD1) (hO2 : Jvm.Free.SBG.Tens cD2) (hp9 : ist < n0) (hp10 : dt1 < n0) (hp11 : dt2 < n0) (hD1 : Z.heap[dt1]? = some cD1) (hD2 : Z.heap[dt2]? = some cD2) (hEL : EW Z a0 consts_1) :
    MetFree l (⟨"com/example/uketsuke/uketsuke/store/IdFormat", "digits", "(JI)Ljava/lang/String;"⟩ : MethodName) (head1 (Jvm.Cond.code (⟨"com/example/uketsuke/uketsuke/store/IdFormat", "digits", "(JI)Ljava/lang/String;"⟩ : MethodName) prog_10_method_5_code 4 (some (.object "java/lang/String")) :: ws) ({ frames := 6, cells := 12, slots := 720, locals := 117 } : Room)) (fun aa_ U_ => aa_ = #[(.long vv), (.int ww)] ∧ Z.Warmed39 U_.vm ∧ U_.heap = h0 ∧ CHv Z consts_1 U_.vm h0) (fun _ _ _ _ _ => True) (fun _ U_ o_ V_ => ∃ v_ L_, o_ = .returned v_ ∧ Q_own_idg Z vv ww nn cnt gCS ist dt1 dt2 cD1 cD2 h0 n0 v_ V_.heap L_ ∧ CHr Z consts_1 U_.vm U_.heap V_.vm V_.heap ∧ ReturnedEndW U_ o_ V_ L_ ({ frames := 6, cells := 12, slots := 720, locals := 117 } : Room).cells ({ frames := 6, cells := 12, slots := 720, locals := 117 } : Room).slots) := by
  refine MetFree.of_bodySF (plainFor_of_name own_pn_own_idg) hisR ?_
  intro p e s m args below meth c s₁ Bd hml0 hP hK
  obtain ⟨rfl, hZ, hh, hC0⟩ := hP
  have hx := Bd.exec
  have hby := Bd.bytes
  have hml : c.maxLocals = 4 := hml0
  have hown : s.vm.findClass "com/example/uketsuke/uketsuke/store/IdFormat" = some m.cls := findClass_of_methodNamed Bd.named
  have hnm := (name_of_methodNamed Bd.named Bd.method).1
  have X0 : Stand p l e ({ frames := 6, cells := 12, slots := 720, locals := 117 } : Room) s m #[(.long vv), (.int ww)] below meth c s₁ [] 0 0 := Stand.of_body Bd
  have e0 : s₁.heap = h0 := by rw [← hh, Bd.state]; rfl
  have N0 := Fr.nil n0
  have hS0 : s.Since s.vm 0 := (State.WarmedH.refl s).since 0
  have CA0 : CHr Z consts_1 s.vm h0 s.vm h0 := CHr.refl hC0
  have KA0 : Keep h0 h0 [] := Keep.refl _ _
  have K0 : Keep h0 h0 [] := Keep.refl _ _
  have r0 : GoTo p.tables e below s₁ (own_F_own_idg m vv ww) s₁ (mkF m 0 #[.val (.long vv), .second, .val (.int ww), .unset] []) := fun tt_ kk_ => castTop (own_ef_own_idg m vv ww) kk_
  have hdg := Jvm.Free.SBG.digitsL_pos nn
  have hlr : (List.replicate cnt (48 : Int32)).length = cnt := List.length_replicate
  have hld := own_decL_len nn
  have hl0 : ([] : List Int32).length = 0 := rfl
  have hl1 : (([] : List Int32) ++ (List.replicate cnt (48 : Int32))).length = cnt := by rw [List.nil_append, hlr]
  have hl2 := own_padLen nn cnt
  obtain ⟨_, _, ⟨T1, L1, k1, n1⟩, -, X1, ⟨Lc1, hQ1, l1, y1, z1⟩, st1⟩ := Jvm.LawKit.callS X0 hx (y := (⟨"java/lang/Long", "toString", "(J)Ljava/lang/String;"⟩ : MethodName)) hown (mvT hZ (hw _ (List.mem_of_getElem? (i := 32) rfl))) (mvT hZ (hw _ (List.mem_of_getElem? (i := 33) rfl))) (mvT hZ (hw _ (List.mem_of_getElem? (i := 34) rfl))) (mvT hZ (hw _ (List.mem_of_getElem? (i := 35) rfl))) (by decide) (backOf (W := 0) (own_ltoS l Z a0 hw [] (vv) (nn) (gCS) (ist) (dt1) (dt2) (cD1) (cD2) h0 n0 (O0.keep K0 all0) (hvn) (hp3) (hG1) (hT1) (hT2) (hO1) (hO2) (hp9) (hp10) (hp11) (hD1) (hD2)) hZ (hw _ (List.mem_of_getElem? (i := 35) rfl)) (hw _ (List.mem_of_getElem? (i := 34) rfl)) (by decide) (by decide)) (g := (mkF m 1 #[.val (.long vv), .second, .val (.int ww), .unset] [(.long vv)])) rfl (by rw [hml]; rfl) (argsL := [(.long vv)]) (rest := []) (lenOf own_pd22 rfl) rfl (by show 2 * 0 + _ ≤ _; exact Nat.le_of_eq rfl) (hb hby own_d_prog_10_method_5_code_1) (fun _ _ => ⟨rfl, e0, (by decide : 0 + 2 ≤ _), (by decide : 0 + 24 ≤ _)⟩)
  dsimp only [Pt.U, Pt.locs, Pt.cells, Pt.slots] at X1 l1 y1 z1 st1 hQ1
  subst l1 y1 z1
  obtain ⟨x_1, t_1, kt_1, rfl, Nq1, Kq1, po1_0, po1_1, po1_2, po1_3⟩ := hQ1
  have N1 := Fr.app N0 Nq1
  have g2 : n0 ≤ x_1 := Nat.le_trans (Nat.le_trans (own_le O0) K0.1) po1_0
  have b3 : h0.size ≤ x_1 := Nat.le_trans K0.1 po1_0
  have g4 : n0 ≤ t_1 := Nat.le_trans (Nat.le_trans (own_le O0) K0.1) po1_1
  have b5 : h0.size ≤ t_1 := Nat.le_trans K0.1 po1_1
  have K6 : Keep h0 T1.heap [] := K0.trans Kq1 all0
  obtain ⟨T7, h7, X7, e7, E7, A7, D7, -, st7⟩ := newO X1 hx hZ hown (hw _ (List.mem_of_getElem? (i := 62) rfl)) (hw _ (List.mem_of_getElem? (i := 63) rfl)) (hw _ (List.mem_of_getElem? (i := 64) rfl)) rfl (g := (mkF m 5 #[.val (.long vv), .second, .val (.int ww), .val (.ref x_1)] [])) rfl (hb hby own_d_prog_10_method_5_code_5) (by decide) (by decide)
  obtain ⟨b7, gg7⟩ : ∃ z, z = T1.heap.size := ⟨_, rfl⟩
  rw [← gg7] at A7 D7 st7
  have ne8 : x_1 ≠ b7 := Nat.ne_of_lt (Nat.lt_of_lt_of_le po1_3.1.lt (Nat.le_of_eq gg7.symm))
  have ne9 : t_1 ≠ b7 := Nat.ne_of_lt (Nat.lt_of_lt_of_le po1_3.2.2.2.1.lt (Nat.le_of_eq gg7.symm))
  have g10 : n0 ≤ b7 := Nat.le_trans (Nat.le_trans (own_le O0) K6.1) (Nat.le_of_eq gg7.symm)
  have b11 : h0.size ≤ b7 := Nat.le_trans K6.1 (Nat.le_of_eq gg7.symm)
  have K12 : Keep h0 h7 [] := K6.ext E7
  obtain ⟨_, _, ⟨T13, L13, k13, n13⟩, -, X13, ⟨Lc13, hQ13, l13, y13, z13⟩, st13⟩ := X7.specialBack hx (y := (⟨"java/lang/StringBuilder", "<init>", "()V"⟩ : MethodName)) rfl hown (mvT hZ (hw _ (List.mem_of_getElem? (i := 65) rfl))) (mvT hZ (hw _ (List.mem_of_getElem? (i := 66) rfl))) (mvT hZ (hw _ (List.mem_of_getElem? (i := 67) rfl))) (by decide) (backOf (W := 1) (own_sbinit l Z a0 hw [] (b7) (gCS) h7 n0 (O0.keep K12 all0) (A7) (g10) ((D7 (Or.inl (hw _ (List.mem_of_getElem? (i := 77) rfl))) (ty := (.array .byte)) (by decide))) ((D7 (Or.inl (hw _ (List.mem_of_getElem? (i := 79) rfl))) (ty := .byte) (by decide))) ((D7 (Or.inl (hw _ (List.mem_of_getElem? (i := 112) rfl))) (ty := .int) (by decide))) (hp3) (hG1)) hZ (hw _ (List.mem_of_getElem? (i := 67) rfl)) (hw _ (List.mem_of_getElem? (i := 64) rfl)) (by decide) (by decide)) (g := (mkF m 9 #[.val (.long vv), .second, .val (.int ww), .val (.ref x_1)] [(.ref b7), (.ref b7)])) rfl (by rw [hml]; rfl) (Steps.refl _) (a := b7) (argsL := []) (rest := [(.ref b7)]) (lenOf own_pd23 rfl) rfl (by show 2 * 0 + _ ≤ _; exact Nat.le_of_eq rfl) (hb hby own_d_prog_10_method_5_code_9) (fun _ _ => ⟨rfl, e7, (by decide : 3 + 1 ≤ _), (by decide : 28 + 16 ≤ _)⟩)
  dsimp only [Pt.U, Pt.locs, Pt.cells, Pt.slots] at X13 l13 y13 z13 st13 hQ13
  subst l13 y13 z13
  obtain ⟨d_13, kd_13, rfl, Nq13, Kq13, po13_0, po13_1, po13_2⟩ := hQ13
  have N13 := Fr.app N1 Nq13
  have ne14 : x_1 ≠ d_13 := Nat.ne_of_lt (Nat.lt_of_lt_of_le (Nat.lt_of_lt_of_le po1_3.1.lt E7.1) po13_0)
  have ne15 : t_1 ≠ d_13 := Nat.ne_of_lt (Nat.lt_of_lt_of_le (Nat.lt_of_lt_of_le po1_3.2.2.2.1.lt E7.1) po13_0)
  have ne16 : b7 ≠ d_13 := Nat.ne_of_lt (Nat.lt_of_lt_of_le A7.lt po13_0)
  have g17 : n0 ≤ d_13 := Nat.le_trans (Nat.le_trans (own_le O0) K12.1) po13_0
  have b18 : h0.size ≤ d_13 := Nat.le_trans K12.1 po13_0
  have K19 : Keep h0 T13.heap [] := K12.trans Kq13 (allS (Or.inr b11) all0)
  have r20 : GoTo p.tables e below s₁ (own_F_own_idg m vv ww) T13 (mkF m 12 #[.val (.long vv), .second, .val (.int ww), .val (.ref x_1)] [(.ref b7)]) := fun tt_ kk_ => r0 tt_ (by
      show Steps p.tables e below (s₁.setTop (mkF m 0 #[.val (.long vv), .second, .val (.int ww), .unset] [])) _
      refine XS.lloadN X0.here hx rfl (hb hby own_d_prog_10_method_5_code_0) rfl ?_
      show Steps p.tables e below (s₁.setTop (mkF m 1 #[.val (.long vv), .second, .val (.int ww), .unset] [(.long vv)])) _
      refine st1 _ ?_
      show Steps p.tables e below (T1.setTop (mkF m 4 #[.val (.long vv), .second, .val (.int ww), .unset] [(.ref x_1)])) _
      refine XS.astoreN X1.here hx rfl (hb hby own_d_prog_10_method_5_code_4) rfl rfl (l' := #[.val (.long vv), .second, .val (.int ww), .val (.ref x_1)]) rfl ?_
      show Steps p.tables e below (T1.setTop (mkF m 5 #[.val (.long vv), .second, .val (.int ww), .val (.ref x_1)] [])) _
      refine st7 _ ?_
      show Steps p.tables e below (T7.setTop (mkF m 8 #[.val (.long vv), .second, .val (.int ww), .val (.ref x_1)] [(.ref b7)])) _
      refine XS.dup X7.here hx rfl (hb hby own_d_prog_10_method_5_code_8) rfl rfl ?_
      show Steps p.tables e below (T7.setTop (mkF m 9 #[.val (.long vv), .second, .val (.int ww), .val (.ref x_1)] [(.ref b7), (.ref b7)])) _
      refine st13.trans ?_
      show Steps p.tables e below (T13.setTop (mkF m 12 #[.val (.long vv), .second, .val (.int ww), .val (.ref x_1)] [(.ref b7)])) _
      exact kk_)
  have C21 : CHr Z consts_1 s.vm h0 s.vm T13.heap := CHr.keep K19 all0 hC0
  have Sf22 : Safe Z consts_1 s.vm T13.heap x_1 := Safe.keep K19 all0 hC0 (Safe.new b3)
  have lt23 : x_1 < T13.heap.size := (Nat.lt_of_lt_of_le po1_3.1.lt (Nat.le_trans E7.1 Kq13.1))
  have Sf24 : Safe Z consts_1 s.vm T13.heap t_1 := Safe.keep K19 all0 hC0 (Safe.new b5)
  have lt25 : t_1 < T13.heap.size := (Nat.lt_of_lt_of_le po1_3.2.2.2.1.lt (Nat.le_trans E7.1 Kq13.1))
  have Sf26 : Safe Z consts_1 s.vm T13.heap b7 := Safe.keep K19 all0 hC0 (Safe.new b11)
  have lt27 : b7 < T13.heap.size := (Nat.lt_of_lt_of_le A7.lt Kq13.1)
  have Sf28 : Safe Z consts_1 s.vm T13.heap d_13 := Safe.keep K19 all0 hC0 (Safe.new b18)
  have lt29 : d_13 < T13.heap.size := po13_2.2.2.2.2.1.lt
  obtain ⟨a30, T30, h30, k30, t30, kb30, X30, e30, E30, hS30, hk30, hZ, hown, Ea30, Fc30, Fv30, Av30, la30, lb30, CC30, -, hne30, st30⟩ := ldcCH (s := s) (vm0 := s.vm) X13 hx hZ hown (hw _ (List.mem_of_getElem? (i := 80) rfl)) (fun d hd => hw d (own_in_sa d hd)) rfl hS0 (Nat.le_trans (Nat.zero_le _) K19.1) hEL (List.mem_of_getElem? (i := 0) rfl) C21.1 (vs := ((([48] : List Int32).map fun c => c.toInt8.toInt32).map Value.int)) (z := Int32.ofNat ([48] : List Int32).length) (by refine ⟨by decide, ?_⟩; first | rfl | decide +kernel) (by decide) (by decide) (g := (mkF m 12 #[.val (.long vv), .second, .val (.int ww), .val (.ref x_1)] [(.ref b7)])) rfl (hb hby own_d_prog_10_method_5_code_12) (n := 4) (by decide) (by decide) (by decide) (by decide)
  have K31 : Keep h0 h30 [] := K19.ext E30
  have bz32 : h0.size ≤ x_1 := Nat.le_trans KA0.1 b3
  have bz33 : h0.size ≤ t_1 := Nat.le_trans KA0.1 b5
  have bz34 : h0.size ≤ b7 := Nat.le_trans KA0.1 b11
  have bz35 : h0.size ≤ d_13 := Nat.le_trans KA0.1 b18
  have CA36 : CHr Z consts_1 s.vm h0 T30.vm h30 := (CA0.trans C21).trans CC30
  have KA37 : Keep h0 h30 [] := KA0.trans K31 all0
  have O38 : Old Z n0 h30 := (O0.keep K31 all0)
  have Sf39 : Safe Z consts_1 T30.vm h30 x_1 := CHr.safe CC30 lt23 Sf22
  have Sf40 : Safe Z consts_1 T30.vm h30 t_1 := CHr.safe CC30 lt25 Sf24
  have Sf41 : Safe Z consts_1 T30.vm h30 b7 := CHr.safe CC30 lt27 Sf26
  have Sf42 : Safe Z consts_1 T30.vm h30 d_13 := CHr.safe CC30 lt29 Sf28
  have K43 : Keep h30 h30 [x_1, t_1, b7, d_13] := Keep.refl _ _
  have Sr30 : own_Str Z h30 a30 t30 kb30 ([48] : List Int32) := ⟨Ea30, Fv30, Fc30, Av30, own_allC (by decide) (own_all0), by decide⟩
  have f44 : own_Str Z h30 x_1 t_1 kt_1 (own_decL nn) := (((po1_3.ext E7).keep Kq13 (ninS ne8 nin0) (ninS ne9 nin0)).ext E30)
  have f46 : Exa Z h30 x_1 "java/lang/String" := (((po1_3.1.ext E7).keep Kq13).ext E30)
  obtain ⟨cq45, kq45, qa45, qb45, qc45⟩ := isOf hZ e30 f46
  obtain ⟨_, _, ⟨T45, L45, k45, n45⟩, -, X45, ⟨Lc45, hQ45, l45, y45, z45⟩, st45⟩ := X30.virtualBack hx (y := (⟨"java/lang/String", "length", "()I"⟩ : MethodName)) (z := (⟨"java/lang/String", "length", "()I"⟩ : MethodName)) hown (mvT hZ (hw _ (List.mem_of_getElem? (i := 83) rfl))) (mvT hZ (hw _ (List.mem_of_getElem? (i := 84) rfl))) (notFace_of_selects (args := #[]) (mvT hZ (hw _ (List.mem_of_getElem? (i := 86) rfl)))) (mvT hZ (hw _ (List.mem_of_getElem? (i := 86) rfl))) (mvT hZ (hw _ (List.mem_of_getElem? (i := 85) rfl))) (by decide) (backOf (W := 4) (own_strlen l Z a0 hw [] (x_1) (t_1) (kt_1) ((own_decL nn)) (gCS) h30 n0 (O38.keep K43 (allS g2 (allS g4 (allS g10 (allS po13_1 all0))))) (f44) (hp3) (hG1)) hZ (hw _ (List.mem_of_getElem? (i := 87) rfl)) (hw _ (List.mem_of_getElem? (i := 41) rfl)) (by decide) (by decide)) qa45 qc45 (g := (mkF m 17 #[.val (.long vv), .second, .val (.int ww), .val (.ref x_1)] [(.ref x_1), (.int ww), (.int (0 : Int32)), (.ref a30), (.ref b7)])) rfl (by rw [hml]; rfl) (Steps.refl _) (argsL := []) (rest := [(.int ww), (.int (0 : Int32)), (.ref a30), (.ref b7)]) (lenOf own_pd12 rfl) rfl (by show 2 * 0 + _ ≤ _; exact Nat.le_of_eq rfl) (hb hby own_d_prog_10_method_5_code_17) (fun _ _ => ⟨rfl, e30, (by decide : 6 + 0 ≤ _), (by decide : 52 + 0 ≤ _)⟩)
  dsimp only [Pt.U, Pt.locs, Pt.cells, Pt.slots] at X45 l45 y45 z45 st45 hQ45
  subst l45 y45 z45
  obtain ⟨rfl, Nq45, hh45⟩ := hQ45
  have N45 := Fr.app N13 Nq45
  obtain ⟨_, _, ⟨T47, L47, k47, n47⟩, -, X47, ⟨Lc47, hQ47, l47, y47, z47⟩, st47⟩ := Jvm.LawKit.callS X45 hx (y := (⟨"java/lang/Math", "max", "(II)I"⟩ : MethodName)) hown (mvT hZ (hw _ (List.mem_of_getElem? (i := 94) rfl))) (mvT hZ (hw _ (List.mem_of_getElem? (i := 25) rfl))) (mvT hZ (hw _ (List.mem_of_getElem? (i := 26) rfl))) (mvT hZ (hw _ (List.mem_of_getElem? (i := 27) rfl))) (by decide) (backOf (W := 2) (own_maxI l Z a0 hw [] ((0 : Int32)) ((ww - (Int32.ofNat (own_decL nn).length))) h30 n0 (O38.keep K43 (allS g2 (allS g4 (allS g10 (allS po13_1 all0)))))) hZ (hw _ (List.mem_of_getElem? (i := 27) rfl)) (hw _ (List.mem_of_getElem? (i := 26) rfl)) (by decide) (by decide)) (g := (mkF m 21 #[.val (.long vv), .second, .val (.int ww), .val (.ref x_1)] [(.int (ww - (Int32.ofNat (own_decL nn).length))), (.int (0 : Int32)), (.ref a30), (.ref b7)])) rfl (by rw [hml]; rfl) (argsL := [(.int (0 : Int32)), (.int (ww - (Int32.ofNat (own_decL nn).length)))]) (rest := [(.ref a30), (.ref b7)]) (lenOf own_pd1 rfl) rfl (by show 2 * 0 + _ ≤ _; exact Nat.le_of_eq rfl) (hb hby own_d_prog_10_method_5_code_21) (fun _ _ => ⟨rfl, hh45, (by decide : 6 + 0 ≤ _), (by decide : 52 + 0 ≤ _)⟩)
  dsimp only [Pt.U, Pt.locs, Pt.cells, Pt.slots] at X47 l47 y47 z47 st47 hQ47
  subst l47 y47 z47
  obtain ⟨rfl, Nq47, hh47⟩ := hQ47
  have N47 := Fr.app N45 Nq47
  have r48 : GoTo p.tables e below s₁ (own_F_own_idg m vv ww) T47 (mkF m 24 #[.val (.long vv), .second, .val (.int ww), .val (.ref x_1)] [(.int (if (0 : Int32) < (ww - (Int32.ofNat (own_decL nn).length)) then (ww - (Int32.ofNat (own_decL nn).length)) else (0 : Int32))), (.ref a30), (.ref b7)]) := fun tt_ kk_ => r20 tt_ (by
      show Steps p.tables e below (T13.setTop (mkF m 12 #[.val (.long vv), .second, .val (.int ww), .val (.ref x_1)] [(.ref b7)])) _
      refine st30 _ ?_
      show Steps p.tables e below (T30.setTop (mkF m 14 #[.val (.long vv), .second, .val (.int ww), .val (.ref x_1)] [(.ref a30), (.ref b7)])) _
      refine XS.iconst X30.here hx rfl (hb hby own_d_prog_10_method_5_code_14) ?_
      show Steps p.tables e below (T30.setTop (mkF m 15 #[.val (.long vv), .second, .val (.int ww), .val (.ref x_1)] [(.int (0 : Int32)), (.ref a30), (.ref b7)])) _
      refine XS.iloadN X30.here hx rfl (hb hby own_d_prog_10_method_5_code_15) rfl ?_
      show Steps p.tables e below (T30.setTop (mkF m 16 #[.val (.long vv), .second, .val (.int ww), .val (.ref x_1)] [(.int ww), (.int (0 : Int32)), (.ref a30), (.ref b7)])) _
      refine XS.aloadN X30.here hx rfl (hb hby own_d_prog_10_method_5_code_16) rfl rfl ?_
      show Steps p.tables e below (T30.setTop (mkF m 17 #[.val (.long vv), .second, .val (.int ww), .val (.ref x_1)] [(.ref x_1), (.int ww), (.int (0 : Int32)), (.ref a30), (.ref b7)])) _
      refine st45.trans ?_
      show Steps p.tables e below (T45.setTop (mkF m 20 #[.val (.long vv), .second, .val (.int ww), .val (.ref x_1)] [(.int (Int32.ofNat (own_decL nn).length)), (.int ww), (.int (0 : Int32)), (.ref a30), (.ref b7)])) _
      refine XS.isub X45.here hx rfl (hb hby own_d_prog_10_method_5_code_20) rfl ?_
      show Steps p.tables e below (T45.setTop (mkF m 21 #[.val (.long vv), .second, .val (.int ww), .val (.ref x_1)] [(.int (ww - (Int32.ofNat (own_decL nn).length))), (.int (0 : Int32)), (.ref a30), (.ref b7)])) _
      refine st47 _ ?_
      show Steps p.tables e below (T47.setTop (mkF m 24 #[.val (.long vv), .second, .val (.int ww), .val (.ref x_1)] [(.int (if (0 : Int32) < (ww - (Int32.ofNat (own_decL nn).length)) then (ww - (Int32.ofNat (own_decL nn).length)) else (0 : Int32))), (.ref a30), (.ref b7)])) _
      exact kk_)
  have r49 : GoTo p.tables e below s₁ (own_F_own_idg m vv ww) T47 (mkF m 24 #[.val (.long vv), .second, .val (.int ww), .val (.ref x_1)] [(.int (Int32.ofNat cnt)), (.ref a30), (.ref b7)]) := Eq.mp (congrArg (fun zz_ => GoTo p.tables e below s₁ (own_F_own_idg m vv ww) T47 (mkF m 24 #[.val (.long vv), .second, .val (.int ww), .val (.ref x_1)] [(.int zz_), (.ref a30), (.ref b7)])) (show (if (0 : Int32) < (ww - (Int32.ofNat (own_decL nn).length)) then (ww - (Int32.ofNat (own_decL nn).length)) else (0 : Int32)) = (Int32.ofNat cnt) from (by rw [own_decL_len]; exact hcw))) r48
  have f50 : own_SB Z h30 b7 d_13 kd_13 16 ([] : List Int32) := (po13_2.ext E30)
  have hltd : d_13 < h30.size := (Nat.lt_of_lt_of_le po13_2.2.2.2.2.1.lt E30.1)
  have C51 : CHr Z consts_1 T30.vm h30 T30.vm h30 := CHr.keep K43 (allS Sf39 (allS Sf40 (allS Sf41 (allS Sf42 all0)))) CC30.1
  have Sf52 : Safe Z consts_1 T30.vm h30 x_1 := Safe.keep K43 (allS Sf39 (allS Sf40 (allS Sf41 (allS Sf42 all0)))) CC30.1 Sf39
  have lt53 : x_1 < h30.size := (Nat.lt_of_lt_of_le po1_3.1.lt (Nat.le_trans (Nat.le_trans E7.1 Kq13.1) E30.1))
  have Sf54 : Safe Z consts_1 T30.vm h30 t_1 := Safe.keep K43 (allS Sf39 (allS Sf40 (allS Sf41 (allS Sf42 all0)))) CC30.1 Sf40
  have lt55 : t_1 < h30.size := (Nat.lt_of_lt_of_le po1_3.2.2.2.1.lt (Nat.le_trans (Nat.le_trans E7.1 Kq13.1) E30.1))
  have Sf56 : Safe Z consts_1 T30.vm h30 b7 := Safe.keep K43 (allS Sf39 (allS Sf40 (allS Sf41 (allS Sf42 all0)))) CC30.1 Sf41
  have lt57 : b7 < h30.size := (Nat.lt_of_lt_of_le A7.lt (Nat.le_trans Kq13.1 E30.1))
  have Sf58 : Safe Z consts_1 T30.vm h30 d_13 := Safe.keep K43 (allS Sf39 (allS Sf40 (allS Sf41 (allS Sf42 all0)))) CC30.1 Sf42
  have lt59 : d_13 < h30.size := (Nat.lt_of_lt_of_le po13_2.2.2.2.2.1.lt E30.1)
  obtain ⟨cq60, kq60, qa60, qb60, qc60⟩ := isOf hZ hh47 Sr30.1
  obtain ⟨_, _, ⟨T60, L60, k60, n60⟩, -, X60, hSq60, hgr60, ⟨Lc60, hQ60, l60, y60, z60, CC60⟩, st60⟩ := X47.virtualBackS hx (y := (⟨"java/lang/String", "repeat", "(I)Ljava/lang/String;"⟩ : MethodName)) (z := (⟨"java/lang/String", "repeat", "(I)Ljava/lang/String;"⟩ : MethodName)) hown (mvT hZ (hw _ (List.mem_of_getElem? (i := 95) rfl))) (mvT hZ (hw _ (List.mem_of_getElem? (i := 96) rfl))) (notFace_of_selects (args := #[]) (mvT hZ (hw _ (List.mem_of_getElem? (i := 98) rfl)))) (mvT hZ (hw _ (List.mem_of_getElem? (i := 98) rfl))) (mvT hZ (hw _ (List.mem_of_getElem? (i := 97) rfl))) (by decide) (backOfSH (s := s) (vm0 := T30.vm) (W := 1) (own_rep l Z a0 hw [] (a30) (t30) (kb30) (cnt) h30 n0 (O38.keep K43 (allS g2 (allS g4 (allS g10 (allS po13_1 all0))))) (Sr30) (by omega) hEL) hZ (hw _ (List.mem_of_getElem? (i := 99) rfl)) (hw _ (List.mem_of_getElem? (i := 41) rfl)) (by decide) (by decide) hEL C51.1) qa60 qc60 (g := (mkF m 24 #[.val (.long vv), .second, .val (.int ww), .val (.ref x_1)] [(.int (Int32.ofNat cnt)), (.ref a30), (.ref b7)])) rfl (by rw [hml]; rfl) (Steps.refl _) (argsL := [(.int (Int32.ofNat cnt))]) (rest := [(.ref b7)]) (lenOf own_pd24 rfl) rfl (by show 2 * 0 + _ ≤ _; exact Nat.le_of_eq rfl) (hb hby own_d_prog_10_method_5_code_24) (fun _ _ => ⟨rfl, hh47, (by decide : 6 + 2 ≤ _), (by decide : 52 + 64 ≤ _)⟩)
  dsimp only [Pt.U, Pt.locs, Pt.cells, Pt.slots] at X60 l60 y60 z60 st60 hQ60 CC60 hSq60 hgr60
  subst l60 y60 z60
  have hSn60 := foldS (s := s) (vm0 := T30.vm) hS30 (by rw [hh47]; exact (Nat.le_trans hk30 K43.1)) hSq60 hgr60
  have X60 : Stand p l e ({ frames := 6, cells := 12, slots := 720, locals := 117 } : Room) (s.setVm T60.vm) m #[(.long vv), (.int ww)] below meth c T60 _ _ _ := X60
  have hZ : Z.Warmed39 (s.setVm T60.vm).vm := State.Warmed39.trans (t := s.setVm T30.vm) hZ hSq60.1
  have hown : (s.setVm T60.vm).vm.findClass "com/example/uketsuke/uketsuke/store/IdFormat" = some m.cls := by show T60.vm.findClass _ = _; rw [hSq60.1.alike.findClass]; exact hown
  obtain ⟨x_60, t_60, kt_60, rfl, Nq60, Kq60, po60_0, po60_1⟩ := hQ60
  have N60 := Fr.app N47 Nq60
  have K61 : Keep h30 T60.heap [x_1, t_1, b7, d_13] := K43.trans Kq60 all0
  have CA62 : CHr Z consts_1 s.vm h0 T60.vm T60.heap := (CA36.trans C51).trans CC60
  have KA63 : Keep h0 T60.heap [] := KA37.trans K61 (allS (Or.inr bz32) (allS (Or.inr bz33) (allS (Or.inr bz34) (allS (Or.inr bz35) all0))))
  have O64 : Old Z n0 T60.heap := (O38.keep K61 (allS g2 (allS g4 (allS g10 (allS po13_1 all0)))))
  have Sf65 : Safe Z consts_1 T60.vm T60.heap x_1 := CHr.safe CC60 lt53 Sf52
  have Sf66 : Safe Z consts_1 T60.vm T60.heap t_1 := CHr.safe CC60 lt55 Sf54
  have Sf67 : Safe Z consts_1 T60.vm T60.heap b7 := CHr.safe CC60 lt57 Sf56
  have Sf68 : Safe Z consts_1 T60.vm T60.heap d_13 := CHr.safe CC60 lt59 Sf58
  have K69 : Keep T60.heap T60.heap [x_1, t_1, b7, d_13] := Keep.refl _ _
  have f70 : own_SB Z T60.heap b7 d_13 kd_13 16 ([] : List Int32) := (f50.keep Kq60 nin0 nin0)
  obtain ⟨vb71, -, hvb71, -⟩ := own_By.arv f70.2.2.2.2.1
  have nx71 : x_60 ≠ b7 := ne_exa po60_0.1 f70.1 (by decide)
  have ny71 : x_60 ≠ d_13 := ne_exa po60_0.1 f70.2.2.2.2.1.1 (by decide)
  have nz71 : b7 ≠ t_60 := Exa.neArv f70.1 po60_0.2.2.2.1 (hw _ (List.mem_of_getElem? (i := 63) rfl))
  have nt71 : t_60 ≠ d_13 := po60_1.elim (fun q => own_neLen po60_0.2.2.2.1 hvb71 (by rw [hlr, own_clamp (by omega), own_clamp (by decide)]; omega)) (fun q => Ne.symm (Nat.ne_of_lt (Nat.lt_of_lt_of_le hltd q)))
  have f73 : Exa Z T60.heap b7 "java/lang/StringBuilder" := ((po13_2.1.ext E30).keep Kq60)
  obtain ⟨cq72, kq72, qa72, qb72, qc72⟩ := isOf hZ rfl f73
  obtain ⟨_, _, ⟨T72, L72, k72, n72⟩, -, X72, ⟨Lc72, hQ72, l72, y72, z72⟩, st72⟩ := X60.virtualBack hx (y := (⟨"java/lang/StringBuilder", "append", "(Ljava/lang/String;)Ljava/lang/StringBuilder;"⟩ : MethodName)) (z := (⟨"java/lang/StringBuilder", "append", "(Ljava/lang/String;)Ljava/lang/StringBuilder;"⟩ : MethodName)) hown (mvT hZ (hw _ (List.mem_of_getElem? (i := 100) rfl))) (mvT hZ (hw _ (List.mem_of_getElem? (i := 101) rfl))) (notFace_of_selects (args := #[]) (mvT hZ (hw _ (List.mem_of_getElem? (i := 103) rfl)))) (mvT hZ (hw _ (List.mem_of_getElem? (i := 103) rfl))) (mvT hZ (hw _ (List.mem_of_getElem? (i := 102) rfl))) (by decide) (backOf (W := 0) (own_appS l Z a0 hw [] (b7) (d_13) (kd_13) (16) (([] : List Int32)) (x_60) (t_60) (kt_60) ((List.replicate cnt (48 : Int32))) (gCS) T60.heap n0 (O64.keep K69 (allS g2 (allS g4 (allS g10 (allS po13_1 all0))))) (f70) (g10) (po13_1) (po60_0) (nx71) (ny71) ((Ne.symm nz71)) (nt71) (by decide) (by intro q; rw [hl0, hlr] at q; rw [hl0, hlr]; omega) (by decide) (hp3) (hG1)) hZ (hw _ (List.mem_of_getElem? (i := 104) rfl)) (hw _ (List.mem_of_getElem? (i := 64) rfl)) (by decide) (by decide)) qa72 qc72 (g := (mkF m 27 #[.val (.long vv), .second, .val (.int ww), .val (.ref x_1)] [(.ref x_60), (.ref b7)])) rfl (by rw [hml]; rfl) (Steps.refl _) (argsL := [(.ref x_60)]) (rest := []) (lenOf own_pd25 rfl) rfl (by show 2 * 0 + _ ≤ _; exact Nat.le_of_eq rfl) (hb hby own_d_prog_10_method_5_code_27) (fun _ _ => ⟨rfl, rfl, (by decide : 8 + 1 ≤ _), (by decide : 116 + 200 ≤ _)⟩)
  dsimp only [Pt.U, Pt.locs, Pt.cells, Pt.slots] at X72 l72 y72 z72 st72 hQ72
  subst l72 y72 z72
  obtain ⟨d2_72, k2_72, N2_72, rfl, Nq72, Kq72, po72_0, po72_1, po72_2, po72_3⟩ := hQ72
  have N72 := Fr.app N60 Nq72
  have ne74 : x_1 ≠ d2_72 := own_orne po72_0 ne14 (Nat.lt_of_lt_of_le po1_3.1.lt (Nat.le_trans (Nat.le_trans (Nat.le_trans E7.1 Kq13.1) E30.1) Kq60.1))
  have ne75 : t_1 ≠ d2_72 := own_orne po72_0 ne15 (Nat.lt_of_lt_of_le po1_3.2.2.2.1.lt (Nat.le_trans (Nat.le_trans (Nat.le_trans E7.1 Kq13.1) E30.1) Kq60.1))
  have ne76 : b7 ≠ d2_72 := own_orne po72_0 ne16 (Nat.lt_of_lt_of_le A7.lt (Nat.le_trans (Nat.le_trans Kq13.1 E30.1) Kq60.1))
  have ne77 : a30 ≠ d2_72 := own_orne po72_0 (Ne.symm (hne30 _ Sf42).1) (Nat.lt_of_lt_of_le Sr30.1.lt Kq60.1)
  have ne78 : t30 ≠ d2_72 := own_orne po72_0 (Ne.symm (hne30 _ Sf42).2) (Nat.lt_of_lt_of_le Sr30.2.2.2.1.lt Kq60.1)
  have ne79 : x_60 ≠ d2_72 := own_orne po72_0 ny71 po60_0.1.lt
  have ne80 : t_60 ≠ d2_72 := own_orne po72_0 nt71 po60_0.2.2.2.1.lt
  have g81 : n0 ≤ d2_72 := own_orle po72_0 po13_1 (Nat.le_trans (own_le O64) K69.1)
  have K82 : Keep T60.heap T72.heap [x_1, t_1, b7, d_13] := K69.trans Kq72 (allS (Or.inl (List.mem_of_getElem? (i := 2) rfl)) (allS (Or.inl (List.mem_of_getElem? (i := 3) rfl)) all0))
  have hA := po72_3
  have f83 : own_Str Z T72.heap x_1 t_1 kt_1 (own_decL nn) := ((f44.keep Kq60 nin0 nin0).keep Kq72 (ninS ne8 (ninS ne14 nin0)) (ninS ne9 (ninS ne15 nin0)))
  obtain ⟨cq84, kq84, qa84, qb84, qc84⟩ := isOf hZ rfl po72_2.1
  obtain ⟨_, _, ⟨T84, L84, k84, n84⟩, -, X84, ⟨Lc84, hQ84, l84, y84, z84⟩, st84⟩ := X72.virtualBack hx (y := (⟨"java/lang/StringBuilder", "append", "(Ljava/lang/String;)Ljava/lang/StringBuilder;"⟩ : MethodName)) (z := (⟨"java/lang/StringBuilder", "append", "(Ljava/lang/String;)Ljava/lang/StringBuilder;"⟩ : MethodName)) hown (mvT hZ (hw _ (List.mem_of_getElem? (i := 100) rfl))) (mvT hZ (hw _ (List.mem_of_getElem? (i := 101) rfl))) (notFace_of_selects (args := #[]) (mvT hZ (hw _ (List.mem_of_getElem? (i := 103) rfl)))) (mvT hZ (hw _ (List.mem_of_getElem? (i := 103) rfl))) (mvT hZ (hw _ (List.mem_of_getElem? (i := 102) rfl))) (by decide) (backOf (W := 0) (own_appS l Z a0 hw [] (b7) (d2_72) (k2_72) (N2_72) ((([] : List Int32) ++ (List.replicate cnt (48 : Int32)))) (x_1) (t_1) (kt_1) ((own_decL nn)) (gCS) T72.heap n0 (O64.keep K82 (allS g2 (allS g4 (allS g10 (allS po13_1 all0))))) (po72_2) (g10) (po72_1) (f83) (ne8) (ne74) (ne9) (ne75) (by omega) (by intro q; rw [hl1, hld] at q; rw [hl1, hld]; omega) (by omega) (hp3) (hG1)) hZ (hw _ (List.mem_of_getElem? (i := 104) rfl)) (hw _ (List.mem_of_getElem? (i := 64) rfl)) (by decide) (by decide)) qa84 qc84 (g := (mkF m 31 #[.val (.long vv), .second, .val (.int ww), .val (.ref x_1)] [(.ref x_1), (.ref b7)])) rfl (by rw [hml]; rfl) (Steps.refl _) (argsL := [(.ref x_1)]) (rest := []) (lenOf own_pd25 rfl) rfl (by show 2 * 0 + _ ≤ _; exact Nat.le_of_eq rfl) (hb hby own_d_prog_10_method_5_code_31) (fun _ _ => ⟨rfl, rfl, (by decide : 9 + 1 ≤ _), (by decide : 316 + 200 ≤ _)⟩)
  dsimp only [Pt.U, Pt.locs, Pt.cells, Pt.slots] at X84 l84 y84 z84 st84 hQ84
  subst l84 y84 z84
  obtain ⟨d2_84, k2_84, N2_84, rfl, Nq84, Kq84, po84_0, po84_1, po84_2, po84_3⟩ := hQ84
  have N84 := Fr.app N72 Nq84
  have ne85 : x_1 ≠ d2_84 := own_orne po84_0 ne74 (Nat.lt_of_lt_of_le po1_3.1.lt (Nat.le_trans (Nat.le_trans (Nat.le_trans (Nat.le_trans E7.1 Kq13.1) E30.1) Kq60.1) Kq72.1))
  have ne86 : t_1 ≠ d2_84 := own_orne po84_0 ne75 (Nat.lt_of_lt_of_le po1_3.2.2.2.1.lt (Nat.le_trans (Nat.le_trans (Nat.le_trans (Nat.le_trans E7.1 Kq13.1) E30.1) Kq60.1) Kq72.1))
  have ne87 : b7 ≠ d2_84 := own_orne po84_0 ne76 (Nat.lt_of_lt_of_le A7.lt (Nat.le_trans (Nat.le_trans (Nat.le_trans Kq13.1 E30.1) Kq60.1) Kq72.1))
  have ne88 : a30 ≠ d2_84 := own_orne po84_0 ne77 (Nat.lt_of_lt_of_le Sr30.1.lt (Nat.le_trans Kq60.1 Kq72.1))
  have ne89 : t30 ≠ d2_84 := own_orne po84_0 ne78 (Nat.lt_of_lt_of_le Sr30.2.2.2.1.lt (Nat.le_trans Kq60.1 Kq72.1))
  have ne90 : x_60 ≠ d2_84 := own_orne po84_0 ne79 (Nat.lt_of_lt_of_le po60_0.1.lt Kq72.1)
  have ne91 : t_60 ≠ d2_84 := own_orne po84_0 ne80 (Nat.lt_of_lt_of_le po60_0.2.2.2.1.lt Kq72.1)
  have g92 : n0 ≤ d2_84 := own_orle po84_0 po72_1 (Nat.le_trans (own_le O64) K82.1)
  have K93 : Keep T60.heap T84.heap [x_1, t_1, b7, d_13] := K82.trans Kq84 (allS (Or.inl (List.mem_of_getElem? (i := 2) rfl)) (allS ((po72_0).elim (fun q => Or.inl (q ▸ List.mem_of_getElem? (i := 3) rfl)) (fun q => Or.inr (Nat.le_trans K69.1 q))) all0))
  have hB := po84_3
  obtain ⟨cq94, kq94, qa94, qb94, qc94⟩ := isOf hZ rfl po84_2.1
  obtain ⟨_, _, ⟨T94, L94, k94, n94⟩, -, X94, ⟨Lc94, hQ94, l94, y94, z94⟩, st94⟩ := X84.virtualBack hx (y := (⟨"java/lang/StringBuilder", "toString", "()Ljava/lang/String;"⟩ : MethodName)) (z := (⟨"java/lang/StringBuilder", "toString", "()Ljava/lang/String;"⟩ : MethodName)) hown (mvT hZ (hw _ (List.mem_of_getElem? (i := 138) rfl))) (mvT hZ (hw _ (List.mem_of_getElem? (i := 139) rfl))) (notFace_of_selects (args := #[]) (mvT hZ (hw _ (List.mem_of_getElem? (i := 141) rfl)))) (mvT hZ (hw _ (List.mem_of_getElem? (i := 141) rfl))) (mvT hZ (hw _ (List.mem_of_getElem? (i := 140) rfl))) (by decide) (backOf (W := 0) (own_toStr l Z a0 hw [] (b7) (d2_84) (k2_84) (N2_84) (((([] : List Int32) ++ (List.replicate cnt (48 : Int32))) ++ (own_decL nn))) (gCS) T84.heap n0 (O64.keep K93 (allS g2 (allS g4 (allS g10 (allS po13_1 all0))))) (po84_2) (by rw [hl2]; omega) (hp3) (hG1)) hZ (hw _ (List.mem_of_getElem? (i := 142) rfl)) (hw _ (List.mem_of_getElem? (i := 64) rfl)) (by decide) (by decide)) qa94 qc94 (g := (mkF m 34 #[.val (.long vv), .second, .val (.int ww), .val (.ref x_1)] [(.ref b7)])) rfl (by rw [hml]; rfl) (Steps.refl _) (argsL := []) (rest := []) (lenOf own_pd26 rfl) rfl (by show 2 * 0 + _ ≤ _; exact Nat.le_of_eq rfl) (hb hby own_d_prog_10_method_5_code_34) (fun _ _ => ⟨rfl, rfl, (by decide : 10 + 2 ≤ _), (by decide : 516 + 204 ≤ _)⟩)
  dsimp only [Pt.U, Pt.locs, Pt.cells, Pt.slots] at X94 l94 y94 z94 st94 hQ94
  subst l94 y94 z94
  obtain ⟨x_94, t_94, kt_94, rfl, Nq94, Kq94, po94_0, po94_1, po94_2, po94_3⟩ := hQ94
  have N94 := Fr.app N84 Nq94
  have ne95 : x_1 ≠ x_94 := Nat.ne_of_lt (Nat.lt_of_lt_of_le (Nat.lt_of_lt_of_le po1_3.1.lt (Nat.le_trans (Nat.le_trans (Nat.le_trans (Nat.le_trans (Nat.le_trans E7.1 Kq13.1) E30.1) Kq60.1) Kq72.1) Kq84.1)) po94_0)
  have ne96 : t_1 ≠ x_94 := Nat.ne_of_lt (Nat.lt_of_lt_of_le (Nat.lt_of_lt_of_le po1_3.2.2.2.1.lt (Nat.le_trans (Nat.le_trans (Nat.le_trans (Nat.le_trans (Nat.le_trans E7.1 Kq13.1) E30.1) Kq60.1) Kq72.1) Kq84.1)) po94_0)
  have ne97 : b7 ≠ x_94 := Nat.ne_of_lt (Nat.lt_of_lt_of_le (Nat.lt_of_lt_of_le A7.lt (Nat.le_trans (Nat.le_trans (Nat.le_trans (Nat.le_trans Kq13.1 E30.1) Kq60.1) Kq72.1) Kq84.1)) po94_0)
  have ne98 : d_13 ≠ x_94 := Nat.ne_of_lt (Nat.lt_of_lt_of_le (Nat.lt_of_lt_of_le po13_2.2.2.2.2.1.lt (Nat.le_trans (Nat.le_trans (Nat.le_trans E30.1 Kq60.1) Kq72.1) Kq84.1)) po94_0)
  have ne99 : a30 ≠ x_94 := Nat.ne_of_lt (Nat.lt_of_lt_of_le (Nat.lt_of_lt_of_le Sr30.1.lt (Nat.le_trans (Nat.le_trans Kq60.1 Kq72.1) Kq84.1)) po94_0)
  have ne100 : t30 ≠ x_94 := Nat.ne_of_lt (Nat.lt_of_lt_of_le (Nat.lt_of_lt_of_le Sr30.2.2.2.1.lt (Nat.le_trans (Nat.le_trans Kq60.1 Kq72.1) Kq84.1)) po94_0)
  have ne101 : x_60 ≠ x_94 := Nat.ne_of_lt (Nat.lt_of_lt_of_le (Nat.lt_of_lt_of_le po60_0.1.lt (Nat.le_trans Kq72.1 Kq84.1)) po94_0)
  have ne102 : t_60 ≠ x_94 := Nat.ne_of_lt (Nat.lt_of_lt_of_le (Nat.lt_of_lt_of_le po60_0.2.2.2.1.lt (Nat.le_trans Kq72.1 Kq84.1)) po94_0)
  have ne103 : d2_72 ≠ x_94 := Nat.ne_of_lt (Nat.lt_of_lt_of_le (Nat.lt_of_lt_of_le po72_2.2.2.2.2.1.lt Kq84.1) po94_0)
  have ne104 : d2_84 ≠ x_94 := Nat.ne_of_lt (Nat.lt_of_lt_of_le po84_2.2.2.2.2.1.lt po94_0)
  have g105 : n0 ≤ x_94 := Nat.le_trans (Nat.le_trans (own_le O64) K93.1) po94_0
  have b106 : T60.heap.size ≤ x_94 := Nat.le_trans K93.1 po94_0
  have ne107 : x_1 ≠ t_94 := Nat.ne_of_lt (Nat.lt_of_lt_of_le (Nat.lt_of_lt_of_le po1_3.1.lt (Nat.le_trans (Nat.le_trans (Nat.le_trans (Nat.le_trans (Nat.le_trans E7.1 Kq13.1) E30.1) Kq60.1) Kq72.1) Kq84.1)) po94_1)
  have ne108 : t_1 ≠ t_94 := Nat.ne_of_lt (Nat.lt_of_lt_of_le (Nat.lt_of_lt_of_le po1_3.2.2.2.1.lt (Nat.le_trans (Nat.le_trans (Nat.le_trans (Nat.le_trans (Nat.le_trans E7.1 Kq13.1) E30.1) Kq60.1) Kq72.1) Kq84.1)) po94_1)
  have ne109 : b7 ≠ t_94 := Nat.ne_of_lt (Nat.lt_of_lt_of_le (Nat.lt_of_lt_of_le A7.lt (Nat.le_trans (Nat.le_trans (Nat.le_trans (Nat.le_trans Kq13.1 E30.1) Kq60.1) Kq72.1) Kq84.1)) po94_1)
  have ne110 : d_13 ≠ t_94 := Nat.ne_of_lt (Nat.lt_of_lt_of_le (Nat.lt_of_lt_of_le po13_2.2.2.2.2.1.lt (Nat.le_trans (Nat.le_trans (Nat.le_trans E30.1 Kq60.1) Kq72.1) Kq84.1)) po94_1)
  have ne111 : a30 ≠ t_94 := Nat.ne_of_lt (Nat.lt_of_lt_of_le (Nat.lt_of_lt_of_le Sr30.1.lt (Nat.le_trans (Nat.le_trans Kq60.1 Kq72.1) Kq84.1)) po94_1)
  have ne112 : t30 ≠ t_94 := Nat.ne_of_lt (Nat.lt_of_lt_of_le (Nat.lt_of_lt_of_le Sr30.2.2.2.1.lt (Nat.le_trans (Nat.le_trans Kq60.1 Kq72.1) Kq84.1)) po94_1)
  have ne113 : x_60 ≠ t_94 := Nat.ne_of_lt (Nat.lt_of_lt_of_le (Nat.lt_of_lt_of_le po60_0.1.lt (Nat.le_trans Kq72.1 Kq84.1)) po94_1)
  have ne114 : t_60 ≠ t_94 := Nat.ne_of_lt (Nat.lt_of_lt_of_le (Nat.lt_of_lt_of_le po60_0.2.2.2.1.lt (Nat.le_trans Kq72.1 Kq84.1)) po94_1)
  have ne115 : d2_72 ≠ t_94 := Nat.ne_of_lt (Nat.lt_of_lt_of_le (Nat.lt_of_lt_of_le po72_2.2.2.2.2.1.lt Kq84.1) po94_1)
  have ne116 : d2_84 ≠ t_94 := Nat.ne_of_lt (Nat.lt_of_lt_of_le po84_2.2.2.2.2.1.lt po94_1)
  have g117 : n0 ≤ t_94 := Nat.le_trans (Nat.le_trans (own_le O64) K93.1) po94_1
  have b118 : T60.heap.size ≤ t_94 := Nat.le_trans K93.1 po94_1
  have K119 : Keep T60.heap T94.heap [x_1, t_1, b7, d_13] := K93.trans Kq94 all0
  have C120 : CHr Z consts_1 T60.vm T60.heap T60.vm T94.heap := CHr.keep K119 (allS Sf65 (allS Sf66 (allS Sf67 (allS Sf68 all0)))) CC60.1
  have CAe : CHr Z consts_1 s.vm h0 T60.vm T94.heap := CA62.trans C120
  have CAf : CHr Z consts_1 s.vm h0 T94.vm T94.heap := CAe.trans (CHv.at (s := s) (vm0 := T60.vm) X94 hZ hEL CAe.1)
  obtain ⟨fs, hr, hrun, hended, hRW⟩ := Stand.leaveW (s := s) (vm₁ := T60.vm) X94 hSn60 (Nat.le_trans (Nat.le_refl _) K119.1) (v := some (.ref x_94)) (fun h => by rw [Bd.returns] at h; cases h)
  refine ⟨_, _, r49 _ ?_, hrun, hended, _, _, rfl, ?_, (by show CHr Z consts_1 s.vm s.heap T94.vm T94.heap; rw [hh]; exact CAf), ⟨hRW.1, hRW.2.1, hRW.2.2.1, hRW.2.2.2.mono (by decide) (by decide)⟩⟩
  · show Steps p.tables e below (T47.setTop (mkF m 24 #[.val (.long vv), .second, .val (.int ww), .val (.ref x_1)] [(.int (Int32.ofNat cnt)), (.ref a30), (.ref b7)])) _
    refine st60.trans ?_
    show Steps p.tables e below (T60.setTop (mkF m 27 #[.val (.long vv), .second, .val (.int ww), .val (.ref x_1)] [(.ref x_60), (.ref b7)])) _
    refine st72.trans ?_
    show Steps p.tables e below (T72.setTop (mkF m 30 #[.val (.long vv), .second, .val (.int ww), .val (.ref x_1)] [(.ref b7)])) _
    refine XS.aloadN X72.here hx rfl (hb hby own_d_prog_10_method_5_code_30) rfl rfl ?_
    show Steps p.tables e below (T72.setTop (mkF m 31 #[.val (.long vv), .second, .val (.int ww), .val (.ref x_1)] [(.ref x_1), (.ref b7)])) _
    refine st84.trans ?_
    show Steps p.tables e below (T84.setTop (mkF m 34 #[.val (.long vv), .second, .val (.int ww), .val (.ref x_1)] [(.ref b7)])) _
    refine st94.trans ?_
    show Steps p.tables e below (T94.setTop (mkF m 37 #[.val (.long vv), .second, .val (.int ww), .val (.ref x_1)] [(.ref x_94)])) _
    exact retOut X94 hx (t := (.object "java/lang/String")) Bd.returns rfl (Or.inr (Or.inr (Or.inr (Or.inr ⟨rfl, rfl, rfl⟩)))) (hb hby own_d_prog_10_method_5_code_37) hr
  · show Q_own_idg Z vv ww nn cnt gCS ist dt1 dt2 cD1 cD2 h0 n0 _ T94.heap _
    exact ⟨x_94, t_94, kt_94, rfl, N94, (KA63.trans K119 (allS (Or.inr bz32) (allS (Or.inr bz33) (allS (Or.inr bz34) (allS (Or.inr bz35) all0))))), (Nat.le_trans KA63.1 b106), (Nat.le_trans KA63.1 b118), po94_2, po94_3⟩
theorem own_pn_own_ge : plainName "com/example/uketsuke/uketsuke/store/IdFormatDigitsPinLaw" = true := by first | (simp [plainName, overriddenIn]; done) | decide +kernel
theorem own_ef_own_ge (m : MethodId) (vv : Int64) (pw : Int64) : entryFrame m #[(.long vv), (.long pw)] 4 = mkF m 0 #[.val (.long vv), .second, .val (.long pw), .second] [] := by first | (simp [entryFrame, mkF, argsToLocals, own_cI, own_cJ, own_cR, own_cN]; done) | rfl
abbrev own_F_own_ge (m : MethodId) (vv : Int64) (pw : Int64) : JFrame := entryFrame m #[(.long vv), (.long pw)] 4
def Q_own_ge (Z : State) (vv : Int64) (pw : Int64) (h0 : Heap) (n0 : Nat) (v : Option Value) (h : Heap) (L : List Loc) : Prop := v = some (.int (if vv < pw then (0 : Int32) else (1 : Int32))) ∧ Fr n0 L ∧ h = h0
set_option maxRecDepth 65536 in
set_option maxHeartbeats 40000000 in
theorem own_ge (l : Launch) (Z : State) (a0 : Array Value) (hw : ∀ d ∈ tables_1, d.before a0 Z = true) (ws : List Jvm.Cond) (vv : Int64) (pw : Int64) (h0 : Heap) (n0 : Nat) (O0 : Old Z n0 h0) :
    MetFree l (⟨"com/example/uketsuke/uketsuke/store/IdFormatDigitsPinLaw", "ge", "(JJ)I"⟩ : MethodName) (head1 (Jvm.Cond.code (⟨"com/example/uketsuke/uketsuke/store/IdFormatDigitsPinLaw", "ge", "(JJ)I"⟩ : MethodName) method_2_code 4 (some .int) :: ws) ({ frames := 0, cells := 0, slots := 0, locals := 0 } : Room)) (fun aa_ U_ => aa_ = #[(.long vv), (.long pw)] ∧ Z.Warmed39 U_.vm ∧ U_.heap = h0) (fun _ _ _ _ _ => True) (fun _ U_ o_ V_ => ∃ v_ L_, o_ = .returned v_ ∧ Q_own_ge Z vv pw h0 n0 v_ V_.heap L_ ∧ FrameEnd U_ o_ V_ L_ ({ frames := 0, cells := 0, slots := 0, locals := 0 } : Room).cells ({ frames := 0, cells := 0, slots := 0, locals := 0 } : Room).slots) := by
  refine MetFree.of_bodySF (plainFor_of_name own_pn_own_ge) hisR ?_
  intro p e s m args below meth c s₁ Bd hml0 hP hK
  obtain ⟨rfl, hZ, hh⟩ := hP
  have hx := Bd.exec
  have hby := Bd.bytes
  have hml : c.maxLocals = 4 := hml0
  have hown : s.vm.findClass "com/example/uketsuke/uketsuke/store/IdFormatDigitsPinLaw" = some m.cls := findClass_of_methodNamed Bd.named
  have hnm := (name_of_methodNamed Bd.named Bd.method).1
  have X0 : Stand p l e ({ frames := 0, cells := 0, slots := 0, locals := 0 } : Room) s m #[(.long vv), (.long pw)] below meth c s₁ [] 0 0 := Stand.of_body Bd
  have e0 : s₁.heap = h0 := by rw [← hh, Bd.state]; rfl
  have N0 := Fr.nil n0
  have K0 : Keep h0 h0 [] := Keep.refl _ _
  have r0 : GoTo p.tables e below s₁ (own_F_own_ge m vv pw) s₁ (mkF m 0 #[.val (.long vv), .second, .val (.long pw), .second] []) := fun tt_ kk_ => castTop (own_ef_own_ge m vv pw) kk_
  have r1 : GoTo p.tables e below s₁ (own_F_own_ge m vv pw) s₁ (mkF m 3 #[.val (.long vv), .second, .val (.long pw), .second] [(.int (lcmpW vv pw))]) := fun tt_ kk_ => r0 tt_ (by
      show Steps p.tables e below (s₁.setTop (mkF m 0 #[.val (.long vv), .second, .val (.long pw), .second] [])) _
      refine XS.lloadN X0.here hx rfl (hb hby own_d_method_2_code_0) rfl ?_
      show Steps p.tables e below (s₁.setTop (mkF m 1 #[.val (.long vv), .second, .val (.long pw), .second] [(.long vv)])) _
      refine XS.lloadN X0.here hx rfl (hb hby own_d_method_2_code_1) rfl ?_
      show Steps p.tables e below (s₁.setTop (mkF m 2 #[.val (.long vv), .second, .val (.long pw), .second] [(.long pw), (.long vv)])) _
      refine XS.lcmp X0.here hx rfl (hb hby own_d_method_2_code_2) rfl ?_
      show Steps p.tables e below (s₁.setTop (mkF m 3 #[.val (.long vv), .second, .val (.long pw), .second] [(.int (lcmpW vv pw))])) _
      exact kk_)
  by_cases hc2 : (lcmpW vv pw) < (0 : Int32)
  · obtain ⟨fs, hr, hrun, hended, hW, hsame⟩ := X0.leave (v := some (.int (0 : Int32))) (fun h => by rw [Bd.returns] at h; cases h)
    refine ⟨_, _, r1 _ ?_, hrun, hended, _, _, rfl, ?_, ⟨_, rfl⟩, hW, hsame.mono (by decide) (by decide)⟩
    · show Steps p.tables e below (s₁.setTop (mkF m 3 #[.val (.long vv), .second, .val (.long pw), .second] [(.int (lcmpW vv pw))])) _
      refine XS.ifYes X0.here hx rfl (pc0 := 3) (pc' := 10) rfl (hb hby own_d_method_2_code_3) rfl ((if0 _ _).trans (tlt hc2).1) (by decide) (by decide) ?_
      show Steps p.tables e below (s₁.setTop (mkF m 10 #[.val (.long vv), .second, .val (.long pw), .second] [])) _
      refine XS.iconst X0.here hx rfl (hb hby own_d_method_2_code_10) ?_
      show Steps p.tables e below (s₁.setTop (mkF m 11 #[.val (.long vv), .second, .val (.long pw), .second] [(.int (0 : Int32))])) _
      exact retI X0 hx Bd.returns (hb hby own_d_method_2_code_11) hr
    · show Q_own_ge Z vv pw h0 n0 _ s₁.heap _
      rw [e0]
      exact ⟨(by rw [if_pos ((lw_lt _ _).mp hc2)]), N0, rfl⟩
  · obtain ⟨fs, hr, hrun, hended, hW, hsame⟩ := X0.leave (v := some (.int (1 : Int32))) (fun h => by rw [Bd.returns] at h; cases h)
    refine ⟨_, _, r1 _ ?_, hrun, hended, _, _, rfl, ?_, ⟨_, rfl⟩, hW, hsame.mono (by decide) (by decide)⟩
    · show Steps p.tables e below (s₁.setTop (mkF m 3 #[.val (.long vv), .second, .val (.long pw), .second] [(.int (lcmpW vv pw))])) _
      refine XS.ifNo X0.here hx rfl (hb hby own_d_method_2_code_3) rfl ((if0 _ _).trans (flt hc2).1) ?_
      show Steps p.tables e below (s₁.setTop (mkF m 6 #[.val (.long vv), .second, .val (.long pw), .second] [])) _
      refine XS.iconst X0.here hx rfl (hb hby own_d_method_2_code_6) ?_
      show Steps p.tables e below (s₁.setTop (mkF m 7 #[.val (.long vv), .second, .val (.long pw), .second] [(.int (1 : Int32))])) _
      refine XS.goto X0.here hx rfl (pc0 := 7) (pc' := 11) rfl (hb hby own_d_method_2_code_7) (by decide) (by decide) ?_
      show Steps p.tables e below (s₁.setTop (mkF m 11 #[.val (.long vv), .second, .val (.long pw), .second] [(.int (1 : Int32))])) _
      exact retI X0 hx Bd.returns (hb hby own_d_method_2_code_11) hr
    · show Q_own_ge Z vv pw h0 n0 _ s₁.heap _
      rw [e0]
      exact ⟨(by rw [if_neg (fun q => hc2 ((lw_lt _ _).mpr q))]), N0, rfl⟩
theorem own_pn_own_law : plainName "com/example/uketsuke/uketsuke/store/IdFormatDigitsPinLaw" = true := by first | (simp [plainName, overriddenIn]; done) | decide +kernel
theorem own_ef_own_law (m : MethodId) (lq0 : Int64) (i2 : Int32) (i3 : Int32) : entryFrame m #[(.long lq0), (.int i2), (.int i3)] maxLocals = mkF m 0 #[.val (.long lq0), .second, .val (.int i2), .val (.int i3), .unset, .unset, .unset, .unset, .unset, .unset, .unset, .unset, .unset, .unset, .unset] [] := by first | (simp [entryFrame, mkF, argsToLocals, own_cI, own_cJ, own_cR, own_cN, maxLocals]; done) | rfl
abbrev own_F_own_law (m : MethodId) (lq0 : Int64) (i2 : Int32) (i3 : Int32) : JFrame := entryFrame m #[(.long lq0), (.int i2), (.int i3)] maxLocals
def Q_own_law (Z : State) (lq0 : Int64) (i2 : Int32) (i3 : Int32) (gCS : Int32) (gFM : Value) (ist : Addr) (dt1 : Addr) (dt2 : Addr) (cD1 : Cell) (cD2 : Cell) (h0 : Heap) (n0 : Nat) (v : Option Value) (h : Heap) (L : List Loc) : Prop := v = some (.int (1 : Int32)) ∧ Fr n0 L
set_option maxRecDepth 65536 in
set_option maxHeartbeats 40000000 in
theorem own_law (l : Launch) (Z : State) (a0 : Array Value) (hw : ∀ d ∈ tables_1, d.before a0 Z = true) (ws : List Jvm.Cond) (lq0 : Int64) (i2 : Int32) (i3 : Int32) (gCS : Int32) (gFM : Value) (ist : Addr) (dt1 : Addr) (dt2 : Addr) (cD1 : Cell) (cD2 : Cell) (h0 : Heap) (n0 : Nat) (O0 : Old Z n0 h0) (hp0 : Sta Z Z.heap "java/lang/String" "COMPACT_STRINGS" "Z" (.int gCS)) (hG1 : ¬ gCS = (0 : Int32)) (hp2 : Sta Z Z.heap "jdk/internal/util/Preconditions" "SIOOBE_FORMATTER" "Ljava/util/function/BiFunction;" gFM) (hG3 : gFM.isRef = true) (hT1 : Jvm.Free.SBG.Tbl Z "DigitOnes" ist dt1 cD1) (hT2 : Jvm.Free.SBG.Tbl Z "DigitTens" ist dt2 cD2) (hO1 : Jvm.Free.SBG.Ones cD1) (hO2 : Jvm.Free.SBG.Tens cD2) (hp8 : ist < n0) (hp9 : dt1 < n0) (hp10 : dt2 < n0) (hD1 : Z.heap[dt1]? = some cD1) (hD2 : Z.heap[dt2]? = some cD2) (hEL : EW Z a0 consts_1) :
    MetFree l x (head1 (Jvm.Cond.code x code maxLocals ret :: ws) room_1) (fun aa_ U_ => aa_ = #[(.long lq0), (.int i2), (.int i3)] ∧ Z.Warmed39 U_.vm ∧ U_.heap = h0 ∧ CHv Z consts_1 U_.vm h0) (fun _ _ _ _ _ => True) (fun _ U_ o_ V_ => ∃ v_ L_, o_ = .returned v_ ∧ Q_own_law Z lq0 i2 i3 gCS gFM ist dt1 dt2 cD1 cD2 h0 n0 v_ V_.heap L_ ∧ ReturnedEndW U_ o_ V_ L_ room_1.cells room_1.slots) := by
  refine MetFree.of_bodySF (plainFor_of_name own_pn_own_law) hisR ?_
  intro p e s m args below meth c s₁ Bd hml0 hP hK
  obtain ⟨rfl, hZ, hh, hC0⟩ := hP
  have hx := Bd.exec
  have hby := Bd.bytes
  have hml : c.maxLocals = 15 := hml0
  have hown : s.vm.findClass "com/example/uketsuke/uketsuke/store/IdFormatDigitsPinLaw" = some m.cls := findClass_of_methodNamed Bd.named
  have hnm := (name_of_methodNamed Bd.named Bd.method).1
  have X0 : Stand p l e room_1 s m #[(.long lq0), (.int i2), (.int i3)] below meth c s₁ [] 0 0 := Stand.of_body Bd
  have e0 : s₁.heap = h0 := by rw [← hh, Bd.state]; rfl
  have N0 := Fr.nil n0
  have hS0 : s.Since s.vm 0 := (State.WarmedH.refl s).since 0
  have CA0 : CHr Z consts_1 s.vm h0 s.vm h0 := CHr.refl hC0
  have KA0 : Keep h0 h0 [] := Keep.refl _ _
  have K0 : Keep h0 h0 [] := Keep.refl _ _
  have r0 : GoTo p.tables e below s₁ (own_F_own_law m lq0 i2 i3) s₁ (mkF m 0 #[.val (.long lq0), .second, .val (.int i2), .val (.int i3), .unset, .unset, .unset, .unset, .unset, .unset, .unset, .unset, .unset, .unset, .unset] []) := fun tt_ kk_ => castTop (own_ef_own_law m lq0 i2 i3) kk_
  have r1 : GoTo p.tables e below s₁ (own_F_own_law m lq0 i2 i3) s₁ (mkF m 5 #[.val (.long lq0), .second, .val (.int i2), .val (.int i3), .unset, .unset, .unset, .unset, .unset, .unset, .unset, .unset, .unset, .unset, .unset] [(.long (lq0 &&& (9223372036854775807 : Int64)))]) := fun tt_ kk_ => r0 tt_ (by
      show Steps p.tables e below (s₁.setTop (mkF m 0 #[.val (.long lq0), .second, .val (.int i2), .val (.int i3), .unset, .unset, .unset, .unset, .unset, .unset, .unset, .unset, .unset, .unset, .unset] [])) _
      refine XS.lloadN X0.here hx rfl (hb hby at_0) rfl ?_
      show Steps p.tables e below (s₁.setTop (mkF m 1 #[.val (.long lq0), .second, .val (.int i2), .val (.int i3), .unset, .unset, .unset, .unset, .unset, .unset, .unset, .unset, .unset, .unset, .unset] [(.long lq0)])) _
      refine X0.ldc2J hx hown (mvT hZ (hw _ (List.mem_of_getElem? (i := 0) rfl))) rfl (hb hby at_1) ?_
      show Steps p.tables e below (s₁.setTop (mkF m 4 #[.val (.long lq0), .second, .val (.int i2), .val (.int i3), .unset, .unset, .unset, .unset, .unset, .unset, .unset, .unset, .unset, .unset, .unset] [(.long (9223372036854775807 : Int64)), (.long lq0)])) _
      refine XS.land X0.here hx rfl (hb hby at_4) rfl ?_
      show Steps p.tables e below (s₁.setTop (mkF m 5 #[.val (.long lq0), .second, .val (.int i2), .val (.int i3), .unset, .unset, .unset, .unset, .unset, .unset, .unset, .unset, .unset, .unset, .unset] [(.long (lq0 &&& (9223372036854775807 : Int64)))])) _
      exact kk_)
  obtain ⟨vv, h_vv⟩ : ∃ z : Int64, z = (lq0 &&& (9223372036854775807 : Int64)) := ⟨_, rfl⟩
  have r2 : GoTo p.tables e below s₁ (own_F_own_law m lq0 i2 i3) s₁ (mkF m 5 #[.val (.long lq0), .second, .val (.int i2), .val (.int i3), .unset, .unset, .unset, .unset, .unset, .unset, .unset, .unset, .unset, .unset, .unset] [(.long vv)]) := by rw [h_vv]; exact r1
  have r3 : GoTo p.tables e below s₁ (own_F_own_law m lq0 i2 i3) s₁ (mkF m 11 #[.val (.long lq0), .second, .val (.int i2), .val (.int i3), .val (.long vv), .second, .unset, .unset, .unset, .unset, .unset, .unset, .unset, .unset, .unset] [(.int (i2 % (48 : Int32)))]) := fun tt_ kk_ => r2 tt_ (by
      show Steps p.tables e below (s₁.setTop (mkF m 5 #[.val (.long lq0), .second, .val (.int i2), .val (.int i3), .unset, .unset, .unset, .unset, .unset, .unset, .unset, .unset, .unset, .unset, .unset] [(.long vv)])) _
      refine XS.lstore X0.here hx rfl (hb hby at_5) rfl (l' := #[.val (.long lq0), .second, .val (.int i2), .val (.int i3), .val (.long vv), .second, .unset, .unset, .unset, .unset, .unset, .unset, .unset, .unset, .unset]) rfl ?_
      show Steps p.tables e below (s₁.setTop (mkF m 7 #[.val (.long lq0), .second, .val (.int i2), .val (.int i3), .val (.long vv), .second, .unset, .unset, .unset, .unset, .unset, .unset, .unset, .unset, .unset] [])) _
      refine XS.iloadN X0.here hx rfl (hb hby at_7) rfl ?_
      show Steps p.tables e below (s₁.setTop (mkF m 8 #[.val (.long lq0), .second, .val (.int i2), .val (.int i3), .val (.long vv), .second, .unset, .unset, .unset, .unset, .unset, .unset, .unset, .unset, .unset] [(.int i2)])) _
      refine XS.bipush X0.here hx rfl (hb hby at_8) ?_
      show Steps p.tables e below (s₁.setTop (mkF m 10 #[.val (.long lq0), .second, .val (.int i2), .val (.int i3), .val (.long vv), .second, .unset, .unset, .unset, .unset, .unset, .unset, .unset, .unset, .unset] [(.int (48 : Int32)), (.int i2)])) _
      refine iremM X0 hx rfl (hb hby at_10) rfl (by decide) ?_
      show Steps p.tables e below (s₁.setTop (mkF m 11 #[.val (.long lq0), .second, .val (.int i2), .val (.int i3), .val (.long vv), .second, .unset, .unset, .unset, .unset, .unset, .unset, .unset, .unset, .unset] [(.int (i2 % (48 : Int32)))])) _
      exact kk_)
  obtain ⟨ww, h_ww⟩ : ∃ z : Int32, z = (i2 % (48 : Int32)) := ⟨_, rfl⟩
  have r4 : GoTo p.tables e below s₁ (own_F_own_law m lq0 i2 i3) s₁ (mkF m 11 #[.val (.long lq0), .second, .val (.int i2), .val (.int i3), .val (.long vv), .second, .unset, .unset, .unset, .unset, .unset, .unset, .unset, .unset, .unset] [(.int ww)]) := by rw [h_ww]; exact r3
  obtain ⟨nn, hvn⟩ : ∃ n : Nat, vv.toInt = n := by rw [h_vv]; exact own_land lq0
  have hn63 : nn < 2 ^ 63 := by have := vv.toInt_lt; omega
  have hdg := Jvm.Free.SBG.digitsL_pos nn
  have hd19 := own_d19 hn63
  obtain ⟨cnt, hcw, hmx, htot⟩ := own_cntEx (w := ww) (by rw [h_ww]; exact own_w48 i2) hdg.1 hd19
  obtain ⟨T5, h5, k5, X5, e5, E5, A5, st5⟩ := newP X0 hx hZ (hw _ (List.mem_of_getElem? (i := 1) rfl)) e0 (g := (mkF m 15 #[.val (.long lq0), .second, .val (.int i2), .val (.int i3), .val (.long vv), .second, .val (.int ww), .unset, .unset, .unset, .unset, .unset, .unset, .unset, .unset] [(.int (19 : Int32))])) rfl (hb hby at_15) rfl (by decide) (cap := 19) (by decide) (by decide) (by decide) (by decide)
  obtain ⟨b5, gg5⟩ : ∃ z, z = h0.size := ⟨_, rfl⟩
  rw [← gg5] at A5 st5
  have g6 : n0 ≤ b5 := Nat.le_trans (Nat.le_trans (own_le O0) K0.1) (Nat.le_of_eq gg5.symm)
  have b7 : h0.size ≤ b5 := Nat.le_trans K0.1 (Nat.le_of_eq gg5.symm)
  have K8 : Keep h0 h5 [] := K0.ext E5
  have V5 : Arv Z h5 b5 k5 .long (19 : Int32) [(.long (0 : Int64)), (.long (0 : Int64)), (.long (0 : Int64)), (.long (0 : Int64)), (.long (0 : Int64)), (.long (0 : Int64)), (.long (0 : Int64)), (.long (0 : Int64)), (.long (0 : Int64)), (.long (0 : Int64)), (.long (0 : Int64)), (.long (0 : Int64)), (.long (0 : Int64)), (.long (0 : Int64)), (.long (0 : Int64)), (.long (0 : Int64)), (.long (0 : Int64)), (.long (0 : Int64)), (.long (0 : Int64))] (.long (0 : Int64)) := (Arv.new A5 (by decide)).pad (pad_rep [] (.long (0 : Int64)) 19)
  obtain ⟨cl9, Ar9, q9, S9, NN9, H9, G9⟩ := id V5
  have hin9 : ¬ ((0 : Int32) < 0 ∨ cl9.slots.size ≤ ((0 : Int32)).toNatClampNeg) := inb_of S9 ⟨by decide, by decide⟩
  obtain ⟨T10, h10, X10, e10, W10, st10⟩ := stJ X5 hx hZ e5 Ar9 (j := (0 : Int32)) hin9 (g := (mkF m 20 #[.val (.long lq0), .second, .val (.int i2), .val (.int i3), .val (.long vv), .second, .val (.int ww), .unset, .unset, .unset, .unset, .unset, .unset, .unset, .unset] [(.long (1 : Int64)), (.int (0 : Int32)), (.ref b5), (.ref b5)])) rfl rfl (hb hby at_20)
  have K11 : Keep h0 h10 [] := K8.wr W10 (Or.inr b7)
  have V10 : Arv Z h10 b5 k5 .long (19 : Int32) [(.long (1 : Int64)), (.long (0 : Int64)), (.long (0 : Int64)), (.long (0 : Int64)), (.long (0 : Int64)), (.long (0 : Int64)), (.long (0 : Int64)), (.long (0 : Int64)), (.long (0 : Int64)), (.long (0 : Int64)), (.long (0 : Int64)), (.long (0 : Int64)), (.long (0 : Int64)), (.long (0 : Int64)), (.long (0 : Int64)), (.long (0 : Int64)), (.long (0 : Int64)), (.long (0 : Int64)), (.long (0 : Int64))] (.long (0 : Int64)) := Arv.set Ar9 q9 S9 NN9 H9 G9 rfl W10 0 rfl (Nat.le_of_ble_eq_true rfl)
  have N10 := Fr.snoc X10 N0 g6
  obtain ⟨cl12, Ar12, q12, S12, NN12, H12, G12⟩ := id V10
  have hin12 : ¬ ((1 : Int32) < 0 ∨ cl12.slots.size ≤ ((1 : Int32)).toNatClampNeg) := inb_of S12 ⟨by decide, by decide⟩
  obtain ⟨T13, h13, X13, e13, W13, st13⟩ := stJ X10 hx hZ e10 Ar12 (j := (1 : Int32)) hin12 (g := (mkF m 26 #[.val (.long lq0), .second, .val (.int i2), .val (.int i3), .val (.long vv), .second, .val (.int ww), .unset, .unset, .unset, .unset, .unset, .unset, .unset, .unset] [(.long (10 : Int64)), (.int (1 : Int32)), (.ref b5), (.ref b5)])) rfl rfl (hb hby at_26)
  have K14 : Keep h0 h13 [] := K11.wr W13 (Or.inr b7)
  have V13 : Arv Z h13 b5 k5 .long (19 : Int32) [(.long (1 : Int64)), (.long (10 : Int64)), (.long (0 : Int64)), (.long (0 : Int64)), (.long (0 : Int64)), (.long (0 : Int64)), (.long (0 : Int64)), (.long (0 : Int64)), (.long (0 : Int64)), (.long (0 : Int64)), (.long (0 : Int64)), (.long (0 : Int64)), (.long (0 : Int64)), (.long (0 : Int64)), (.long (0 : Int64)), (.long (0 : Int64)), (.long (0 : Int64)), (.long (0 : Int64)), (.long (0 : Int64))] (.long (0 : Int64)) := Arv.set Ar12 q12 S12 NN12 H12 G12 rfl W13 1 rfl (Nat.le_of_ble_eq_true rfl)
  have N13 := Fr.snoc X13 N10 g6
  obtain ⟨cl15, Ar15, q15, S15, NN15, H15, G15⟩ := id V13
  have hin15 : ¬ ((2 : Int32) < 0 ∨ cl15.slots.size ≤ ((2 : Int32)).toNatClampNeg) := inb_of S15 ⟨by decide, by decide⟩
  obtain ⟨T16, h16, X16, e16, W16, st16⟩ := stJ X13 hx hZ e13 Ar15 (j := (2 : Int32)) hin15 (g := (mkF m 32 #[.val (.long lq0), .second, .val (.int i2), .val (.int i3), .val (.long vv), .second, .val (.int ww), .unset, .unset, .unset, .unset, .unset, .unset, .unset, .unset] [(.long (100 : Int64)), (.int (2 : Int32)), (.ref b5), (.ref b5)])) rfl rfl (hb hby at_32)
  have K17 : Keep h0 h16 [] := K14.wr W16 (Or.inr b7)
  have V16 : Arv Z h16 b5 k5 .long (19 : Int32) [(.long (1 : Int64)), (.long (10 : Int64)), (.long (100 : Int64)), (.long (0 : Int64)), (.long (0 : Int64)), (.long (0 : Int64)), (.long (0 : Int64)), (.long (0 : Int64)), (.long (0 : Int64)), (.long (0 : Int64)), (.long (0 : Int64)), (.long (0 : Int64)), (.long (0 : Int64)), (.long (0 : Int64)), (.long (0 : Int64)), (.long (0 : Int64)), (.long (0 : Int64)), (.long (0 : Int64)), (.long (0 : Int64))] (.long (0 : Int64)) := Arv.set Ar15 q15 S15 NN15 H15 G15 rfl W16 2 rfl (Nat.le_of_ble_eq_true rfl)
  have N16 := Fr.snoc X16 N13 g6
  obtain ⟨cl18, Ar18, q18, S18, NN18, H18, G18⟩ := id V16
  have hin18 : ¬ ((3 : Int32) < 0 ∨ cl18.slots.size ≤ ((3 : Int32)).toNatClampNeg) := inb_of S18 ⟨by decide, by decide⟩
  obtain ⟨T19, h19, X19, e19, W19, st19⟩ := stJ X16 hx hZ e16 Ar18 (j := (3 : Int32)) hin18 (g := (mkF m 38 #[.val (.long lq0), .second, .val (.int i2), .val (.int i3), .val (.long vv), .second, .val (.int ww), .unset, .unset, .unset, .unset, .unset, .unset, .unset, .unset] [(.long (1000 : Int64)), (.int (3 : Int32)), (.ref b5), (.ref b5)])) rfl rfl (hb hby at_38)
  have K20 : Keep h0 h19 [] := K17.wr W19 (Or.inr b7)
  have V19 : Arv Z h19 b5 k5 .long (19 : Int32) [(.long (1 : Int64)), (.long (10 : Int64)), (.long (100 : Int64)), (.long (1000 : Int64)), (.long (0 : Int64)), (.long (0 : Int64)), (.long (0 : Int64)), (.long (0 : Int64)), (.long (0 : Int64)), (.long (0 : Int64)), (.long (0 : Int64)), (.long (0 : Int64)), (.long (0 : Int64)), (.long (0 : Int64)), (.long (0 : Int64)), (.long (0 : Int64)), (.long (0 : Int64)), (.long (0 : Int64)), (.long (0 : Int64))] (.long (0 : Int64)) := Arv.set Ar18 q18 S18 NN18 H18 G18 rfl W19 3 rfl (Nat.le_of_ble_eq_true rfl)
  have N19 := Fr.snoc X19 N16 g6
  obtain ⟨cl21, Ar21, q21, S21, NN21, H21, G21⟩ := id V19
  have hin21 : ¬ ((4 : Int32) < 0 ∨ cl21.slots.size ≤ ((4 : Int32)).toNatClampNeg) := inb_of S21 ⟨by decide, by decide⟩
  obtain ⟨T22, h22, X22, e22, W22, st22⟩ := stJ X19 hx hZ e19 Ar21 (j := (4 : Int32)) hin21 (g := (mkF m 44 #[.val (.long lq0), .second, .val (.int i2), .val (.int i3), .val (.long vv), .second, .val (.int ww), .unset, .unset, .unset, .unset, .unset, .unset, .unset, .unset] [(.long (10000 : Int64)), (.int (4 : Int32)), (.ref b5), (.ref b5)])) rfl rfl (hb hby at_44)
  have K23 : Keep h0 h22 [] := K20.wr W22 (Or.inr b7)
  have V22 : Arv Z h22 b5 k5 .long (19 : Int32) [(.long (1 : Int64)), (.long (10 : Int64)), (.long (100 : Int64)), (.long (1000 : Int64)), (.long (10000 : Int64)), (.long (0 : Int64)), (.long (0 : Int64)), (.long (0 : Int64)), (.long (0 : Int64)), (.long (0 : Int64)), (.long (0 : Int64)), (.long (0 : Int64)), (.long (0 : Int64)), (.long (0 : Int64)), (.long (0 : Int64)), (.long (0 : Int64)), (.long (0 : Int64)), (.long (0 : Int64)), (.long (0 : Int64))] (.long (0 : Int64)) := Arv.set Ar21 q21 S21 NN21 H21 G21 rfl W22 4 rfl (Nat.le_of_ble_eq_true rfl)
  have N22 := Fr.snoc X22 N19 g6
  obtain ⟨cl24, Ar24, q24, S24, NN24, H24, G24⟩ := id V22
  have hin24 : ¬ ((5 : Int32) < 0 ∨ cl24.slots.size ≤ ((5 : Int32)).toNatClampNeg) := inb_of S24 ⟨by decide, by decide⟩
  obtain ⟨T25, h25, X25, e25, W25, st25⟩ := stJ X22 hx hZ e22 Ar24 (j := (5 : Int32)) hin24 (g := (mkF m 50 #[.val (.long lq0), .second, .val (.int i2), .val (.int i3), .val (.long vv), .second, .val (.int ww), .unset, .unset, .unset, .unset, .unset, .unset, .unset, .unset] [(.long (100000 : Int64)), (.int (5 : Int32)), (.ref b5), (.ref b5)])) rfl rfl (hb hby at_50)
  have K26 : Keep h0 h25 [] := K23.wr W25 (Or.inr b7)
  have V25 : Arv Z h25 b5 k5 .long (19 : Int32) [(.long (1 : Int64)), (.long (10 : Int64)), (.long (100 : Int64)), (.long (1000 : Int64)), (.long (10000 : Int64)), (.long (100000 : Int64)), (.long (0 : Int64)), (.long (0 : Int64)), (.long (0 : Int64)), (.long (0 : Int64)), (.long (0 : Int64)), (.long (0 : Int64)), (.long (0 : Int64)), (.long (0 : Int64)), (.long (0 : Int64)), (.long (0 : Int64)), (.long (0 : Int64)), (.long (0 : Int64)), (.long (0 : Int64))] (.long (0 : Int64)) := Arv.set Ar24 q24 S24 NN24 H24 G24 rfl W25 5 rfl (Nat.le_of_ble_eq_true rfl)
  have N25 := Fr.snoc X25 N22 g6
  obtain ⟨cl27, Ar27, q27, S27, NN27, H27, G27⟩ := id V25
  have hin27 : ¬ ((6 : Int32) < 0 ∨ cl27.slots.size ≤ ((6 : Int32)).toNatClampNeg) := inb_of S27 ⟨by decide, by decide⟩
  obtain ⟨T28, h28, X28, e28, W28, st28⟩ := stJ X25 hx hZ e25 Ar27 (j := (6 : Int32)) hin27 (g := (mkF m 57 #[.val (.long lq0), .second, .val (.int i2), .val (.int i3), .val (.long vv), .second, .val (.int ww), .unset, .unset, .unset, .unset, .unset, .unset, .unset, .unset] [(.long (1000000 : Int64)), (.int (6 : Int32)), (.ref b5), (.ref b5)])) rfl rfl (hb hby at_57)
  have K29 : Keep h0 h28 [] := K26.wr W28 (Or.inr b7)
  have V28 : Arv Z h28 b5 k5 .long (19 : Int32) [(.long (1 : Int64)), (.long (10 : Int64)), (.long (100 : Int64)), (.long (1000 : Int64)), (.long (10000 : Int64)), (.long (100000 : Int64)), (.long (1000000 : Int64)), (.long (0 : Int64)), (.long (0 : Int64)), (.long (0 : Int64)), (.long (0 : Int64)), (.long (0 : Int64)), (.long (0 : Int64)), (.long (0 : Int64)), (.long (0 : Int64)), (.long (0 : Int64)), (.long (0 : Int64)), (.long (0 : Int64)), (.long (0 : Int64))] (.long (0 : Int64)) := Arv.set Ar27 q27 S27 NN27 H27 G27 rfl W28 6 rfl (Nat.le_of_ble_eq_true rfl)
  have N28 := Fr.snoc X28 N25 g6
  obtain ⟨cl30, Ar30, q30, S30, NN30, H30, G30⟩ := id V28
  have hin30 : ¬ ((7 : Int32) < 0 ∨ cl30.slots.size ≤ ((7 : Int32)).toNatClampNeg) := inb_of S30 ⟨by decide, by decide⟩
  obtain ⟨T31, h31, X31, e31, W31, st31⟩ := stJ X28 hx hZ e28 Ar30 (j := (7 : Int32)) hin30 (g := (mkF m 64 #[.val (.long lq0), .second, .val (.int i2), .val (.int i3), .val (.long vv), .second, .val (.int ww), .unset, .unset, .unset, .unset, .unset, .unset, .unset, .unset] [(.long (10000000 : Int64)), (.int (7 : Int32)), (.ref b5), (.ref b5)])) rfl rfl (hb hby at_64)
  have K32 : Keep h0 h31 [] := K29.wr W31 (Or.inr b7)
  have V31 : Arv Z h31 b5 k5 .long (19 : Int32) [(.long (1 : Int64)), (.long (10 : Int64)), (.long (100 : Int64)), (.long (1000 : Int64)), (.long (10000 : Int64)), (.long (100000 : Int64)), (.long (1000000 : Int64)), (.long (10000000 : Int64)), (.long (0 : Int64)), (.long (0 : Int64)), (.long (0 : Int64)), (.long (0 : Int64)), (.long (0 : Int64)), (.long (0 : Int64)), (.long (0 : Int64)), (.long (0 : Int64)), (.long (0 : Int64)), (.long (0 : Int64)), (.long (0 : Int64))] (.long (0 : Int64)) := Arv.set Ar30 q30 S30 NN30 H30 G30 rfl W31 7 rfl (Nat.le_of_ble_eq_true rfl)
  have N31 := Fr.snoc X31 N28 g6
  obtain ⟨cl33, Ar33, q33, S33, NN33, H33, G33⟩ := id V31
  have hin33 : ¬ ((8 : Int32) < 0 ∨ cl33.slots.size ≤ ((8 : Int32)).toNatClampNeg) := inb_of S33 ⟨by decide, by decide⟩
  obtain ⟨T34, h34, X34, e34, W34, st34⟩ := stJ X31 hx hZ e31 Ar33 (j := (8 : Int32)) hin33 (g := (mkF m 71 #[.val (.long lq0), .second, .val (.int i2), .val (.int i3), .val (.long vv), .second, .val (.int ww), .unset, .unset, .unset, .unset, .unset, .unset, .unset, .unset] [(.long (100000000 : Int64)), (.int (8 : Int32)), (.ref b5), (.ref b5)])) rfl rfl (hb hby at_71)
  have K35 : Keep h0 h34 [] := K32.wr W34 (Or.inr b7)
  have V34 : Arv Z h34 b5 k5 .long (19 : Int32) [(.long (1 : Int64)), (.long (10 : Int64)), (.long (100 : Int64)), (.long (1000 : Int64)), (.long (10000 : Int64)), (.long (100000 : Int64)), (.long (1000000 : Int64)), (.long (10000000 : Int64)), (.long (100000000 : Int64)), (.long (0 : Int64)), (.long (0 : Int64)), (.long (0 : Int64)), (.long (0 : Int64)), (.long (0 : Int64)), (.long (0 : Int64)), (.long (0 : Int64)), (.long (0 : Int64)), (.long (0 : Int64)), (.long (0 : Int64))] (.long (0 : Int64)) := Arv.set Ar33 q33 S33 NN33 H33 G33 rfl W34 8 rfl (Nat.le_of_ble_eq_true rfl)
  have N34 := Fr.snoc X34 N31 g6
  obtain ⟨cl36, Ar36, q36, S36, NN36, H36, G36⟩ := id V34
  have hin36 : ¬ ((9 : Int32) < 0 ∨ cl36.slots.size ≤ ((9 : Int32)).toNatClampNeg) := inb_of S36 ⟨by decide, by decide⟩
  obtain ⟨T37, h37, X37, e37, W37, st37⟩ := stJ X34 hx hZ e34 Ar36 (j := (9 : Int32)) hin36 (g := (mkF m 78 #[.val (.long lq0), .second, .val (.int i2), .val (.int i3), .val (.long vv), .second, .val (.int ww), .unset, .unset, .unset, .unset, .unset, .unset, .unset, .unset] [(.long (1000000000 : Int64)), (.int (9 : Int32)), (.ref b5), (.ref b5)])) rfl rfl (hb hby at_78)
  have K38 : Keep h0 h37 [] := K35.wr W37 (Or.inr b7)
  have V37 : Arv Z h37 b5 k5 .long (19 : Int32) [(.long (1 : Int64)), (.long (10 : Int64)), (.long (100 : Int64)), (.long (1000 : Int64)), (.long (10000 : Int64)), (.long (100000 : Int64)), (.long (1000000 : Int64)), (.long (10000000 : Int64)), (.long (100000000 : Int64)), (.long (1000000000 : Int64)), (.long (0 : Int64)), (.long (0 : Int64)), (.long (0 : Int64)), (.long (0 : Int64)), (.long (0 : Int64)), (.long (0 : Int64)), (.long (0 : Int64)), (.long (0 : Int64)), (.long (0 : Int64))] (.long (0 : Int64)) := Arv.set Ar36 q36 S36 NN36 H36 G36 rfl W37 9 rfl (Nat.le_of_ble_eq_true rfl)
  have N37 := Fr.snoc X37 N34 g6
  obtain ⟨cl39, Ar39, q39, S39, NN39, H39, G39⟩ := id V37
  have hin39 : ¬ ((10 : Int32) < 0 ∨ cl39.slots.size ≤ ((10 : Int32)).toNatClampNeg) := inb_of S39 ⟨by decide, by decide⟩
  obtain ⟨T40, h40, X40, e40, W40, st40⟩ := stJ X37 hx hZ e37 Ar39 (j := (10 : Int32)) hin39 (g := (mkF m 85 #[.val (.long lq0), .second, .val (.int i2), .val (.int i3), .val (.long vv), .second, .val (.int ww), .unset, .unset, .unset, .unset, .unset, .unset, .unset, .unset] [(.long (10000000000 : Int64)), (.int (10 : Int32)), (.ref b5), (.ref b5)])) rfl rfl (hb hby at_85)
  have K41 : Keep h0 h40 [] := K38.wr W40 (Or.inr b7)
  have V40 : Arv Z h40 b5 k5 .long (19 : Int32) [(.long (1 : Int64)), (.long (10 : Int64)), (.long (100 : Int64)), (.long (1000 : Int64)), (.long (10000 : Int64)), (.long (100000 : Int64)), (.long (1000000 : Int64)), (.long (10000000 : Int64)), (.long (100000000 : Int64)), (.long (1000000000 : Int64)), (.long (10000000000 : Int64)), (.long (0 : Int64)), (.long (0 : Int64)), (.long (0 : Int64)), (.long (0 : Int64)), (.long (0 : Int64)), (.long (0 : Int64)), (.long (0 : Int64)), (.long (0 : Int64))] (.long (0 : Int64)) := Arv.set Ar39 q39 S39 NN39 H39 G39 rfl W40 10 rfl (Nat.le_of_ble_eq_true rfl)
  have N40 := Fr.snoc X40 N37 g6
  obtain ⟨cl42, Ar42, q42, S42, NN42, H42, G42⟩ := id V40
  have hin42 : ¬ ((11 : Int32) < 0 ∨ cl42.slots.size ≤ ((11 : Int32)).toNatClampNeg) := inb_of S42 ⟨by decide, by decide⟩
  obtain ⟨T43, h43, X43, e43, W43, st43⟩ := stJ X40 hx hZ e40 Ar42 (j := (11 : Int32)) hin42 (g := (mkF m 92 #[.val (.long lq0), .second, .val (.int i2), .val (.int i3), .val (.long vv), .second, .val (.int ww), .unset, .unset, .unset, .unset, .unset, .unset, .unset, .unset] [(.long (100000000000 : Int64)), (.int (11 : Int32)), (.ref b5), (.ref b5)])) rfl rfl (hb hby at_92)
  have K44 : Keep h0 h43 [] := K41.wr W43 (Or.inr b7)
  have V43 : Arv Z h43 b5 k5 .long (19 : Int32) [(.long (1 : Int64)), (.long (10 : Int64)), (.long (100 : Int64)), (.long (1000 : Int64)), (.long (10000 : Int64)), (.long (100000 : Int64)), (.long (1000000 : Int64)), (.long (10000000 : Int64)), (.long (100000000 : Int64)), (.long (1000000000 : Int64)), (.long (10000000000 : Int64)), (.long (100000000000 : Int64)), (.long (0 : Int64)), (.long (0 : Int64)), (.long (0 : Int64)), (.long (0 : Int64)), (.long (0 : Int64)), (.long (0 : Int64)), (.long (0 : Int64))] (.long (0 : Int64)) := Arv.set Ar42 q42 S42 NN42 H42 G42 rfl W43 11 rfl (Nat.le_of_ble_eq_true rfl)
  have N43 := Fr.snoc X43 N40 g6
  obtain ⟨cl45, Ar45, q45, S45, NN45, H45, G45⟩ := id V43
  have hin45 : ¬ ((12 : Int32) < 0 ∨ cl45.slots.size ≤ ((12 : Int32)).toNatClampNeg) := inb_of S45 ⟨by decide, by decide⟩
  obtain ⟨T46, h46, X46, e46, W46, st46⟩ := stJ X43 hx hZ e43 Ar45 (j := (12 : Int32)) hin45 (g := (mkF m 99 #[.val (.long lq0), .second, .val (.int i2), .val (.int i3), .val (.long vv), .second, .val (.int ww), .unset, .unset, .unset, .unset, .unset, .unset, .unset, .unset] [(.long (1000000000000 : Int64)), (.int (12 : Int32)), (.ref b5), (.ref b5)])) rfl rfl (hb hby at_99)
  have K47 : Keep h0 h46 [] := K44.wr W46 (Or.inr b7)
  have V46 : Arv Z h46 b5 k5 .long (19 : Int32) [(.long (1 : Int64)), (.long (10 : Int64)), (.long (100 : Int64)), (.long (1000 : Int64)), (.long (10000 : Int64)), (.long (100000 : Int64)), (.long (1000000 : Int64)), (.long (10000000 : Int64)), (.long (100000000 : Int64)), (.long (1000000000 : Int64)), (.long (10000000000 : Int64)), (.long (100000000000 : Int64)), (.long (1000000000000 : Int64)), (.long (0 : Int64)), (.long (0 : Int64)), (.long (0 : Int64)), (.long (0 : Int64)), (.long (0 : Int64)), (.long (0 : Int64))] (.long (0 : Int64)) := Arv.set Ar45 q45 S45 NN45 H45 G45 rfl W46 12 rfl (Nat.le_of_ble_eq_true rfl)
  have N46 := Fr.snoc X46 N43 g6
  obtain ⟨cl48, Ar48, q48, S48, NN48, H48, G48⟩ := id V46
  have hin48 : ¬ ((13 : Int32) < 0 ∨ cl48.slots.size ≤ ((13 : Int32)).toNatClampNeg) := inb_of S48 ⟨by decide, by decide⟩
  obtain ⟨T49, h49, X49, e49, W49, st49⟩ := stJ X46 hx hZ e46 Ar48 (j := (13 : Int32)) hin48 (g := (mkF m 106 #[.val (.long lq0), .second, .val (.int i2), .val (.int i3), .val (.long vv), .second, .val (.int ww), .unset, .unset, .unset, .unset, .unset, .unset, .unset, .unset] [(.long (10000000000000 : Int64)), (.int (13 : Int32)), (.ref b5), (.ref b5)])) rfl rfl (hb hby at_106)
  have K50 : Keep h0 h49 [] := K47.wr W49 (Or.inr b7)
  have V49 : Arv Z h49 b5 k5 .long (19 : Int32) [(.long (1 : Int64)), (.long (10 : Int64)), (.long (100 : Int64)), (.long (1000 : Int64)), (.long (10000 : Int64)), (.long (100000 : Int64)), (.long (1000000 : Int64)), (.long (10000000 : Int64)), (.long (100000000 : Int64)), (.long (1000000000 : Int64)), (.long (10000000000 : Int64)), (.long (100000000000 : Int64)), (.long (1000000000000 : Int64)), (.long (10000000000000 : Int64)), (.long (0 : Int64)), (.long (0 : Int64)), (.long (0 : Int64)), (.long (0 : Int64)), (.long (0 : Int64))] (.long (0 : Int64)) := Arv.set Ar48 q48 S48 NN48 H48 G48 rfl W49 13 rfl (Nat.le_of_ble_eq_true rfl)
  have N49 := Fr.snoc X49 N46 g6
  obtain ⟨cl51, Ar51, q51, S51, NN51, H51, G51⟩ := id V49
  have hin51 : ¬ ((14 : Int32) < 0 ∨ cl51.slots.size ≤ ((14 : Int32)).toNatClampNeg) := inb_of S51 ⟨by decide, by decide⟩
  obtain ⟨T52, h52, X52, e52, W52, st52⟩ := stJ X49 hx hZ e49 Ar51 (j := (14 : Int32)) hin51 (g := (mkF m 113 #[.val (.long lq0), .second, .val (.int i2), .val (.int i3), .val (.long vv), .second, .val (.int ww), .unset, .unset, .unset, .unset, .unset, .unset, .unset, .unset] [(.long (100000000000000 : Int64)), (.int (14 : Int32)), (.ref b5), (.ref b5)])) rfl rfl (hb hby at_113)
  have K53 : Keep h0 h52 [] := K50.wr W52 (Or.inr b7)
  have V52 : Arv Z h52 b5 k5 .long (19 : Int32) [(.long (1 : Int64)), (.long (10 : Int64)), (.long (100 : Int64)), (.long (1000 : Int64)), (.long (10000 : Int64)), (.long (100000 : Int64)), (.long (1000000 : Int64)), (.long (10000000 : Int64)), (.long (100000000 : Int64)), (.long (1000000000 : Int64)), (.long (10000000000 : Int64)), (.long (100000000000 : Int64)), (.long (1000000000000 : Int64)), (.long (10000000000000 : Int64)), (.long (100000000000000 : Int64)), (.long (0 : Int64)), (.long (0 : Int64)), (.long (0 : Int64)), (.long (0 : Int64))] (.long (0 : Int64)) := Arv.set Ar51 q51 S51 NN51 H51 G51 rfl W52 14 rfl (Nat.le_of_ble_eq_true rfl)
  have N52 := Fr.snoc X52 N49 g6
  obtain ⟨cl54, Ar54, q54, S54, NN54, H54, G54⟩ := id V52
  have hin54 : ¬ ((15 : Int32) < 0 ∨ cl54.slots.size ≤ ((15 : Int32)).toNatClampNeg) := inb_of S54 ⟨by decide, by decide⟩
  obtain ⟨T55, h55, X55, e55, W55, st55⟩ := stJ X52 hx hZ e52 Ar54 (j := (15 : Int32)) hin54 (g := (mkF m 120 #[.val (.long lq0), .second, .val (.int i2), .val (.int i3), .val (.long vv), .second, .val (.int ww), .unset, .unset, .unset, .unset, .unset, .unset, .unset, .unset] [(.long (1000000000000000 : Int64)), (.int (15 : Int32)), (.ref b5), (.ref b5)])) rfl rfl (hb hby at_120)
  have K56 : Keep h0 h55 [] := K53.wr W55 (Or.inr b7)
  have V55 : Arv Z h55 b5 k5 .long (19 : Int32) [(.long (1 : Int64)), (.long (10 : Int64)), (.long (100 : Int64)), (.long (1000 : Int64)), (.long (10000 : Int64)), (.long (100000 : Int64)), (.long (1000000 : Int64)), (.long (10000000 : Int64)), (.long (100000000 : Int64)), (.long (1000000000 : Int64)), (.long (10000000000 : Int64)), (.long (100000000000 : Int64)), (.long (1000000000000 : Int64)), (.long (10000000000000 : Int64)), (.long (100000000000000 : Int64)), (.long (1000000000000000 : Int64)), (.long (0 : Int64)), (.long (0 : Int64)), (.long (0 : Int64))] (.long (0 : Int64)) := Arv.set Ar54 q54 S54 NN54 H54 G54 rfl W55 15 rfl (Nat.le_of_ble_eq_true rfl)
  have N55 := Fr.snoc X55 N52 g6
  obtain ⟨cl57, Ar57, q57, S57, NN57, H57, G57⟩ := id V55
  have hin57 : ¬ ((16 : Int32) < 0 ∨ cl57.slots.size ≤ ((16 : Int32)).toNatClampNeg) := inb_of S57 ⟨by decide, by decide⟩
  obtain ⟨T58, h58, X58, e58, W58, st58⟩ := stJ X55 hx hZ e55 Ar57 (j := (16 : Int32)) hin57 (g := (mkF m 127 #[.val (.long lq0), .second, .val (.int i2), .val (.int i3), .val (.long vv), .second, .val (.int ww), .unset, .unset, .unset, .unset, .unset, .unset, .unset, .unset] [(.long (10000000000000000 : Int64)), (.int (16 : Int32)), (.ref b5), (.ref b5)])) rfl rfl (hb hby at_127)
  have K59 : Keep h0 h58 [] := K56.wr W58 (Or.inr b7)
  have V58 : Arv Z h58 b5 k5 .long (19 : Int32) [(.long (1 : Int64)), (.long (10 : Int64)), (.long (100 : Int64)), (.long (1000 : Int64)), (.long (10000 : Int64)), (.long (100000 : Int64)), (.long (1000000 : Int64)), (.long (10000000 : Int64)), (.long (100000000 : Int64)), (.long (1000000000 : Int64)), (.long (10000000000 : Int64)), (.long (100000000000 : Int64)), (.long (1000000000000 : Int64)), (.long (10000000000000 : Int64)), (.long (100000000000000 : Int64)), (.long (1000000000000000 : Int64)), (.long (10000000000000000 : Int64)), (.long (0 : Int64)), (.long (0 : Int64))] (.long (0 : Int64)) := Arv.set Ar57 q57 S57 NN57 H57 G57 rfl W58 16 rfl (Nat.le_of_ble_eq_true rfl)
  have N58 := Fr.snoc X58 N55 g6
  obtain ⟨cl60, Ar60, q60, S60, NN60, H60, G60⟩ := id V58
  have hin60 : ¬ ((17 : Int32) < 0 ∨ cl60.slots.size ≤ ((17 : Int32)).toNatClampNeg) := inb_of S60 ⟨by decide, by decide⟩
  obtain ⟨T61, h61, X61, e61, W61, st61⟩ := stJ X58 hx hZ e58 Ar60 (j := (17 : Int32)) hin60 (g := (mkF m 134 #[.val (.long lq0), .second, .val (.int i2), .val (.int i3), .val (.long vv), .second, .val (.int ww), .unset, .unset, .unset, .unset, .unset, .unset, .unset, .unset] [(.long (100000000000000000 : Int64)), (.int (17 : Int32)), (.ref b5), (.ref b5)])) rfl rfl (hb hby at_134)
  have K62 : Keep h0 h61 [] := K59.wr W61 (Or.inr b7)
  have V61 : Arv Z h61 b5 k5 .long (19 : Int32) [(.long (1 : Int64)), (.long (10 : Int64)), (.long (100 : Int64)), (.long (1000 : Int64)), (.long (10000 : Int64)), (.long (100000 : Int64)), (.long (1000000 : Int64)), (.long (10000000 : Int64)), (.long (100000000 : Int64)), (.long (1000000000 : Int64)), (.long (10000000000 : Int64)), (.long (100000000000 : Int64)), (.long (1000000000000 : Int64)), (.long (10000000000000 : Int64)), (.long (100000000000000 : Int64)), (.long (1000000000000000 : Int64)), (.long (10000000000000000 : Int64)), (.long (100000000000000000 : Int64)), (.long (0 : Int64))] (.long (0 : Int64)) := Arv.set Ar60 q60 S60 NN60 H60 G60 rfl W61 17 rfl (Nat.le_of_ble_eq_true rfl)
  have N61 := Fr.snoc X61 N58 g6
  obtain ⟨cl63, Ar63, q63, S63, NN63, H63, G63⟩ := id V61
  have hin63 : ¬ ((18 : Int32) < 0 ∨ cl63.slots.size ≤ ((18 : Int32)).toNatClampNeg) := inb_of S63 ⟨by decide, by decide⟩
  obtain ⟨T64, h64, X64, e64, W64, st64⟩ := stJ X61 hx hZ e61 Ar63 (j := (18 : Int32)) hin63 (g := (mkF m 141 #[.val (.long lq0), .second, .val (.int i2), .val (.int i3), .val (.long vv), .second, .val (.int ww), .unset, .unset, .unset, .unset, .unset, .unset, .unset, .unset] [(.long (1000000000000000000 : Int64)), (.int (18 : Int32)), (.ref b5), (.ref b5)])) rfl rfl (hb hby at_141)
  have K65 : Keep h0 h64 [] := K62.wr W64 (Or.inr b7)
  have V64 : Arv Z h64 b5 k5 .long (19 : Int32) [(.long (1 : Int64)), (.long (10 : Int64)), (.long (100 : Int64)), (.long (1000 : Int64)), (.long (10000 : Int64)), (.long (100000 : Int64)), (.long (1000000 : Int64)), (.long (10000000 : Int64)), (.long (100000000 : Int64)), (.long (1000000000 : Int64)), (.long (10000000000 : Int64)), (.long (100000000000 : Int64)), (.long (1000000000000 : Int64)), (.long (10000000000000 : Int64)), (.long (100000000000000 : Int64)), (.long (1000000000000000 : Int64)), (.long (10000000000000000 : Int64)), (.long (100000000000000000 : Int64)), (.long (1000000000000000000 : Int64))] (.long (0 : Int64)) := Arv.set Ar63 q63 S63 NN63 H63 G63 rfl W64 18 rfl (Nat.le_of_ble_eq_true rfl)
  have N64 := Fr.snoc X64 N61 g6
  obtain ⟨cl66, Ar66, q66, S66, NN66, H66, G66⟩ := id V64
  have hin66 : ¬ ((1 : Int32) < 0 ∨ cl66.slots.size ≤ ((1 : Int32)).toNatClampNeg) := inb_of S66 ⟨by decide, by decide⟩
  obtain ⟨Lg67, X67, N67⟩ : ∃ L' : List Loc, Stand p l e room_1 s m #[(.long lq0), (.int i2), (.int i3)] below meth c T64 L' 1 19 ∧ Fr n0 L' := ⟨_, X64, N64⟩
  obtain ⟨_, _, ⟨T68, L68, k68, n68⟩, -, X68, ⟨Lc68, hQ68, l68, y68, z68⟩, st68⟩ := Jvm.LawKit.callS X67 hx (y := (⟨"com/example/uketsuke/uketsuke/store/IdFormatDigitsPinLaw", "ge", "(JJ)I"⟩ : MethodName)) hown (mvT hZ (hw _ (List.mem_of_getElem? (i := 20) rfl))) (mvT hZ (hw _ (List.mem_of_getElem? (i := 21) rfl))) (mvT hZ (hw _ (List.mem_of_getElem? (i := 22) rfl))) (mvT hZ (hw _ (List.mem_of_getElem? (i := 23) rfl))) (by decide) (backOf (W := 1) (own_ge l Z a0 hw [] (vv) ((10 : Int64)) h64 n0 (O0.keep K65 all0)) hZ (hw _ (List.mem_of_getElem? (i := 23) rfl)) (hw _ (List.mem_of_getElem? (i := 22) rfl)) (by decide) (by decide)) (g := (mkF m 151 #[.val (.long lq0), .second, .val (.int i2), .val (.int i3), .val (.long vv), .second, .val (.int ww), .val (.ref b5), .unset, .unset, .unset, .unset, .unset, .unset, .unset] [(.long (10 : Int64)), (.long vv), (.int (1 : Int32))])) rfl (by rw [hml]; rfl) (argsL := [(.long vv), (.long (10 : Int64))]) (rest := [(.int (1 : Int32))]) (lenOf own_pd27 rfl) rfl (by show 2 * 0 + _ ≤ _; exact Nat.le_of_eq rfl) (hb hby at_151) (fun _ _ => ⟨rfl, e64, (by decide : 1 + 0 ≤ _), (by decide : 19 + 0 ≤ _)⟩)
  dsimp only [Pt.U, Pt.locs, Pt.cells, Pt.slots] at X68 l68 y68 z68 st68 hQ68
  subst l68 y68 z68
  obtain ⟨rfl, Nq68, hh68⟩ := hQ68
  have N68 := Fr.app N67 Nq68
  have r69 : GoTo p.tables e below s₁ (own_F_own_law m lq0 i2 i3) T68 (mkF m 155 #[.val (.long lq0), .second, .val (.int i2), .val (.int i3), .val (.long vv), .second, .val (.int ww), .val (.ref b5), .unset, .unset, .unset, .unset, .unset, .unset, .unset] [(.int ((1 : Int32) + (if vv < (10 : Int64) then (0 : Int32) else (1 : Int32))))]) := fun tt_ kk_ => r4 tt_ (by
      show Steps p.tables e below (s₁.setTop (mkF m 11 #[.val (.long lq0), .second, .val (.int i2), .val (.int i3), .val (.long vv), .second, .unset, .unset, .unset, .unset, .unset, .unset, .unset, .unset, .unset] [(.int ww)])) _
      refine XS.istore X0.here hx rfl (hb hby at_11) rfl (l' := #[.val (.long lq0), .second, .val (.int i2), .val (.int i3), .val (.long vv), .second, .val (.int ww), .unset, .unset, .unset, .unset, .unset, .unset, .unset, .unset]) rfl ?_
      show Steps p.tables e below (s₁.setTop (mkF m 13 #[.val (.long lq0), .second, .val (.int i2), .val (.int i3), .val (.long vv), .second, .val (.int ww), .unset, .unset, .unset, .unset, .unset, .unset, .unset, .unset] [])) _
      refine XS.bipush X0.here hx rfl (hb hby at_13) ?_
      show Steps p.tables e below (s₁.setTop (mkF m 15 #[.val (.long lq0), .second, .val (.int i2), .val (.int i3), .val (.long vv), .second, .val (.int ww), .unset, .unset, .unset, .unset, .unset, .unset, .unset, .unset] [(.int (19 : Int32))])) _
      refine st5 _ ?_
      show Steps p.tables e below (T5.setTop (mkF m 17 #[.val (.long lq0), .second, .val (.int i2), .val (.int i3), .val (.long vv), .second, .val (.int ww), .unset, .unset, .unset, .unset, .unset, .unset, .unset, .unset] [(.ref b5)])) _
      refine XS.dup X5.here hx rfl (hb hby at_17) rfl rfl ?_
      show Steps p.tables e below (T5.setTop (mkF m 18 #[.val (.long lq0), .second, .val (.int i2), .val (.int i3), .val (.long vv), .second, .val (.int ww), .unset, .unset, .unset, .unset, .unset, .unset, .unset, .unset] [(.ref b5), (.ref b5)])) _
      refine XS.iconst X5.here hx rfl (hb hby at_18) ?_
      show Steps p.tables e below (T5.setTop (mkF m 19 #[.val (.long lq0), .second, .val (.int i2), .val (.int i3), .val (.long vv), .second, .val (.int ww), .unset, .unset, .unset, .unset, .unset, .unset, .unset, .unset] [(.int (0 : Int32)), (.ref b5), (.ref b5)])) _
      refine XS.lconst X5.here hx rfl (hb hby at_19) ?_
      show Steps p.tables e below (T5.setTop (mkF m 20 #[.val (.long lq0), .second, .val (.int i2), .val (.int i3), .val (.long vv), .second, .val (.int ww), .unset, .unset, .unset, .unset, .unset, .unset, .unset, .unset] [(.long (1 : Int64)), (.int (0 : Int32)), (.ref b5), (.ref b5)])) _
      refine st10 _ ?_
      show Steps p.tables e below (T10.setTop (mkF m 21 #[.val (.long lq0), .second, .val (.int i2), .val (.int i3), .val (.long vv), .second, .val (.int ww), .unset, .unset, .unset, .unset, .unset, .unset, .unset, .unset] [(.ref b5)])) _
      refine XS.dup X10.here hx rfl (hb hby at_21) rfl rfl ?_
      show Steps p.tables e below (T10.setTop (mkF m 22 #[.val (.long lq0), .second, .val (.int i2), .val (.int i3), .val (.long vv), .second, .val (.int ww), .unset, .unset, .unset, .unset, .unset, .unset, .unset, .unset] [(.ref b5), (.ref b5)])) _
      refine XS.iconst X10.here hx rfl (hb hby at_22) ?_
      show Steps p.tables e below (T10.setTop (mkF m 23 #[.val (.long lq0), .second, .val (.int i2), .val (.int i3), .val (.long vv), .second, .val (.int ww), .unset, .unset, .unset, .unset, .unset, .unset, .unset, .unset] [(.int (1 : Int32)), (.ref b5), (.ref b5)])) _
      refine X10.ldc2J hx hown (mvT hZ (hw _ (List.mem_of_getElem? (i := 2) rfl))) rfl (hb hby at_23) ?_
      show Steps p.tables e below (T10.setTop (mkF m 26 #[.val (.long lq0), .second, .val (.int i2), .val (.int i3), .val (.long vv), .second, .val (.int ww), .unset, .unset, .unset, .unset, .unset, .unset, .unset, .unset] [(.long (10 : Int64)), (.int (1 : Int32)), (.ref b5), (.ref b5)])) _
      refine st13 _ ?_
      show Steps p.tables e below (T13.setTop (mkF m 27 #[.val (.long lq0), .second, .val (.int i2), .val (.int i3), .val (.long vv), .second, .val (.int ww), .unset, .unset, .unset, .unset, .unset, .unset, .unset, .unset] [(.ref b5)])) _
      refine XS.dup X13.here hx rfl (hb hby at_27) rfl rfl ?_
      show Steps p.tables e below (T13.setTop (mkF m 28 #[.val (.long lq0), .second, .val (.int i2), .val (.int i3), .val (.long vv), .second, .val (.int ww), .unset, .unset, .unset, .unset, .unset, .unset, .unset, .unset] [(.ref b5), (.ref b5)])) _
      refine XS.iconst X13.here hx rfl (hb hby at_28) ?_
      show Steps p.tables e below (T13.setTop (mkF m 29 #[.val (.long lq0), .second, .val (.int i2), .val (.int i3), .val (.long vv), .second, .val (.int ww), .unset, .unset, .unset, .unset, .unset, .unset, .unset, .unset] [(.int (2 : Int32)), (.ref b5), (.ref b5)])) _
      refine X13.ldc2J hx hown (mvT hZ (hw _ (List.mem_of_getElem? (i := 3) rfl))) rfl (hb hby at_29) ?_
      show Steps p.tables e below (T13.setTop (mkF m 32 #[.val (.long lq0), .second, .val (.int i2), .val (.int i3), .val (.long vv), .second, .val (.int ww), .unset, .unset, .unset, .unset, .unset, .unset, .unset, .unset] [(.long (100 : Int64)), (.int (2 : Int32)), (.ref b5), (.ref b5)])) _
      refine st16 _ ?_
      show Steps p.tables e below (T16.setTop (mkF m 33 #[.val (.long lq0), .second, .val (.int i2), .val (.int i3), .val (.long vv), .second, .val (.int ww), .unset, .unset, .unset, .unset, .unset, .unset, .unset, .unset] [(.ref b5)])) _
      refine XS.dup X16.here hx rfl (hb hby at_33) rfl rfl ?_
      show Steps p.tables e below (T16.setTop (mkF m 34 #[.val (.long lq0), .second, .val (.int i2), .val (.int i3), .val (.long vv), .second, .val (.int ww), .unset, .unset, .unset, .unset, .unset, .unset, .unset, .unset] [(.ref b5), (.ref b5)])) _
      refine XS.iconst X16.here hx rfl (hb hby at_34) ?_
      show Steps p.tables e below (T16.setTop (mkF m 35 #[.val (.long lq0), .second, .val (.int i2), .val (.int i3), .val (.long vv), .second, .val (.int ww), .unset, .unset, .unset, .unset, .unset, .unset, .unset, .unset] [(.int (3 : Int32)), (.ref b5), (.ref b5)])) _
      refine X16.ldc2J hx hown (mvT hZ (hw _ (List.mem_of_getElem? (i := 4) rfl))) rfl (hb hby at_35) ?_
      show Steps p.tables e below (T16.setTop (mkF m 38 #[.val (.long lq0), .second, .val (.int i2), .val (.int i3), .val (.long vv), .second, .val (.int ww), .unset, .unset, .unset, .unset, .unset, .unset, .unset, .unset] [(.long (1000 : Int64)), (.int (3 : Int32)), (.ref b5), (.ref b5)])) _
      refine st19 _ ?_
      show Steps p.tables e below (T19.setTop (mkF m 39 #[.val (.long lq0), .second, .val (.int i2), .val (.int i3), .val (.long vv), .second, .val (.int ww), .unset, .unset, .unset, .unset, .unset, .unset, .unset, .unset] [(.ref b5)])) _
      refine XS.dup X19.here hx rfl (hb hby at_39) rfl rfl ?_
      show Steps p.tables e below (T19.setTop (mkF m 40 #[.val (.long lq0), .second, .val (.int i2), .val (.int i3), .val (.long vv), .second, .val (.int ww), .unset, .unset, .unset, .unset, .unset, .unset, .unset, .unset] [(.ref b5), (.ref b5)])) _
      refine XS.iconst X19.here hx rfl (hb hby at_40) ?_
      show Steps p.tables e below (T19.setTop (mkF m 41 #[.val (.long lq0), .second, .val (.int i2), .val (.int i3), .val (.long vv), .second, .val (.int ww), .unset, .unset, .unset, .unset, .unset, .unset, .unset, .unset] [(.int (4 : Int32)), (.ref b5), (.ref b5)])) _
      refine X19.ldc2J hx hown (mvT hZ (hw _ (List.mem_of_getElem? (i := 5) rfl))) rfl (hb hby at_41) ?_
      show Steps p.tables e below (T19.setTop (mkF m 44 #[.val (.long lq0), .second, .val (.int i2), .val (.int i3), .val (.long vv), .second, .val (.int ww), .unset, .unset, .unset, .unset, .unset, .unset, .unset, .unset] [(.long (10000 : Int64)), (.int (4 : Int32)), (.ref b5), (.ref b5)])) _
      refine st22 _ ?_
      show Steps p.tables e below (T22.setTop (mkF m 45 #[.val (.long lq0), .second, .val (.int i2), .val (.int i3), .val (.long vv), .second, .val (.int ww), .unset, .unset, .unset, .unset, .unset, .unset, .unset, .unset] [(.ref b5)])) _
      refine XS.dup X22.here hx rfl (hb hby at_45) rfl rfl ?_
      show Steps p.tables e below (T22.setTop (mkF m 46 #[.val (.long lq0), .second, .val (.int i2), .val (.int i3), .val (.long vv), .second, .val (.int ww), .unset, .unset, .unset, .unset, .unset, .unset, .unset, .unset] [(.ref b5), (.ref b5)])) _
      refine XS.iconst X22.here hx rfl (hb hby at_46) ?_
      show Steps p.tables e below (T22.setTop (mkF m 47 #[.val (.long lq0), .second, .val (.int i2), .val (.int i3), .val (.long vv), .second, .val (.int ww), .unset, .unset, .unset, .unset, .unset, .unset, .unset, .unset] [(.int (5 : Int32)), (.ref b5), (.ref b5)])) _
      refine X22.ldc2J hx hown (mvT hZ (hw _ (List.mem_of_getElem? (i := 6) rfl))) rfl (hb hby at_47) ?_
      show Steps p.tables e below (T22.setTop (mkF m 50 #[.val (.long lq0), .second, .val (.int i2), .val (.int i3), .val (.long vv), .second, .val (.int ww), .unset, .unset, .unset, .unset, .unset, .unset, .unset, .unset] [(.long (100000 : Int64)), (.int (5 : Int32)), (.ref b5), (.ref b5)])) _
      refine st25 _ ?_
      show Steps p.tables e below (T25.setTop (mkF m 51 #[.val (.long lq0), .second, .val (.int i2), .val (.int i3), .val (.long vv), .second, .val (.int ww), .unset, .unset, .unset, .unset, .unset, .unset, .unset, .unset] [(.ref b5)])) _
      refine XS.dup X25.here hx rfl (hb hby at_51) rfl rfl ?_
      show Steps p.tables e below (T25.setTop (mkF m 52 #[.val (.long lq0), .second, .val (.int i2), .val (.int i3), .val (.long vv), .second, .val (.int ww), .unset, .unset, .unset, .unset, .unset, .unset, .unset, .unset] [(.ref b5), (.ref b5)])) _
      refine XS.bipush X25.here hx rfl (hb hby at_52) ?_
      show Steps p.tables e below (T25.setTop (mkF m 54 #[.val (.long lq0), .second, .val (.int i2), .val (.int i3), .val (.long vv), .second, .val (.int ww), .unset, .unset, .unset, .unset, .unset, .unset, .unset, .unset] [(.int (6 : Int32)), (.ref b5), (.ref b5)])) _
      refine X25.ldc2J hx hown (mvT hZ (hw _ (List.mem_of_getElem? (i := 7) rfl))) rfl (hb hby at_54) ?_
      show Steps p.tables e below (T25.setTop (mkF m 57 #[.val (.long lq0), .second, .val (.int i2), .val (.int i3), .val (.long vv), .second, .val (.int ww), .unset, .unset, .unset, .unset, .unset, .unset, .unset, .unset] [(.long (1000000 : Int64)), (.int (6 : Int32)), (.ref b5), (.ref b5)])) _
      refine st28 _ ?_
      show Steps p.tables e below (T28.setTop (mkF m 58 #[.val (.long lq0), .second, .val (.int i2), .val (.int i3), .val (.long vv), .second, .val (.int ww), .unset, .unset, .unset, .unset, .unset, .unset, .unset, .unset] [(.ref b5)])) _
      refine XS.dup X28.here hx rfl (hb hby at_58) rfl rfl ?_
      show Steps p.tables e below (T28.setTop (mkF m 59 #[.val (.long lq0), .second, .val (.int i2), .val (.int i3), .val (.long vv), .second, .val (.int ww), .unset, .unset, .unset, .unset, .unset, .unset, .unset, .unset] [(.ref b5), (.ref b5)])) _
      refine XS.bipush X28.here hx rfl (hb hby at_59) ?_
      show Steps p.tables e below (T28.setTop (mkF m 61 #[.val (.long lq0), .second, .val (.int i2), .val (.int i3), .val (.long vv), .second, .val (.int ww), .unset, .unset, .unset, .unset, .unset, .unset, .unset, .unset] [(.int (7 : Int32)), (.ref b5), (.ref b5)])) _
      refine X28.ldc2J hx hown (mvT hZ (hw _ (List.mem_of_getElem? (i := 8) rfl))) rfl (hb hby at_61) ?_
      show Steps p.tables e below (T28.setTop (mkF m 64 #[.val (.long lq0), .second, .val (.int i2), .val (.int i3), .val (.long vv), .second, .val (.int ww), .unset, .unset, .unset, .unset, .unset, .unset, .unset, .unset] [(.long (10000000 : Int64)), (.int (7 : Int32)), (.ref b5), (.ref b5)])) _
      refine st31 _ ?_
      show Steps p.tables e below (T31.setTop (mkF m 65 #[.val (.long lq0), .second, .val (.int i2), .val (.int i3), .val (.long vv), .second, .val (.int ww), .unset, .unset, .unset, .unset, .unset, .unset, .unset, .unset] [(.ref b5)])) _
      refine XS.dup X31.here hx rfl (hb hby at_65) rfl rfl ?_
      show Steps p.tables e below (T31.setTop (mkF m 66 #[.val (.long lq0), .second, .val (.int i2), .val (.int i3), .val (.long vv), .second, .val (.int ww), .unset, .unset, .unset, .unset, .unset, .unset, .unset, .unset] [(.ref b5), (.ref b5)])) _
      refine XS.bipush X31.here hx rfl (hb hby at_66) ?_
      show Steps p.tables e below (T31.setTop (mkF m 68 #[.val (.long lq0), .second, .val (.int i2), .val (.int i3), .val (.long vv), .second, .val (.int ww), .unset, .unset, .unset, .unset, .unset, .unset, .unset, .unset] [(.int (8 : Int32)), (.ref b5), (.ref b5)])) _
      refine X31.ldc2J hx hown (mvT hZ (hw _ (List.mem_of_getElem? (i := 9) rfl))) rfl (hb hby at_68) ?_
      show Steps p.tables e below (T31.setTop (mkF m 71 #[.val (.long lq0), .second, .val (.int i2), .val (.int i3), .val (.long vv), .second, .val (.int ww), .unset, .unset, .unset, .unset, .unset, .unset, .unset, .unset] [(.long (100000000 : Int64)), (.int (8 : Int32)), (.ref b5), (.ref b5)])) _
      refine st34 _ ?_
      show Steps p.tables e below (T34.setTop (mkF m 72 #[.val (.long lq0), .second, .val (.int i2), .val (.int i3), .val (.long vv), .second, .val (.int ww), .unset, .unset, .unset, .unset, .unset, .unset, .unset, .unset] [(.ref b5)])) _
      refine XS.dup X34.here hx rfl (hb hby at_72) rfl rfl ?_
      show Steps p.tables e below (T34.setTop (mkF m 73 #[.val (.long lq0), .second, .val (.int i2), .val (.int i3), .val (.long vv), .second, .val (.int ww), .unset, .unset, .unset, .unset, .unset, .unset, .unset, .unset] [(.ref b5), (.ref b5)])) _
      refine XS.bipush X34.here hx rfl (hb hby at_73) ?_
      show Steps p.tables e below (T34.setTop (mkF m 75 #[.val (.long lq0), .second, .val (.int i2), .val (.int i3), .val (.long vv), .second, .val (.int ww), .unset, .unset, .unset, .unset, .unset, .unset, .unset, .unset] [(.int (9 : Int32)), (.ref b5), (.ref b5)])) _
      refine X34.ldc2J hx hown (mvT hZ (hw _ (List.mem_of_getElem? (i := 10) rfl))) rfl (hb hby at_75) ?_
      show Steps p.tables e below (T34.setTop (mkF m 78 #[.val (.long lq0), .second, .val (.int i2), .val (.int i3), .val (.long vv), .second, .val (.int ww), .unset, .unset, .unset, .unset, .unset, .unset, .unset, .unset] [(.long (1000000000 : Int64)), (.int (9 : Int32)), (.ref b5), (.ref b5)])) _
      refine st37 _ ?_
      show Steps p.tables e below (T37.setTop (mkF m 79 #[.val (.long lq0), .second, .val (.int i2), .val (.int i3), .val (.long vv), .second, .val (.int ww), .unset, .unset, .unset, .unset, .unset, .unset, .unset, .unset] [(.ref b5)])) _
      refine XS.dup X37.here hx rfl (hb hby at_79) rfl rfl ?_
      show Steps p.tables e below (T37.setTop (mkF m 80 #[.val (.long lq0), .second, .val (.int i2), .val (.int i3), .val (.long vv), .second, .val (.int ww), .unset, .unset, .unset, .unset, .unset, .unset, .unset, .unset] [(.ref b5), (.ref b5)])) _
      refine XS.bipush X37.here hx rfl (hb hby at_80) ?_
      show Steps p.tables e below (T37.setTop (mkF m 82 #[.val (.long lq0), .second, .val (.int i2), .val (.int i3), .val (.long vv), .second, .val (.int ww), .unset, .unset, .unset, .unset, .unset, .unset, .unset, .unset] [(.int (10 : Int32)), (.ref b5), (.ref b5)])) _
      refine X37.ldc2J hx hown (mvT hZ (hw _ (List.mem_of_getElem? (i := 11) rfl))) rfl (hb hby at_82) ?_
      show Steps p.tables e below (T37.setTop (mkF m 85 #[.val (.long lq0), .second, .val (.int i2), .val (.int i3), .val (.long vv), .second, .val (.int ww), .unset, .unset, .unset, .unset, .unset, .unset, .unset, .unset] [(.long (10000000000 : Int64)), (.int (10 : Int32)), (.ref b5), (.ref b5)])) _
      refine st40 _ ?_
      show Steps p.tables e below (T40.setTop (mkF m 86 #[.val (.long lq0), .second, .val (.int i2), .val (.int i3), .val (.long vv), .second, .val (.int ww), .unset, .unset, .unset, .unset, .unset, .unset, .unset, .unset] [(.ref b5)])) _
      refine XS.dup X40.here hx rfl (hb hby at_86) rfl rfl ?_
      show Steps p.tables e below (T40.setTop (mkF m 87 #[.val (.long lq0), .second, .val (.int i2), .val (.int i3), .val (.long vv), .second, .val (.int ww), .unset, .unset, .unset, .unset, .unset, .unset, .unset, .unset] [(.ref b5), (.ref b5)])) _
      refine XS.bipush X40.here hx rfl (hb hby at_87) ?_
      show Steps p.tables e below (T40.setTop (mkF m 89 #[.val (.long lq0), .second, .val (.int i2), .val (.int i3), .val (.long vv), .second, .val (.int ww), .unset, .unset, .unset, .unset, .unset, .unset, .unset, .unset] [(.int (11 : Int32)), (.ref b5), (.ref b5)])) _
      refine X40.ldc2J hx hown (mvT hZ (hw _ (List.mem_of_getElem? (i := 12) rfl))) rfl (hb hby at_89) ?_
      show Steps p.tables e below (T40.setTop (mkF m 92 #[.val (.long lq0), .second, .val (.int i2), .val (.int i3), .val (.long vv), .second, .val (.int ww), .unset, .unset, .unset, .unset, .unset, .unset, .unset, .unset] [(.long (100000000000 : Int64)), (.int (11 : Int32)), (.ref b5), (.ref b5)])) _
      refine st43 _ ?_
      show Steps p.tables e below (T43.setTop (mkF m 93 #[.val (.long lq0), .second, .val (.int i2), .val (.int i3), .val (.long vv), .second, .val (.int ww), .unset, .unset, .unset, .unset, .unset, .unset, .unset, .unset] [(.ref b5)])) _
      refine XS.dup X43.here hx rfl (hb hby at_93) rfl rfl ?_
      show Steps p.tables e below (T43.setTop (mkF m 94 #[.val (.long lq0), .second, .val (.int i2), .val (.int i3), .val (.long vv), .second, .val (.int ww), .unset, .unset, .unset, .unset, .unset, .unset, .unset, .unset] [(.ref b5), (.ref b5)])) _
      refine XS.bipush X43.here hx rfl (hb hby at_94) ?_
      show Steps p.tables e below (T43.setTop (mkF m 96 #[.val (.long lq0), .second, .val (.int i2), .val (.int i3), .val (.long vv), .second, .val (.int ww), .unset, .unset, .unset, .unset, .unset, .unset, .unset, .unset] [(.int (12 : Int32)), (.ref b5), (.ref b5)])) _
      refine X43.ldc2J hx hown (mvT hZ (hw _ (List.mem_of_getElem? (i := 13) rfl))) rfl (hb hby at_96) ?_
      show Steps p.tables e below (T43.setTop (mkF m 99 #[.val (.long lq0), .second, .val (.int i2), .val (.int i3), .val (.long vv), .second, .val (.int ww), .unset, .unset, .unset, .unset, .unset, .unset, .unset, .unset] [(.long (1000000000000 : Int64)), (.int (12 : Int32)), (.ref b5), (.ref b5)])) _
      refine st46 _ ?_
      show Steps p.tables e below (T46.setTop (mkF m 100 #[.val (.long lq0), .second, .val (.int i2), .val (.int i3), .val (.long vv), .second, .val (.int ww), .unset, .unset, .unset, .unset, .unset, .unset, .unset, .unset] [(.ref b5)])) _
      refine XS.dup X46.here hx rfl (hb hby at_100) rfl rfl ?_
      show Steps p.tables e below (T46.setTop (mkF m 101 #[.val (.long lq0), .second, .val (.int i2), .val (.int i3), .val (.long vv), .second, .val (.int ww), .unset, .unset, .unset, .unset, .unset, .unset, .unset, .unset] [(.ref b5), (.ref b5)])) _
      refine XS.bipush X46.here hx rfl (hb hby at_101) ?_
      show Steps p.tables e below (T46.setTop (mkF m 103 #[.val (.long lq0), .second, .val (.int i2), .val (.int i3), .val (.long vv), .second, .val (.int ww), .unset, .unset, .unset, .unset, .unset, .unset, .unset, .unset] [(.int (13 : Int32)), (.ref b5), (.ref b5)])) _
      refine X46.ldc2J hx hown (mvT hZ (hw _ (List.mem_of_getElem? (i := 14) rfl))) rfl (hb hby at_103) ?_
      show Steps p.tables e below (T46.setTop (mkF m 106 #[.val (.long lq0), .second, .val (.int i2), .val (.int i3), .val (.long vv), .second, .val (.int ww), .unset, .unset, .unset, .unset, .unset, .unset, .unset, .unset] [(.long (10000000000000 : Int64)), (.int (13 : Int32)), (.ref b5), (.ref b5)])) _
      refine st49 _ ?_
      show Steps p.tables e below (T49.setTop (mkF m 107 #[.val (.long lq0), .second, .val (.int i2), .val (.int i3), .val (.long vv), .second, .val (.int ww), .unset, .unset, .unset, .unset, .unset, .unset, .unset, .unset] [(.ref b5)])) _
      refine XS.dup X49.here hx rfl (hb hby at_107) rfl rfl ?_
      show Steps p.tables e below (T49.setTop (mkF m 108 #[.val (.long lq0), .second, .val (.int i2), .val (.int i3), .val (.long vv), .second, .val (.int ww), .unset, .unset, .unset, .unset, .unset, .unset, .unset, .unset] [(.ref b5), (.ref b5)])) _
      refine XS.bipush X49.here hx rfl (hb hby at_108) ?_
      show Steps p.tables e below (T49.setTop (mkF m 110 #[.val (.long lq0), .second, .val (.int i2), .val (.int i3), .val (.long vv), .second, .val (.int ww), .unset, .unset, .unset, .unset, .unset, .unset, .unset, .unset] [(.int (14 : Int32)), (.ref b5), (.ref b5)])) _
      refine X49.ldc2J hx hown (mvT hZ (hw _ (List.mem_of_getElem? (i := 15) rfl))) rfl (hb hby at_110) ?_
      show Steps p.tables e below (T49.setTop (mkF m 113 #[.val (.long lq0), .second, .val (.int i2), .val (.int i3), .val (.long vv), .second, .val (.int ww), .unset, .unset, .unset, .unset, .unset, .unset, .unset, .unset] [(.long (100000000000000 : Int64)), (.int (14 : Int32)), (.ref b5), (.ref b5)])) _
      refine st52 _ ?_
      show Steps p.tables e below (T52.setTop (mkF m 114 #[.val (.long lq0), .second, .val (.int i2), .val (.int i3), .val (.long vv), .second, .val (.int ww), .unset, .unset, .unset, .unset, .unset, .unset, .unset, .unset] [(.ref b5)])) _
      refine XS.dup X52.here hx rfl (hb hby at_114) rfl rfl ?_
      show Steps p.tables e below (T52.setTop (mkF m 115 #[.val (.long lq0), .second, .val (.int i2), .val (.int i3), .val (.long vv), .second, .val (.int ww), .unset, .unset, .unset, .unset, .unset, .unset, .unset, .unset] [(.ref b5), (.ref b5)])) _
      refine XS.bipush X52.here hx rfl (hb hby at_115) ?_
      show Steps p.tables e below (T52.setTop (mkF m 117 #[.val (.long lq0), .second, .val (.int i2), .val (.int i3), .val (.long vv), .second, .val (.int ww), .unset, .unset, .unset, .unset, .unset, .unset, .unset, .unset] [(.int (15 : Int32)), (.ref b5), (.ref b5)])) _
      refine X52.ldc2J hx hown (mvT hZ (hw _ (List.mem_of_getElem? (i := 16) rfl))) rfl (hb hby at_117) ?_
      show Steps p.tables e below (T52.setTop (mkF m 120 #[.val (.long lq0), .second, .val (.int i2), .val (.int i3), .val (.long vv), .second, .val (.int ww), .unset, .unset, .unset, .unset, .unset, .unset, .unset, .unset] [(.long (1000000000000000 : Int64)), (.int (15 : Int32)), (.ref b5), (.ref b5)])) _
      refine st55 _ ?_
      show Steps p.tables e below (T55.setTop (mkF m 121 #[.val (.long lq0), .second, .val (.int i2), .val (.int i3), .val (.long vv), .second, .val (.int ww), .unset, .unset, .unset, .unset, .unset, .unset, .unset, .unset] [(.ref b5)])) _
      refine XS.dup X55.here hx rfl (hb hby at_121) rfl rfl ?_
      show Steps p.tables e below (T55.setTop (mkF m 122 #[.val (.long lq0), .second, .val (.int i2), .val (.int i3), .val (.long vv), .second, .val (.int ww), .unset, .unset, .unset, .unset, .unset, .unset, .unset, .unset] [(.ref b5), (.ref b5)])) _
      refine XS.bipush X55.here hx rfl (hb hby at_122) ?_
      show Steps p.tables e below (T55.setTop (mkF m 124 #[.val (.long lq0), .second, .val (.int i2), .val (.int i3), .val (.long vv), .second, .val (.int ww), .unset, .unset, .unset, .unset, .unset, .unset, .unset, .unset] [(.int (16 : Int32)), (.ref b5), (.ref b5)])) _
      refine X55.ldc2J hx hown (mvT hZ (hw _ (List.mem_of_getElem? (i := 17) rfl))) rfl (hb hby at_124) ?_
      show Steps p.tables e below (T55.setTop (mkF m 127 #[.val (.long lq0), .second, .val (.int i2), .val (.int i3), .val (.long vv), .second, .val (.int ww), .unset, .unset, .unset, .unset, .unset, .unset, .unset, .unset] [(.long (10000000000000000 : Int64)), (.int (16 : Int32)), (.ref b5), (.ref b5)])) _
      refine st58 _ ?_
      show Steps p.tables e below (T58.setTop (mkF m 128 #[.val (.long lq0), .second, .val (.int i2), .val (.int i3), .val (.long vv), .second, .val (.int ww), .unset, .unset, .unset, .unset, .unset, .unset, .unset, .unset] [(.ref b5)])) _
      refine XS.dup X58.here hx rfl (hb hby at_128) rfl rfl ?_
      show Steps p.tables e below (T58.setTop (mkF m 129 #[.val (.long lq0), .second, .val (.int i2), .val (.int i3), .val (.long vv), .second, .val (.int ww), .unset, .unset, .unset, .unset, .unset, .unset, .unset, .unset] [(.ref b5), (.ref b5)])) _
      refine XS.bipush X58.here hx rfl (hb hby at_129) ?_
      show Steps p.tables e below (T58.setTop (mkF m 131 #[.val (.long lq0), .second, .val (.int i2), .val (.int i3), .val (.long vv), .second, .val (.int ww), .unset, .unset, .unset, .unset, .unset, .unset, .unset, .unset] [(.int (17 : Int32)), (.ref b5), (.ref b5)])) _
      refine X58.ldc2J hx hown (mvT hZ (hw _ (List.mem_of_getElem? (i := 18) rfl))) rfl (hb hby at_131) ?_
      show Steps p.tables e below (T58.setTop (mkF m 134 #[.val (.long lq0), .second, .val (.int i2), .val (.int i3), .val (.long vv), .second, .val (.int ww), .unset, .unset, .unset, .unset, .unset, .unset, .unset, .unset] [(.long (100000000000000000 : Int64)), (.int (17 : Int32)), (.ref b5), (.ref b5)])) _
      refine st61 _ ?_
      show Steps p.tables e below (T61.setTop (mkF m 135 #[.val (.long lq0), .second, .val (.int i2), .val (.int i3), .val (.long vv), .second, .val (.int ww), .unset, .unset, .unset, .unset, .unset, .unset, .unset, .unset] [(.ref b5)])) _
      refine XS.dup X61.here hx rfl (hb hby at_135) rfl rfl ?_
      show Steps p.tables e below (T61.setTop (mkF m 136 #[.val (.long lq0), .second, .val (.int i2), .val (.int i3), .val (.long vv), .second, .val (.int ww), .unset, .unset, .unset, .unset, .unset, .unset, .unset, .unset] [(.ref b5), (.ref b5)])) _
      refine XS.bipush X61.here hx rfl (hb hby at_136) ?_
      show Steps p.tables e below (T61.setTop (mkF m 138 #[.val (.long lq0), .second, .val (.int i2), .val (.int i3), .val (.long vv), .second, .val (.int ww), .unset, .unset, .unset, .unset, .unset, .unset, .unset, .unset] [(.int (18 : Int32)), (.ref b5), (.ref b5)])) _
      refine X61.ldc2J hx hown (mvT hZ (hw _ (List.mem_of_getElem? (i := 19) rfl))) rfl (hb hby at_138) ?_
      show Steps p.tables e below (T61.setTop (mkF m 141 #[.val (.long lq0), .second, .val (.int i2), .val (.int i3), .val (.long vv), .second, .val (.int ww), .unset, .unset, .unset, .unset, .unset, .unset, .unset, .unset] [(.long (1000000000000000000 : Int64)), (.int (18 : Int32)), (.ref b5), (.ref b5)])) _
      refine st64 _ ?_
      show Steps p.tables e below (T64.setTop (mkF m 142 #[.val (.long lq0), .second, .val (.int i2), .val (.int i3), .val (.long vv), .second, .val (.int ww), .unset, .unset, .unset, .unset, .unset, .unset, .unset, .unset] [(.ref b5)])) _
      refine XS.astore X64.here hx rfl (hb hby at_142) rfl rfl (l' := #[.val (.long lq0), .second, .val (.int i2), .val (.int i3), .val (.long vv), .second, .val (.int ww), .val (.ref b5), .unset, .unset, .unset, .unset, .unset, .unset, .unset]) rfl ?_
      show Steps p.tables e below (T64.setTop (mkF m 144 #[.val (.long lq0), .second, .val (.int i2), .val (.int i3), .val (.long vv), .second, .val (.int ww), .val (.ref b5), .unset, .unset, .unset, .unset, .unset, .unset, .unset] [])) _
      refine XS.iconst X64.here hx rfl (hb hby at_144) ?_
      show Steps p.tables e below (T64.setTop (mkF m 145 #[.val (.long lq0), .second, .val (.int i2), .val (.int i3), .val (.long vv), .second, .val (.int ww), .val (.ref b5), .unset, .unset, .unset, .unset, .unset, .unset, .unset] [(.int (1 : Int32))])) _
      refine XS.lload X64.here hx rfl (hb hby at_145) rfl ?_
      show Steps p.tables e below (T64.setTop (mkF m 147 #[.val (.long lq0), .second, .val (.int i2), .val (.int i3), .val (.long vv), .second, .val (.int ww), .val (.ref b5), .unset, .unset, .unset, .unset, .unset, .unset, .unset] [(.long vv), (.int (1 : Int32))])) _
      refine XS.aload X64.here hx rfl (hb hby at_147) rfl rfl ?_
      show Steps p.tables e below (T64.setTop (mkF m 149 #[.val (.long lq0), .second, .val (.int i2), .val (.int i3), .val (.long vv), .second, .val (.int ww), .val (.ref b5), .unset, .unset, .unset, .unset, .unset, .unset, .unset] [(.ref b5), (.long vv), (.int (1 : Int32))])) _
      refine XS.iconst X64.here hx rfl (hb hby at_149) ?_
      show Steps p.tables e below (T64.setTop (mkF m 150 #[.val (.long lq0), .second, .val (.int i2), .val (.int i3), .val (.long vv), .second, .val (.int ww), .val (.ref b5), .unset, .unset, .unset, .unset, .unset, .unset, .unset] [(.int (1 : Int32)), (.ref b5), (.long vv), (.int (1 : Int32))])) _
      refine X64.laload hx (j := (1 : Int32)) (v := (.long (10 : Int64))) (by rw [e64]; exact Ar66.1) (State.isArrayOf_alike hZ.alike Ar66.2.1) Ar66.2.2 hin66 (Has.at H66 hin66 rfl) (g := (mkF m 150 #[.val (.long lq0), .second, .val (.int i2), .val (.int i3), .val (.long vv), .second, .val (.int ww), .val (.ref b5), .unset, .unset, .unset, .unset, .unset, .unset, .unset] [(.int (1 : Int32)), (.ref b5), (.long vv), (.int (1 : Int32))])) rfl rfl (hb hby at_150) _ ?_
      show Steps p.tables e below (T64.setTop (mkF m 151 #[.val (.long lq0), .second, .val (.int i2), .val (.int i3), .val (.long vv), .second, .val (.int ww), .val (.ref b5), .unset, .unset, .unset, .unset, .unset, .unset, .unset] [(.long (10 : Int64)), (.long vv), (.int (1 : Int32))])) _
      refine st68 _ ?_
      show Steps p.tables e below (T68.setTop (mkF m 154 #[.val (.long lq0), .second, .val (.int i2), .val (.int i3), .val (.long vv), .second, .val (.int ww), .val (.ref b5), .unset, .unset, .unset, .unset, .unset, .unset, .unset] [(.int (if vv < (10 : Int64) then (0 : Int32) else (1 : Int32))), (.int (1 : Int32))])) _
      refine XS.iadd X68.here hx rfl (hb hby at_154) rfl ?_
      show Steps p.tables e below (T68.setTop (mkF m 155 #[.val (.long lq0), .second, .val (.int i2), .val (.int i3), .val (.long vv), .second, .val (.int ww), .val (.ref b5), .unset, .unset, .unset, .unset, .unset, .unset, .unset] [(.int ((1 : Int32) + (if vv < (10 : Int64) then (0 : Int32) else (1 : Int32))))])) _
      exact kk_)
  obtain ⟨su1, h_su1⟩ : ∃ z : Int32, z = ((1 : Int32) + (if vv < (10 : Int64) then (0 : Int32) else (1 : Int32))) := ⟨_, rfl⟩
  have r70 : GoTo p.tables e below s₁ (own_F_own_law m lq0 i2 i3) T68 (mkF m 155 #[.val (.long lq0), .second, .val (.int i2), .val (.int i3), .val (.long vv), .second, .val (.int ww), .val (.ref b5), .unset, .unset, .unset, .unset, .unset, .unset, .unset] [(.int su1)]) := by rw [h_su1]; exact r69
  obtain ⟨cl71, Ar71, q71, S71, NN71, H71, G71⟩ := id V64
  have hin71 : ¬ ((2 : Int32) < 0 ∨ cl71.slots.size ≤ ((2 : Int32)).toNatClampNeg) := inb_of S71 ⟨by decide, by decide⟩
  obtain ⟨Lg72, X72, N72⟩ : ∃ L' : List Loc, Stand p l e room_1 s m #[(.long lq0), (.int i2), (.int i3)] below meth c T68 L' 1 19 ∧ Fr n0 L' := ⟨_, X68, N68⟩
  obtain ⟨_, _, ⟨T73, L73, k73, n73⟩, -, X73, ⟨Lc73, hQ73, l73, y73, z73⟩, st73⟩ := Jvm.LawKit.callS X72 hx (y := (⟨"com/example/uketsuke/uketsuke/store/IdFormatDigitsPinLaw", "ge", "(JJ)I"⟩ : MethodName)) hown (mvT hZ (hw _ (List.mem_of_getElem? (i := 20) rfl))) (mvT hZ (hw _ (List.mem_of_getElem? (i := 21) rfl))) (mvT hZ (hw _ (List.mem_of_getElem? (i := 22) rfl))) (mvT hZ (hw _ (List.mem_of_getElem? (i := 23) rfl))) (by decide) (backOf (W := 1) (own_ge l Z a0 hw [] (vv) ((100 : Int64)) h64 n0 (O0.keep K65 all0)) hZ (hw _ (List.mem_of_getElem? (i := 23) rfl)) (hw _ (List.mem_of_getElem? (i := 22) rfl)) (by decide) (by decide)) (g := (mkF m 161 #[.val (.long lq0), .second, .val (.int i2), .val (.int i3), .val (.long vv), .second, .val (.int ww), .val (.ref b5), .unset, .unset, .unset, .unset, .unset, .unset, .unset] [(.long (100 : Int64)), (.long vv), (.int su1)])) rfl (by rw [hml]; rfl) (argsL := [(.long vv), (.long (100 : Int64))]) (rest := [(.int su1)]) (lenOf own_pd27 rfl) rfl (by show 2 * 0 + _ ≤ _; exact Nat.le_of_eq rfl) (hb hby at_161) (fun _ _ => ⟨rfl, hh68, (by decide : 1 + 0 ≤ _), (by decide : 19 + 0 ≤ _)⟩)
  dsimp only [Pt.U, Pt.locs, Pt.cells, Pt.slots] at X73 l73 y73 z73 st73 hQ73
  subst l73 y73 z73
  obtain ⟨rfl, Nq73, hh73⟩ := hQ73
  have N73 := Fr.app N72 Nq73
  have r74 : GoTo p.tables e below s₁ (own_F_own_law m lq0 i2 i3) T73 (mkF m 165 #[.val (.long lq0), .second, .val (.int i2), .val (.int i3), .val (.long vv), .second, .val (.int ww), .val (.ref b5), .unset, .unset, .unset, .unset, .unset, .unset, .unset] [(.int (su1 + (if vv < (100 : Int64) then (0 : Int32) else (1 : Int32))))]) := fun tt_ kk_ => r70 tt_ (by
      show Steps p.tables e below (T68.setTop (mkF m 155 #[.val (.long lq0), .second, .val (.int i2), .val (.int i3), .val (.long vv), .second, .val (.int ww), .val (.ref b5), .unset, .unset, .unset, .unset, .unset, .unset, .unset] [(.int su1)])) _
      refine XS.lload X68.here hx rfl (hb hby at_155) rfl ?_
      show Steps p.tables e below (T68.setTop (mkF m 157 #[.val (.long lq0), .second, .val (.int i2), .val (.int i3), .val (.long vv), .second, .val (.int ww), .val (.ref b5), .unset, .unset, .unset, .unset, .unset, .unset, .unset] [(.long vv), (.int su1)])) _
      refine XS.aload X68.here hx rfl (hb hby at_157) rfl rfl ?_
      show Steps p.tables e below (T68.setTop (mkF m 159 #[.val (.long lq0), .second, .val (.int i2), .val (.int i3), .val (.long vv), .second, .val (.int ww), .val (.ref b5), .unset, .unset, .unset, .unset, .unset, .unset, .unset] [(.ref b5), (.long vv), (.int su1)])) _
      refine XS.iconst X68.here hx rfl (hb hby at_159) ?_
      show Steps p.tables e below (T68.setTop (mkF m 160 #[.val (.long lq0), .second, .val (.int i2), .val (.int i3), .val (.long vv), .second, .val (.int ww), .val (.ref b5), .unset, .unset, .unset, .unset, .unset, .unset, .unset] [(.int (2 : Int32)), (.ref b5), (.long vv), (.int su1)])) _
      refine X68.laload hx (j := (2 : Int32)) (v := (.long (100 : Int64))) (by rw [hh68]; exact Ar71.1) (State.isArrayOf_alike hZ.alike Ar71.2.1) Ar71.2.2 hin71 (Has.at H71 hin71 rfl) (g := (mkF m 160 #[.val (.long lq0), .second, .val (.int i2), .val (.int i3), .val (.long vv), .second, .val (.int ww), .val (.ref b5), .unset, .unset, .unset, .unset, .unset, .unset, .unset] [(.int (2 : Int32)), (.ref b5), (.long vv), (.int su1)])) rfl rfl (hb hby at_160) _ ?_
      show Steps p.tables e below (T68.setTop (mkF m 161 #[.val (.long lq0), .second, .val (.int i2), .val (.int i3), .val (.long vv), .second, .val (.int ww), .val (.ref b5), .unset, .unset, .unset, .unset, .unset, .unset, .unset] [(.long (100 : Int64)), (.long vv), (.int su1)])) _
      refine st73 _ ?_
      show Steps p.tables e below (T73.setTop (mkF m 164 #[.val (.long lq0), .second, .val (.int i2), .val (.int i3), .val (.long vv), .second, .val (.int ww), .val (.ref b5), .unset, .unset, .unset, .unset, .unset, .unset, .unset] [(.int (if vv < (100 : Int64) then (0 : Int32) else (1 : Int32))), (.int su1)])) _
      refine XS.iadd X73.here hx rfl (hb hby at_164) rfl ?_
      show Steps p.tables e below (T73.setTop (mkF m 165 #[.val (.long lq0), .second, .val (.int i2), .val (.int i3), .val (.long vv), .second, .val (.int ww), .val (.ref b5), .unset, .unset, .unset, .unset, .unset, .unset, .unset] [(.int (su1 + (if vv < (100 : Int64) then (0 : Int32) else (1 : Int32))))])) _
      exact kk_)
  obtain ⟨su2, h_su2⟩ : ∃ z : Int32, z = (su1 + (if vv < (100 : Int64) then (0 : Int32) else (1 : Int32))) := ⟨_, rfl⟩
  have r75 : GoTo p.tables e below s₁ (own_F_own_law m lq0 i2 i3) T73 (mkF m 165 #[.val (.long lq0), .second, .val (.int i2), .val (.int i3), .val (.long vv), .second, .val (.int ww), .val (.ref b5), .unset, .unset, .unset, .unset, .unset, .unset, .unset] [(.int su2)]) := by rw [h_su2]; exact r74
  obtain ⟨cl76, Ar76, q76, S76, NN76, H76, G76⟩ := id V64
  have hin76 : ¬ ((3 : Int32) < 0 ∨ cl76.slots.size ≤ ((3 : Int32)).toNatClampNeg) := inb_of S76 ⟨by decide, by decide⟩
  obtain ⟨_, _, ⟨T77, L77, k77, n77⟩, -, X77, ⟨Lc77, hQ77, l77, y77, z77⟩, st77⟩ := Jvm.LawKit.callS X73 hx (y := (⟨"com/example/uketsuke/uketsuke/store/IdFormatDigitsPinLaw", "ge", "(JJ)I"⟩ : MethodName)) hown (mvT hZ (hw _ (List.mem_of_getElem? (i := 20) rfl))) (mvT hZ (hw _ (List.mem_of_getElem? (i := 21) rfl))) (mvT hZ (hw _ (List.mem_of_getElem? (i := 22) rfl))) (mvT hZ (hw _ (List.mem_of_getElem? (i := 23) rfl))) (by decide) (backOf (W := 1) (own_ge l Z a0 hw [] (vv) ((1000 : Int64)) h64 n0 (O0.keep K65 all0)) hZ (hw _ (List.mem_of_getElem? (i := 23) rfl)) (hw _ (List.mem_of_getElem? (i := 22) rfl)) (by decide) (by decide)) (g := (mkF m 171 #[.val (.long lq0), .second, .val (.int i2), .val (.int i3), .val (.long vv), .second, .val (.int ww), .val (.ref b5), .unset, .unset, .unset, .unset, .unset, .unset, .unset] [(.long (1000 : Int64)), (.long vv), (.int su2)])) rfl (by rw [hml]; rfl) (argsL := [(.long vv), (.long (1000 : Int64))]) (rest := [(.int su2)]) (lenOf own_pd27 rfl) rfl (by show 2 * 0 + _ ≤ _; exact Nat.le_of_eq rfl) (hb hby at_171) (fun _ _ => ⟨rfl, hh73, (by decide : 1 + 0 ≤ _), (by decide : 19 + 0 ≤ _)⟩)
  dsimp only [Pt.U, Pt.locs, Pt.cells, Pt.slots] at X77 l77 y77 z77 st77 hQ77
  subst l77 y77 z77
  obtain ⟨rfl, Nq77, hh77⟩ := hQ77
  have N77 := Fr.app N73 Nq77
  have r78 : GoTo p.tables e below s₁ (own_F_own_law m lq0 i2 i3) T77 (mkF m 175 #[.val (.long lq0), .second, .val (.int i2), .val (.int i3), .val (.long vv), .second, .val (.int ww), .val (.ref b5), .unset, .unset, .unset, .unset, .unset, .unset, .unset] [(.int (su2 + (if vv < (1000 : Int64) then (0 : Int32) else (1 : Int32))))]) := fun tt_ kk_ => r75 tt_ (by
      show Steps p.tables e below (T73.setTop (mkF m 165 #[.val (.long lq0), .second, .val (.int i2), .val (.int i3), .val (.long vv), .second, .val (.int ww), .val (.ref b5), .unset, .unset, .unset, .unset, .unset, .unset, .unset] [(.int su2)])) _
      refine XS.lload X73.here hx rfl (hb hby at_165) rfl ?_
      show Steps p.tables e below (T73.setTop (mkF m 167 #[.val (.long lq0), .second, .val (.int i2), .val (.int i3), .val (.long vv), .second, .val (.int ww), .val (.ref b5), .unset, .unset, .unset, .unset, .unset, .unset, .unset] [(.long vv), (.int su2)])) _
      refine XS.aload X73.here hx rfl (hb hby at_167) rfl rfl ?_
      show Steps p.tables e below (T73.setTop (mkF m 169 #[.val (.long lq0), .second, .val (.int i2), .val (.int i3), .val (.long vv), .second, .val (.int ww), .val (.ref b5), .unset, .unset, .unset, .unset, .unset, .unset, .unset] [(.ref b5), (.long vv), (.int su2)])) _
      refine XS.iconst X73.here hx rfl (hb hby at_169) ?_
      show Steps p.tables e below (T73.setTop (mkF m 170 #[.val (.long lq0), .second, .val (.int i2), .val (.int i3), .val (.long vv), .second, .val (.int ww), .val (.ref b5), .unset, .unset, .unset, .unset, .unset, .unset, .unset] [(.int (3 : Int32)), (.ref b5), (.long vv), (.int su2)])) _
      refine X73.laload hx (j := (3 : Int32)) (v := (.long (1000 : Int64))) (by rw [hh73]; exact Ar76.1) (State.isArrayOf_alike hZ.alike Ar76.2.1) Ar76.2.2 hin76 (Has.at H76 hin76 rfl) (g := (mkF m 170 #[.val (.long lq0), .second, .val (.int i2), .val (.int i3), .val (.long vv), .second, .val (.int ww), .val (.ref b5), .unset, .unset, .unset, .unset, .unset, .unset, .unset] [(.int (3 : Int32)), (.ref b5), (.long vv), (.int su2)])) rfl rfl (hb hby at_170) _ ?_
      show Steps p.tables e below (T73.setTop (mkF m 171 #[.val (.long lq0), .second, .val (.int i2), .val (.int i3), .val (.long vv), .second, .val (.int ww), .val (.ref b5), .unset, .unset, .unset, .unset, .unset, .unset, .unset] [(.long (1000 : Int64)), (.long vv), (.int su2)])) _
      refine st77 _ ?_
      show Steps p.tables e below (T77.setTop (mkF m 174 #[.val (.long lq0), .second, .val (.int i2), .val (.int i3), .val (.long vv), .second, .val (.int ww), .val (.ref b5), .unset, .unset, .unset, .unset, .unset, .unset, .unset] [(.int (if vv < (1000 : Int64) then (0 : Int32) else (1 : Int32))), (.int su2)])) _
      refine XS.iadd X77.here hx rfl (hb hby at_174) rfl ?_
      show Steps p.tables e below (T77.setTop (mkF m 175 #[.val (.long lq0), .second, .val (.int i2), .val (.int i3), .val (.long vv), .second, .val (.int ww), .val (.ref b5), .unset, .unset, .unset, .unset, .unset, .unset, .unset] [(.int (su2 + (if vv < (1000 : Int64) then (0 : Int32) else (1 : Int32))))])) _
      exact kk_)
  obtain ⟨su3, h_su3⟩ : ∃ z : Int32, z = (su2 + (if vv < (1000 : Int64) then (0 : Int32) else (1 : Int32))) := ⟨_, rfl⟩
  have r79 : GoTo p.tables e below s₁ (own_F_own_law m lq0 i2 i3) T77 (mkF m 175 #[.val (.long lq0), .second, .val (.int i2), .val (.int i3), .val (.long vv), .second, .val (.int ww), .val (.ref b5), .unset, .unset, .unset, .unset, .unset, .unset, .unset] [(.int su3)]) := by rw [h_su3]; exact r78
  obtain ⟨cl80, Ar80, q80, S80, NN80, H80, G80⟩ := id V64
  have hin80 : ¬ ((4 : Int32) < 0 ∨ cl80.slots.size ≤ ((4 : Int32)).toNatClampNeg) := inb_of S80 ⟨by decide, by decide⟩
  obtain ⟨Lg81, X81, N81⟩ : ∃ L' : List Loc, Stand p l e room_1 s m #[(.long lq0), (.int i2), (.int i3)] below meth c T77 L' 1 19 ∧ Fr n0 L' := ⟨_, X77, N77⟩
  obtain ⟨_, _, ⟨T82, L82, k82, n82⟩, -, X82, ⟨Lc82, hQ82, l82, y82, z82⟩, st82⟩ := Jvm.LawKit.callS X81 hx (y := (⟨"com/example/uketsuke/uketsuke/store/IdFormatDigitsPinLaw", "ge", "(JJ)I"⟩ : MethodName)) hown (mvT hZ (hw _ (List.mem_of_getElem? (i := 20) rfl))) (mvT hZ (hw _ (List.mem_of_getElem? (i := 21) rfl))) (mvT hZ (hw _ (List.mem_of_getElem? (i := 22) rfl))) (mvT hZ (hw _ (List.mem_of_getElem? (i := 23) rfl))) (by decide) (backOf (W := 1) (own_ge l Z a0 hw [] (vv) ((10000 : Int64)) h64 n0 (O0.keep K65 all0)) hZ (hw _ (List.mem_of_getElem? (i := 23) rfl)) (hw _ (List.mem_of_getElem? (i := 22) rfl)) (by decide) (by decide)) (g := (mkF m 181 #[.val (.long lq0), .second, .val (.int i2), .val (.int i3), .val (.long vv), .second, .val (.int ww), .val (.ref b5), .unset, .unset, .unset, .unset, .unset, .unset, .unset] [(.long (10000 : Int64)), (.long vv), (.int su3)])) rfl (by rw [hml]; rfl) (argsL := [(.long vv), (.long (10000 : Int64))]) (rest := [(.int su3)]) (lenOf own_pd27 rfl) rfl (by show 2 * 0 + _ ≤ _; exact Nat.le_of_eq rfl) (hb hby at_181) (fun _ _ => ⟨rfl, hh77, (by decide : 1 + 0 ≤ _), (by decide : 19 + 0 ≤ _)⟩)
  dsimp only [Pt.U, Pt.locs, Pt.cells, Pt.slots] at X82 l82 y82 z82 st82 hQ82
  subst l82 y82 z82
  obtain ⟨rfl, Nq82, hh82⟩ := hQ82
  have N82 := Fr.app N81 Nq82
  have r83 : GoTo p.tables e below s₁ (own_F_own_law m lq0 i2 i3) T82 (mkF m 185 #[.val (.long lq0), .second, .val (.int i2), .val (.int i3), .val (.long vv), .second, .val (.int ww), .val (.ref b5), .unset, .unset, .unset, .unset, .unset, .unset, .unset] [(.int (su3 + (if vv < (10000 : Int64) then (0 : Int32) else (1 : Int32))))]) := fun tt_ kk_ => r79 tt_ (by
      show Steps p.tables e below (T77.setTop (mkF m 175 #[.val (.long lq0), .second, .val (.int i2), .val (.int i3), .val (.long vv), .second, .val (.int ww), .val (.ref b5), .unset, .unset, .unset, .unset, .unset, .unset, .unset] [(.int su3)])) _
      refine XS.lload X77.here hx rfl (hb hby at_175) rfl ?_
      show Steps p.tables e below (T77.setTop (mkF m 177 #[.val (.long lq0), .second, .val (.int i2), .val (.int i3), .val (.long vv), .second, .val (.int ww), .val (.ref b5), .unset, .unset, .unset, .unset, .unset, .unset, .unset] [(.long vv), (.int su3)])) _
      refine XS.aload X77.here hx rfl (hb hby at_177) rfl rfl ?_
      show Steps p.tables e below (T77.setTop (mkF m 179 #[.val (.long lq0), .second, .val (.int i2), .val (.int i3), .val (.long vv), .second, .val (.int ww), .val (.ref b5), .unset, .unset, .unset, .unset, .unset, .unset, .unset] [(.ref b5), (.long vv), (.int su3)])) _
      refine XS.iconst X77.here hx rfl (hb hby at_179) ?_
      show Steps p.tables e below (T77.setTop (mkF m 180 #[.val (.long lq0), .second, .val (.int i2), .val (.int i3), .val (.long vv), .second, .val (.int ww), .val (.ref b5), .unset, .unset, .unset, .unset, .unset, .unset, .unset] [(.int (4 : Int32)), (.ref b5), (.long vv), (.int su3)])) _
      refine X77.laload hx (j := (4 : Int32)) (v := (.long (10000 : Int64))) (by rw [hh77]; exact Ar80.1) (State.isArrayOf_alike hZ.alike Ar80.2.1) Ar80.2.2 hin80 (Has.at H80 hin80 rfl) (g := (mkF m 180 #[.val (.long lq0), .second, .val (.int i2), .val (.int i3), .val (.long vv), .second, .val (.int ww), .val (.ref b5), .unset, .unset, .unset, .unset, .unset, .unset, .unset] [(.int (4 : Int32)), (.ref b5), (.long vv), (.int su3)])) rfl rfl (hb hby at_180) _ ?_
      show Steps p.tables e below (T77.setTop (mkF m 181 #[.val (.long lq0), .second, .val (.int i2), .val (.int i3), .val (.long vv), .second, .val (.int ww), .val (.ref b5), .unset, .unset, .unset, .unset, .unset, .unset, .unset] [(.long (10000 : Int64)), (.long vv), (.int su3)])) _
      refine st82 _ ?_
      show Steps p.tables e below (T82.setTop (mkF m 184 #[.val (.long lq0), .second, .val (.int i2), .val (.int i3), .val (.long vv), .second, .val (.int ww), .val (.ref b5), .unset, .unset, .unset, .unset, .unset, .unset, .unset] [(.int (if vv < (10000 : Int64) then (0 : Int32) else (1 : Int32))), (.int su3)])) _
      refine XS.iadd X82.here hx rfl (hb hby at_184) rfl ?_
      show Steps p.tables e below (T82.setTop (mkF m 185 #[.val (.long lq0), .second, .val (.int i2), .val (.int i3), .val (.long vv), .second, .val (.int ww), .val (.ref b5), .unset, .unset, .unset, .unset, .unset, .unset, .unset] [(.int (su3 + (if vv < (10000 : Int64) then (0 : Int32) else (1 : Int32))))])) _
      exact kk_)
  obtain ⟨su4, h_su4⟩ : ∃ z : Int32, z = (su3 + (if vv < (10000 : Int64) then (0 : Int32) else (1 : Int32))) := ⟨_, rfl⟩
  have r84 : GoTo p.tables e below s₁ (own_F_own_law m lq0 i2 i3) T82 (mkF m 185 #[.val (.long lq0), .second, .val (.int i2), .val (.int i3), .val (.long vv), .second, .val (.int ww), .val (.ref b5), .unset, .unset, .unset, .unset, .unset, .unset, .unset] [(.int su4)]) := by rw [h_su4]; exact r83
  obtain ⟨cl85, Ar85, q85, S85, NN85, H85, G85⟩ := id V64
  have hin85 : ¬ ((5 : Int32) < 0 ∨ cl85.slots.size ≤ ((5 : Int32)).toNatClampNeg) := inb_of S85 ⟨by decide, by decide⟩
  obtain ⟨_, _, ⟨T86, L86, k86, n86⟩, -, X86, ⟨Lc86, hQ86, l86, y86, z86⟩, st86⟩ := Jvm.LawKit.callS X82 hx (y := (⟨"com/example/uketsuke/uketsuke/store/IdFormatDigitsPinLaw", "ge", "(JJ)I"⟩ : MethodName)) hown (mvT hZ (hw _ (List.mem_of_getElem? (i := 20) rfl))) (mvT hZ (hw _ (List.mem_of_getElem? (i := 21) rfl))) (mvT hZ (hw _ (List.mem_of_getElem? (i := 22) rfl))) (mvT hZ (hw _ (List.mem_of_getElem? (i := 23) rfl))) (by decide) (backOf (W := 1) (own_ge l Z a0 hw [] (vv) ((100000 : Int64)) h64 n0 (O0.keep K65 all0)) hZ (hw _ (List.mem_of_getElem? (i := 23) rfl)) (hw _ (List.mem_of_getElem? (i := 22) rfl)) (by decide) (by decide)) (g := (mkF m 191 #[.val (.long lq0), .second, .val (.int i2), .val (.int i3), .val (.long vv), .second, .val (.int ww), .val (.ref b5), .unset, .unset, .unset, .unset, .unset, .unset, .unset] [(.long (100000 : Int64)), (.long vv), (.int su4)])) rfl (by rw [hml]; rfl) (argsL := [(.long vv), (.long (100000 : Int64))]) (rest := [(.int su4)]) (lenOf own_pd27 rfl) rfl (by show 2 * 0 + _ ≤ _; exact Nat.le_of_eq rfl) (hb hby at_191) (fun _ _ => ⟨rfl, hh82, (by decide : 1 + 0 ≤ _), (by decide : 19 + 0 ≤ _)⟩)
  dsimp only [Pt.U, Pt.locs, Pt.cells, Pt.slots] at X86 l86 y86 z86 st86 hQ86
  subst l86 y86 z86
  obtain ⟨rfl, Nq86, hh86⟩ := hQ86
  have N86 := Fr.app N82 Nq86
  have r87 : GoTo p.tables e below s₁ (own_F_own_law m lq0 i2 i3) T86 (mkF m 195 #[.val (.long lq0), .second, .val (.int i2), .val (.int i3), .val (.long vv), .second, .val (.int ww), .val (.ref b5), .unset, .unset, .unset, .unset, .unset, .unset, .unset] [(.int (su4 + (if vv < (100000 : Int64) then (0 : Int32) else (1 : Int32))))]) := fun tt_ kk_ => r84 tt_ (by
      show Steps p.tables e below (T82.setTop (mkF m 185 #[.val (.long lq0), .second, .val (.int i2), .val (.int i3), .val (.long vv), .second, .val (.int ww), .val (.ref b5), .unset, .unset, .unset, .unset, .unset, .unset, .unset] [(.int su4)])) _
      refine XS.lload X82.here hx rfl (hb hby at_185) rfl ?_
      show Steps p.tables e below (T82.setTop (mkF m 187 #[.val (.long lq0), .second, .val (.int i2), .val (.int i3), .val (.long vv), .second, .val (.int ww), .val (.ref b5), .unset, .unset, .unset, .unset, .unset, .unset, .unset] [(.long vv), (.int su4)])) _
      refine XS.aload X82.here hx rfl (hb hby at_187) rfl rfl ?_
      show Steps p.tables e below (T82.setTop (mkF m 189 #[.val (.long lq0), .second, .val (.int i2), .val (.int i3), .val (.long vv), .second, .val (.int ww), .val (.ref b5), .unset, .unset, .unset, .unset, .unset, .unset, .unset] [(.ref b5), (.long vv), (.int su4)])) _
      refine XS.iconst X82.here hx rfl (hb hby at_189) ?_
      show Steps p.tables e below (T82.setTop (mkF m 190 #[.val (.long lq0), .second, .val (.int i2), .val (.int i3), .val (.long vv), .second, .val (.int ww), .val (.ref b5), .unset, .unset, .unset, .unset, .unset, .unset, .unset] [(.int (5 : Int32)), (.ref b5), (.long vv), (.int su4)])) _
      refine X82.laload hx (j := (5 : Int32)) (v := (.long (100000 : Int64))) (by rw [hh82]; exact Ar85.1) (State.isArrayOf_alike hZ.alike Ar85.2.1) Ar85.2.2 hin85 (Has.at H85 hin85 rfl) (g := (mkF m 190 #[.val (.long lq0), .second, .val (.int i2), .val (.int i3), .val (.long vv), .second, .val (.int ww), .val (.ref b5), .unset, .unset, .unset, .unset, .unset, .unset, .unset] [(.int (5 : Int32)), (.ref b5), (.long vv), (.int su4)])) rfl rfl (hb hby at_190) _ ?_
      show Steps p.tables e below (T82.setTop (mkF m 191 #[.val (.long lq0), .second, .val (.int i2), .val (.int i3), .val (.long vv), .second, .val (.int ww), .val (.ref b5), .unset, .unset, .unset, .unset, .unset, .unset, .unset] [(.long (100000 : Int64)), (.long vv), (.int su4)])) _
      refine st86 _ ?_
      show Steps p.tables e below (T86.setTop (mkF m 194 #[.val (.long lq0), .second, .val (.int i2), .val (.int i3), .val (.long vv), .second, .val (.int ww), .val (.ref b5), .unset, .unset, .unset, .unset, .unset, .unset, .unset] [(.int (if vv < (100000 : Int64) then (0 : Int32) else (1 : Int32))), (.int su4)])) _
      refine XS.iadd X86.here hx rfl (hb hby at_194) rfl ?_
      show Steps p.tables e below (T86.setTop (mkF m 195 #[.val (.long lq0), .second, .val (.int i2), .val (.int i3), .val (.long vv), .second, .val (.int ww), .val (.ref b5), .unset, .unset, .unset, .unset, .unset, .unset, .unset] [(.int (su4 + (if vv < (100000 : Int64) then (0 : Int32) else (1 : Int32))))])) _
      exact kk_)
  obtain ⟨su5, h_su5⟩ : ∃ z : Int32, z = (su4 + (if vv < (100000 : Int64) then (0 : Int32) else (1 : Int32))) := ⟨_, rfl⟩
  have r88 : GoTo p.tables e below s₁ (own_F_own_law m lq0 i2 i3) T86 (mkF m 195 #[.val (.long lq0), .second, .val (.int i2), .val (.int i3), .val (.long vv), .second, .val (.int ww), .val (.ref b5), .unset, .unset, .unset, .unset, .unset, .unset, .unset] [(.int su5)]) := by rw [h_su5]; exact r87
  obtain ⟨cl89, Ar89, q89, S89, NN89, H89, G89⟩ := id V64
  have hin89 : ¬ ((6 : Int32) < 0 ∨ cl89.slots.size ≤ ((6 : Int32)).toNatClampNeg) := inb_of S89 ⟨by decide, by decide⟩
  obtain ⟨Lg90, X90, N90⟩ : ∃ L' : List Loc, Stand p l e room_1 s m #[(.long lq0), (.int i2), (.int i3)] below meth c T86 L' 1 19 ∧ Fr n0 L' := ⟨_, X86, N86⟩
  obtain ⟨_, _, ⟨T91, L91, k91, n91⟩, -, X91, ⟨Lc91, hQ91, l91, y91, z91⟩, st91⟩ := Jvm.LawKit.callS X90 hx (y := (⟨"com/example/uketsuke/uketsuke/store/IdFormatDigitsPinLaw", "ge", "(JJ)I"⟩ : MethodName)) hown (mvT hZ (hw _ (List.mem_of_getElem? (i := 20) rfl))) (mvT hZ (hw _ (List.mem_of_getElem? (i := 21) rfl))) (mvT hZ (hw _ (List.mem_of_getElem? (i := 22) rfl))) (mvT hZ (hw _ (List.mem_of_getElem? (i := 23) rfl))) (by decide) (backOf (W := 1) (own_ge l Z a0 hw [] (vv) ((1000000 : Int64)) h64 n0 (O0.keep K65 all0)) hZ (hw _ (List.mem_of_getElem? (i := 23) rfl)) (hw _ (List.mem_of_getElem? (i := 22) rfl)) (by decide) (by decide)) (g := (mkF m 202 #[.val (.long lq0), .second, .val (.int i2), .val (.int i3), .val (.long vv), .second, .val (.int ww), .val (.ref b5), .unset, .unset, .unset, .unset, .unset, .unset, .unset] [(.long (1000000 : Int64)), (.long vv), (.int su5)])) rfl (by rw [hml]; rfl) (argsL := [(.long vv), (.long (1000000 : Int64))]) (rest := [(.int su5)]) (lenOf own_pd27 rfl) rfl (by show 2 * 0 + _ ≤ _; exact Nat.le_of_eq rfl) (hb hby at_202) (fun _ _ => ⟨rfl, hh86, (by decide : 1 + 0 ≤ _), (by decide : 19 + 0 ≤ _)⟩)
  dsimp only [Pt.U, Pt.locs, Pt.cells, Pt.slots] at X91 l91 y91 z91 st91 hQ91
  subst l91 y91 z91
  obtain ⟨rfl, Nq91, hh91⟩ := hQ91
  have N91 := Fr.app N90 Nq91
  have r92 : GoTo p.tables e below s₁ (own_F_own_law m lq0 i2 i3) T91 (mkF m 206 #[.val (.long lq0), .second, .val (.int i2), .val (.int i3), .val (.long vv), .second, .val (.int ww), .val (.ref b5), .unset, .unset, .unset, .unset, .unset, .unset, .unset] [(.int (su5 + (if vv < (1000000 : Int64) then (0 : Int32) else (1 : Int32))))]) := fun tt_ kk_ => r88 tt_ (by
      show Steps p.tables e below (T86.setTop (mkF m 195 #[.val (.long lq0), .second, .val (.int i2), .val (.int i3), .val (.long vv), .second, .val (.int ww), .val (.ref b5), .unset, .unset, .unset, .unset, .unset, .unset, .unset] [(.int su5)])) _
      refine XS.lload X86.here hx rfl (hb hby at_195) rfl ?_
      show Steps p.tables e below (T86.setTop (mkF m 197 #[.val (.long lq0), .second, .val (.int i2), .val (.int i3), .val (.long vv), .second, .val (.int ww), .val (.ref b5), .unset, .unset, .unset, .unset, .unset, .unset, .unset] [(.long vv), (.int su5)])) _
      refine XS.aload X86.here hx rfl (hb hby at_197) rfl rfl ?_
      show Steps p.tables e below (T86.setTop (mkF m 199 #[.val (.long lq0), .second, .val (.int i2), .val (.int i3), .val (.long vv), .second, .val (.int ww), .val (.ref b5), .unset, .unset, .unset, .unset, .unset, .unset, .unset] [(.ref b5), (.long vv), (.int su5)])) _
      refine XS.bipush X86.here hx rfl (hb hby at_199) ?_
      show Steps p.tables e below (T86.setTop (mkF m 201 #[.val (.long lq0), .second, .val (.int i2), .val (.int i3), .val (.long vv), .second, .val (.int ww), .val (.ref b5), .unset, .unset, .unset, .unset, .unset, .unset, .unset] [(.int (6 : Int32)), (.ref b5), (.long vv), (.int su5)])) _
      refine X86.laload hx (j := (6 : Int32)) (v := (.long (1000000 : Int64))) (by rw [hh86]; exact Ar89.1) (State.isArrayOf_alike hZ.alike Ar89.2.1) Ar89.2.2 hin89 (Has.at H89 hin89 rfl) (g := (mkF m 201 #[.val (.long lq0), .second, .val (.int i2), .val (.int i3), .val (.long vv), .second, .val (.int ww), .val (.ref b5), .unset, .unset, .unset, .unset, .unset, .unset, .unset] [(.int (6 : Int32)), (.ref b5), (.long vv), (.int su5)])) rfl rfl (hb hby at_201) _ ?_
      show Steps p.tables e below (T86.setTop (mkF m 202 #[.val (.long lq0), .second, .val (.int i2), .val (.int i3), .val (.long vv), .second, .val (.int ww), .val (.ref b5), .unset, .unset, .unset, .unset, .unset, .unset, .unset] [(.long (1000000 : Int64)), (.long vv), (.int su5)])) _
      refine st91 _ ?_
      show Steps p.tables e below (T91.setTop (mkF m 205 #[.val (.long lq0), .second, .val (.int i2), .val (.int i3), .val (.long vv), .second, .val (.int ww), .val (.ref b5), .unset, .unset, .unset, .unset, .unset, .unset, .unset] [(.int (if vv < (1000000 : Int64) then (0 : Int32) else (1 : Int32))), (.int su5)])) _
      refine XS.iadd X91.here hx rfl (hb hby at_205) rfl ?_
      show Steps p.tables e below (T91.setTop (mkF m 206 #[.val (.long lq0), .second, .val (.int i2), .val (.int i3), .val (.long vv), .second, .val (.int ww), .val (.ref b5), .unset, .unset, .unset, .unset, .unset, .unset, .unset] [(.int (su5 + (if vv < (1000000 : Int64) then (0 : Int32) else (1 : Int32))))])) _
      exact kk_)
  obtain ⟨su6, h_su6⟩ : ∃ z : Int32, z = (su5 + (if vv < (1000000 : Int64) then (0 : Int32) else (1 : Int32))) := ⟨_, rfl⟩
  have r93 : GoTo p.tables e below s₁ (own_F_own_law m lq0 i2 i3) T91 (mkF m 206 #[.val (.long lq0), .second, .val (.int i2), .val (.int i3), .val (.long vv), .second, .val (.int ww), .val (.ref b5), .unset, .unset, .unset, .unset, .unset, .unset, .unset] [(.int su6)]) := by rw [h_su6]; exact r92
  obtain ⟨cl94, Ar94, q94, S94, NN94, H94, G94⟩ := id V64
  have hin94 : ¬ ((7 : Int32) < 0 ∨ cl94.slots.size ≤ ((7 : Int32)).toNatClampNeg) := inb_of S94 ⟨by decide, by decide⟩
  obtain ⟨_, _, ⟨T95, L95, k95, n95⟩, -, X95, ⟨Lc95, hQ95, l95, y95, z95⟩, st95⟩ := Jvm.LawKit.callS X91 hx (y := (⟨"com/example/uketsuke/uketsuke/store/IdFormatDigitsPinLaw", "ge", "(JJ)I"⟩ : MethodName)) hown (mvT hZ (hw _ (List.mem_of_getElem? (i := 20) rfl))) (mvT hZ (hw _ (List.mem_of_getElem? (i := 21) rfl))) (mvT hZ (hw _ (List.mem_of_getElem? (i := 22) rfl))) (mvT hZ (hw _ (List.mem_of_getElem? (i := 23) rfl))) (by decide) (backOf (W := 1) (own_ge l Z a0 hw [] (vv) ((10000000 : Int64)) h64 n0 (O0.keep K65 all0)) hZ (hw _ (List.mem_of_getElem? (i := 23) rfl)) (hw _ (List.mem_of_getElem? (i := 22) rfl)) (by decide) (by decide)) (g := (mkF m 213 #[.val (.long lq0), .second, .val (.int i2), .val (.int i3), .val (.long vv), .second, .val (.int ww), .val (.ref b5), .unset, .unset, .unset, .unset, .unset, .unset, .unset] [(.long (10000000 : Int64)), (.long vv), (.int su6)])) rfl (by rw [hml]; rfl) (argsL := [(.long vv), (.long (10000000 : Int64))]) (rest := [(.int su6)]) (lenOf own_pd27 rfl) rfl (by show 2 * 0 + _ ≤ _; exact Nat.le_of_eq rfl) (hb hby at_213) (fun _ _ => ⟨rfl, hh91, (by decide : 1 + 0 ≤ _), (by decide : 19 + 0 ≤ _)⟩)
  dsimp only [Pt.U, Pt.locs, Pt.cells, Pt.slots] at X95 l95 y95 z95 st95 hQ95
  subst l95 y95 z95
  obtain ⟨rfl, Nq95, hh95⟩ := hQ95
  have N95 := Fr.app N91 Nq95
  have r96 : GoTo p.tables e below s₁ (own_F_own_law m lq0 i2 i3) T95 (mkF m 217 #[.val (.long lq0), .second, .val (.int i2), .val (.int i3), .val (.long vv), .second, .val (.int ww), .val (.ref b5), .unset, .unset, .unset, .unset, .unset, .unset, .unset] [(.int (su6 + (if vv < (10000000 : Int64) then (0 : Int32) else (1 : Int32))))]) := fun tt_ kk_ => r93 tt_ (by
      show Steps p.tables e below (T91.setTop (mkF m 206 #[.val (.long lq0), .second, .val (.int i2), .val (.int i3), .val (.long vv), .second, .val (.int ww), .val (.ref b5), .unset, .unset, .unset, .unset, .unset, .unset, .unset] [(.int su6)])) _
      refine XS.lload X91.here hx rfl (hb hby at_206) rfl ?_
      show Steps p.tables e below (T91.setTop (mkF m 208 #[.val (.long lq0), .second, .val (.int i2), .val (.int i3), .val (.long vv), .second, .val (.int ww), .val (.ref b5), .unset, .unset, .unset, .unset, .unset, .unset, .unset] [(.long vv), (.int su6)])) _
      refine XS.aload X91.here hx rfl (hb hby at_208) rfl rfl ?_
      show Steps p.tables e below (T91.setTop (mkF m 210 #[.val (.long lq0), .second, .val (.int i2), .val (.int i3), .val (.long vv), .second, .val (.int ww), .val (.ref b5), .unset, .unset, .unset, .unset, .unset, .unset, .unset] [(.ref b5), (.long vv), (.int su6)])) _
      refine XS.bipush X91.here hx rfl (hb hby at_210) ?_
      show Steps p.tables e below (T91.setTop (mkF m 212 #[.val (.long lq0), .second, .val (.int i2), .val (.int i3), .val (.long vv), .second, .val (.int ww), .val (.ref b5), .unset, .unset, .unset, .unset, .unset, .unset, .unset] [(.int (7 : Int32)), (.ref b5), (.long vv), (.int su6)])) _
      refine X91.laload hx (j := (7 : Int32)) (v := (.long (10000000 : Int64))) (by rw [hh91]; exact Ar94.1) (State.isArrayOf_alike hZ.alike Ar94.2.1) Ar94.2.2 hin94 (Has.at H94 hin94 rfl) (g := (mkF m 212 #[.val (.long lq0), .second, .val (.int i2), .val (.int i3), .val (.long vv), .second, .val (.int ww), .val (.ref b5), .unset, .unset, .unset, .unset, .unset, .unset, .unset] [(.int (7 : Int32)), (.ref b5), (.long vv), (.int su6)])) rfl rfl (hb hby at_212) _ ?_
      show Steps p.tables e below (T91.setTop (mkF m 213 #[.val (.long lq0), .second, .val (.int i2), .val (.int i3), .val (.long vv), .second, .val (.int ww), .val (.ref b5), .unset, .unset, .unset, .unset, .unset, .unset, .unset] [(.long (10000000 : Int64)), (.long vv), (.int su6)])) _
      refine st95 _ ?_
      show Steps p.tables e below (T95.setTop (mkF m 216 #[.val (.long lq0), .second, .val (.int i2), .val (.int i3), .val (.long vv), .second, .val (.int ww), .val (.ref b5), .unset, .unset, .unset, .unset, .unset, .unset, .unset] [(.int (if vv < (10000000 : Int64) then (0 : Int32) else (1 : Int32))), (.int su6)])) _
      refine XS.iadd X95.here hx rfl (hb hby at_216) rfl ?_
      show Steps p.tables e below (T95.setTop (mkF m 217 #[.val (.long lq0), .second, .val (.int i2), .val (.int i3), .val (.long vv), .second, .val (.int ww), .val (.ref b5), .unset, .unset, .unset, .unset, .unset, .unset, .unset] [(.int (su6 + (if vv < (10000000 : Int64) then (0 : Int32) else (1 : Int32))))])) _
      exact kk_)
  obtain ⟨su7, h_su7⟩ : ∃ z : Int32, z = (su6 + (if vv < (10000000 : Int64) then (0 : Int32) else (1 : Int32))) := ⟨_, rfl⟩
  have r97 : GoTo p.tables e below s₁ (own_F_own_law m lq0 i2 i3) T95 (mkF m 217 #[.val (.long lq0), .second, .val (.int i2), .val (.int i3), .val (.long vv), .second, .val (.int ww), .val (.ref b5), .unset, .unset, .unset, .unset, .unset, .unset, .unset] [(.int su7)]) := by rw [h_su7]; exact r96
  obtain ⟨cl98, Ar98, q98, S98, NN98, H98, G98⟩ := id V64
  have hin98 : ¬ ((8 : Int32) < 0 ∨ cl98.slots.size ≤ ((8 : Int32)).toNatClampNeg) := inb_of S98 ⟨by decide, by decide⟩
  obtain ⟨Lg99, X99, N99⟩ : ∃ L' : List Loc, Stand p l e room_1 s m #[(.long lq0), (.int i2), (.int i3)] below meth c T95 L' 1 19 ∧ Fr n0 L' := ⟨_, X95, N95⟩
  obtain ⟨_, _, ⟨T100, L100, k100, n100⟩, -, X100, ⟨Lc100, hQ100, l100, y100, z100⟩, st100⟩ := Jvm.LawKit.callS X99 hx (y := (⟨"com/example/uketsuke/uketsuke/store/IdFormatDigitsPinLaw", "ge", "(JJ)I"⟩ : MethodName)) hown (mvT hZ (hw _ (List.mem_of_getElem? (i := 20) rfl))) (mvT hZ (hw _ (List.mem_of_getElem? (i := 21) rfl))) (mvT hZ (hw _ (List.mem_of_getElem? (i := 22) rfl))) (mvT hZ (hw _ (List.mem_of_getElem? (i := 23) rfl))) (by decide) (backOf (W := 1) (own_ge l Z a0 hw [] (vv) ((100000000 : Int64)) h64 n0 (O0.keep K65 all0)) hZ (hw _ (List.mem_of_getElem? (i := 23) rfl)) (hw _ (List.mem_of_getElem? (i := 22) rfl)) (by decide) (by decide)) (g := (mkF m 224 #[.val (.long lq0), .second, .val (.int i2), .val (.int i3), .val (.long vv), .second, .val (.int ww), .val (.ref b5), .unset, .unset, .unset, .unset, .unset, .unset, .unset] [(.long (100000000 : Int64)), (.long vv), (.int su7)])) rfl (by rw [hml]; rfl) (argsL := [(.long vv), (.long (100000000 : Int64))]) (rest := [(.int su7)]) (lenOf own_pd27 rfl) rfl (by show 2 * 0 + _ ≤ _; exact Nat.le_of_eq rfl) (hb hby at_224) (fun _ _ => ⟨rfl, hh95, (by decide : 1 + 0 ≤ _), (by decide : 19 + 0 ≤ _)⟩)
  dsimp only [Pt.U, Pt.locs, Pt.cells, Pt.slots] at X100 l100 y100 z100 st100 hQ100
  subst l100 y100 z100
  obtain ⟨rfl, Nq100, hh100⟩ := hQ100
  have N100 := Fr.app N99 Nq100
  have r101 : GoTo p.tables e below s₁ (own_F_own_law m lq0 i2 i3) T100 (mkF m 228 #[.val (.long lq0), .second, .val (.int i2), .val (.int i3), .val (.long vv), .second, .val (.int ww), .val (.ref b5), .unset, .unset, .unset, .unset, .unset, .unset, .unset] [(.int (su7 + (if vv < (100000000 : Int64) then (0 : Int32) else (1 : Int32))))]) := fun tt_ kk_ => r97 tt_ (by
      show Steps p.tables e below (T95.setTop (mkF m 217 #[.val (.long lq0), .second, .val (.int i2), .val (.int i3), .val (.long vv), .second, .val (.int ww), .val (.ref b5), .unset, .unset, .unset, .unset, .unset, .unset, .unset] [(.int su7)])) _
      refine XS.lload X95.here hx rfl (hb hby at_217) rfl ?_
      show Steps p.tables e below (T95.setTop (mkF m 219 #[.val (.long lq0), .second, .val (.int i2), .val (.int i3), .val (.long vv), .second, .val (.int ww), .val (.ref b5), .unset, .unset, .unset, .unset, .unset, .unset, .unset] [(.long vv), (.int su7)])) _
      refine XS.aload X95.here hx rfl (hb hby at_219) rfl rfl ?_
      show Steps p.tables e below (T95.setTop (mkF m 221 #[.val (.long lq0), .second, .val (.int i2), .val (.int i3), .val (.long vv), .second, .val (.int ww), .val (.ref b5), .unset, .unset, .unset, .unset, .unset, .unset, .unset] [(.ref b5), (.long vv), (.int su7)])) _
      refine XS.bipush X95.here hx rfl (hb hby at_221) ?_
      show Steps p.tables e below (T95.setTop (mkF m 223 #[.val (.long lq0), .second, .val (.int i2), .val (.int i3), .val (.long vv), .second, .val (.int ww), .val (.ref b5), .unset, .unset, .unset, .unset, .unset, .unset, .unset] [(.int (8 : Int32)), (.ref b5), (.long vv), (.int su7)])) _
      refine X95.laload hx (j := (8 : Int32)) (v := (.long (100000000 : Int64))) (by rw [hh95]; exact Ar98.1) (State.isArrayOf_alike hZ.alike Ar98.2.1) Ar98.2.2 hin98 (Has.at H98 hin98 rfl) (g := (mkF m 223 #[.val (.long lq0), .second, .val (.int i2), .val (.int i3), .val (.long vv), .second, .val (.int ww), .val (.ref b5), .unset, .unset, .unset, .unset, .unset, .unset, .unset] [(.int (8 : Int32)), (.ref b5), (.long vv), (.int su7)])) rfl rfl (hb hby at_223) _ ?_
      show Steps p.tables e below (T95.setTop (mkF m 224 #[.val (.long lq0), .second, .val (.int i2), .val (.int i3), .val (.long vv), .second, .val (.int ww), .val (.ref b5), .unset, .unset, .unset, .unset, .unset, .unset, .unset] [(.long (100000000 : Int64)), (.long vv), (.int su7)])) _
      refine st100 _ ?_
      show Steps p.tables e below (T100.setTop (mkF m 227 #[.val (.long lq0), .second, .val (.int i2), .val (.int i3), .val (.long vv), .second, .val (.int ww), .val (.ref b5), .unset, .unset, .unset, .unset, .unset, .unset, .unset] [(.int (if vv < (100000000 : Int64) then (0 : Int32) else (1 : Int32))), (.int su7)])) _
      refine XS.iadd X100.here hx rfl (hb hby at_227) rfl ?_
      show Steps p.tables e below (T100.setTop (mkF m 228 #[.val (.long lq0), .second, .val (.int i2), .val (.int i3), .val (.long vv), .second, .val (.int ww), .val (.ref b5), .unset, .unset, .unset, .unset, .unset, .unset, .unset] [(.int (su7 + (if vv < (100000000 : Int64) then (0 : Int32) else (1 : Int32))))])) _
      exact kk_)
  obtain ⟨su8, h_su8⟩ : ∃ z : Int32, z = (su7 + (if vv < (100000000 : Int64) then (0 : Int32) else (1 : Int32))) := ⟨_, rfl⟩
  have r102 : GoTo p.tables e below s₁ (own_F_own_law m lq0 i2 i3) T100 (mkF m 228 #[.val (.long lq0), .second, .val (.int i2), .val (.int i3), .val (.long vv), .second, .val (.int ww), .val (.ref b5), .unset, .unset, .unset, .unset, .unset, .unset, .unset] [(.int su8)]) := by rw [h_su8]; exact r101
  obtain ⟨cl103, Ar103, q103, S103, NN103, H103, G103⟩ := id V64
  have hin103 : ¬ ((9 : Int32) < 0 ∨ cl103.slots.size ≤ ((9 : Int32)).toNatClampNeg) := inb_of S103 ⟨by decide, by decide⟩
  obtain ⟨_, _, ⟨T104, L104, k104, n104⟩, -, X104, ⟨Lc104, hQ104, l104, y104, z104⟩, st104⟩ := Jvm.LawKit.callS X100 hx (y := (⟨"com/example/uketsuke/uketsuke/store/IdFormatDigitsPinLaw", "ge", "(JJ)I"⟩ : MethodName)) hown (mvT hZ (hw _ (List.mem_of_getElem? (i := 20) rfl))) (mvT hZ (hw _ (List.mem_of_getElem? (i := 21) rfl))) (mvT hZ (hw _ (List.mem_of_getElem? (i := 22) rfl))) (mvT hZ (hw _ (List.mem_of_getElem? (i := 23) rfl))) (by decide) (backOf (W := 1) (own_ge l Z a0 hw [] (vv) ((1000000000 : Int64)) h64 n0 (O0.keep K65 all0)) hZ (hw _ (List.mem_of_getElem? (i := 23) rfl)) (hw _ (List.mem_of_getElem? (i := 22) rfl)) (by decide) (by decide)) (g := (mkF m 235 #[.val (.long lq0), .second, .val (.int i2), .val (.int i3), .val (.long vv), .second, .val (.int ww), .val (.ref b5), .unset, .unset, .unset, .unset, .unset, .unset, .unset] [(.long (1000000000 : Int64)), (.long vv), (.int su8)])) rfl (by rw [hml]; rfl) (argsL := [(.long vv), (.long (1000000000 : Int64))]) (rest := [(.int su8)]) (lenOf own_pd27 rfl) rfl (by show 2 * 0 + _ ≤ _; exact Nat.le_of_eq rfl) (hb hby at_235) (fun _ _ => ⟨rfl, hh100, (by decide : 1 + 0 ≤ _), (by decide : 19 + 0 ≤ _)⟩)
  dsimp only [Pt.U, Pt.locs, Pt.cells, Pt.slots] at X104 l104 y104 z104 st104 hQ104
  subst l104 y104 z104
  obtain ⟨rfl, Nq104, hh104⟩ := hQ104
  have N104 := Fr.app N100 Nq104
  have r105 : GoTo p.tables e below s₁ (own_F_own_law m lq0 i2 i3) T104 (mkF m 239 #[.val (.long lq0), .second, .val (.int i2), .val (.int i3), .val (.long vv), .second, .val (.int ww), .val (.ref b5), .unset, .unset, .unset, .unset, .unset, .unset, .unset] [(.int (su8 + (if vv < (1000000000 : Int64) then (0 : Int32) else (1 : Int32))))]) := fun tt_ kk_ => r102 tt_ (by
      show Steps p.tables e below (T100.setTop (mkF m 228 #[.val (.long lq0), .second, .val (.int i2), .val (.int i3), .val (.long vv), .second, .val (.int ww), .val (.ref b5), .unset, .unset, .unset, .unset, .unset, .unset, .unset] [(.int su8)])) _
      refine XS.lload X100.here hx rfl (hb hby at_228) rfl ?_
      show Steps p.tables e below (T100.setTop (mkF m 230 #[.val (.long lq0), .second, .val (.int i2), .val (.int i3), .val (.long vv), .second, .val (.int ww), .val (.ref b5), .unset, .unset, .unset, .unset, .unset, .unset, .unset] [(.long vv), (.int su8)])) _
      refine XS.aload X100.here hx rfl (hb hby at_230) rfl rfl ?_
      show Steps p.tables e below (T100.setTop (mkF m 232 #[.val (.long lq0), .second, .val (.int i2), .val (.int i3), .val (.long vv), .second, .val (.int ww), .val (.ref b5), .unset, .unset, .unset, .unset, .unset, .unset, .unset] [(.ref b5), (.long vv), (.int su8)])) _
      refine XS.bipush X100.here hx rfl (hb hby at_232) ?_
      show Steps p.tables e below (T100.setTop (mkF m 234 #[.val (.long lq0), .second, .val (.int i2), .val (.int i3), .val (.long vv), .second, .val (.int ww), .val (.ref b5), .unset, .unset, .unset, .unset, .unset, .unset, .unset] [(.int (9 : Int32)), (.ref b5), (.long vv), (.int su8)])) _
      refine X100.laload hx (j := (9 : Int32)) (v := (.long (1000000000 : Int64))) (by rw [hh100]; exact Ar103.1) (State.isArrayOf_alike hZ.alike Ar103.2.1) Ar103.2.2 hin103 (Has.at H103 hin103 rfl) (g := (mkF m 234 #[.val (.long lq0), .second, .val (.int i2), .val (.int i3), .val (.long vv), .second, .val (.int ww), .val (.ref b5), .unset, .unset, .unset, .unset, .unset, .unset, .unset] [(.int (9 : Int32)), (.ref b5), (.long vv), (.int su8)])) rfl rfl (hb hby at_234) _ ?_
      show Steps p.tables e below (T100.setTop (mkF m 235 #[.val (.long lq0), .second, .val (.int i2), .val (.int i3), .val (.long vv), .second, .val (.int ww), .val (.ref b5), .unset, .unset, .unset, .unset, .unset, .unset, .unset] [(.long (1000000000 : Int64)), (.long vv), (.int su8)])) _
      refine st104 _ ?_
      show Steps p.tables e below (T104.setTop (mkF m 238 #[.val (.long lq0), .second, .val (.int i2), .val (.int i3), .val (.long vv), .second, .val (.int ww), .val (.ref b5), .unset, .unset, .unset, .unset, .unset, .unset, .unset] [(.int (if vv < (1000000000 : Int64) then (0 : Int32) else (1 : Int32))), (.int su8)])) _
      refine XS.iadd X104.here hx rfl (hb hby at_238) rfl ?_
      show Steps p.tables e below (T104.setTop (mkF m 239 #[.val (.long lq0), .second, .val (.int i2), .val (.int i3), .val (.long vv), .second, .val (.int ww), .val (.ref b5), .unset, .unset, .unset, .unset, .unset, .unset, .unset] [(.int (su8 + (if vv < (1000000000 : Int64) then (0 : Int32) else (1 : Int32))))])) _
      exact kk_)
  obtain ⟨su9, h_su9⟩ : ∃ z : Int32, z = (su8 + (if vv < (1000000000 : Int64) then (0 : Int32) else (1 : Int32))) := ⟨_, rfl⟩
  have r106 : GoTo p.tables e below s₁ (own_F_own_law m lq0 i2 i3) T104 (mkF m 239 #[.val (.long lq0), .second, .val (.int i2), .val (.int i3), .val (.long vv), .second, .val (.int ww), .val (.ref b5), .unset, .unset, .unset, .unset, .unset, .unset, .unset] [(.int su9)]) := by rw [h_su9]; exact r105
  obtain ⟨cl107, Ar107, q107, S107, NN107, H107, G107⟩ := id V64
  have hin107 : ¬ ((10 : Int32) < 0 ∨ cl107.slots.size ≤ ((10 : Int32)).toNatClampNeg) := inb_of S107 ⟨by decide, by decide⟩
  obtain ⟨Lg108, X108, N108⟩ : ∃ L' : List Loc, Stand p l e room_1 s m #[(.long lq0), (.int i2), (.int i3)] below meth c T104 L' 1 19 ∧ Fr n0 L' := ⟨_, X104, N104⟩
  obtain ⟨_, _, ⟨T109, L109, k109, n109⟩, -, X109, ⟨Lc109, hQ109, l109, y109, z109⟩, st109⟩ := Jvm.LawKit.callS X108 hx (y := (⟨"com/example/uketsuke/uketsuke/store/IdFormatDigitsPinLaw", "ge", "(JJ)I"⟩ : MethodName)) hown (mvT hZ (hw _ (List.mem_of_getElem? (i := 20) rfl))) (mvT hZ (hw _ (List.mem_of_getElem? (i := 21) rfl))) (mvT hZ (hw _ (List.mem_of_getElem? (i := 22) rfl))) (mvT hZ (hw _ (List.mem_of_getElem? (i := 23) rfl))) (by decide) (backOf (W := 1) (own_ge l Z a0 hw [] (vv) ((10000000000 : Int64)) h64 n0 (O0.keep K65 all0)) hZ (hw _ (List.mem_of_getElem? (i := 23) rfl)) (hw _ (List.mem_of_getElem? (i := 22) rfl)) (by decide) (by decide)) (g := (mkF m 246 #[.val (.long lq0), .second, .val (.int i2), .val (.int i3), .val (.long vv), .second, .val (.int ww), .val (.ref b5), .unset, .unset, .unset, .unset, .unset, .unset, .unset] [(.long (10000000000 : Int64)), (.long vv), (.int su9)])) rfl (by rw [hml]; rfl) (argsL := [(.long vv), (.long (10000000000 : Int64))]) (rest := [(.int su9)]) (lenOf own_pd27 rfl) rfl (by show 2 * 0 + _ ≤ _; exact Nat.le_of_eq rfl) (hb hby at_246) (fun _ _ => ⟨rfl, hh104, (by decide : 1 + 0 ≤ _), (by decide : 19 + 0 ≤ _)⟩)
  dsimp only [Pt.U, Pt.locs, Pt.cells, Pt.slots] at X109 l109 y109 z109 st109 hQ109
  subst l109 y109 z109
  obtain ⟨rfl, Nq109, hh109⟩ := hQ109
  have N109 := Fr.app N108 Nq109
  have r110 : GoTo p.tables e below s₁ (own_F_own_law m lq0 i2 i3) T109 (mkF m 250 #[.val (.long lq0), .second, .val (.int i2), .val (.int i3), .val (.long vv), .second, .val (.int ww), .val (.ref b5), .unset, .unset, .unset, .unset, .unset, .unset, .unset] [(.int (su9 + (if vv < (10000000000 : Int64) then (0 : Int32) else (1 : Int32))))]) := fun tt_ kk_ => r106 tt_ (by
      show Steps p.tables e below (T104.setTop (mkF m 239 #[.val (.long lq0), .second, .val (.int i2), .val (.int i3), .val (.long vv), .second, .val (.int ww), .val (.ref b5), .unset, .unset, .unset, .unset, .unset, .unset, .unset] [(.int su9)])) _
      refine XS.lload X104.here hx rfl (hb hby at_239) rfl ?_
      show Steps p.tables e below (T104.setTop (mkF m 241 #[.val (.long lq0), .second, .val (.int i2), .val (.int i3), .val (.long vv), .second, .val (.int ww), .val (.ref b5), .unset, .unset, .unset, .unset, .unset, .unset, .unset] [(.long vv), (.int su9)])) _
      refine XS.aload X104.here hx rfl (hb hby at_241) rfl rfl ?_
      show Steps p.tables e below (T104.setTop (mkF m 243 #[.val (.long lq0), .second, .val (.int i2), .val (.int i3), .val (.long vv), .second, .val (.int ww), .val (.ref b5), .unset, .unset, .unset, .unset, .unset, .unset, .unset] [(.ref b5), (.long vv), (.int su9)])) _
      refine XS.bipush X104.here hx rfl (hb hby at_243) ?_
      show Steps p.tables e below (T104.setTop (mkF m 245 #[.val (.long lq0), .second, .val (.int i2), .val (.int i3), .val (.long vv), .second, .val (.int ww), .val (.ref b5), .unset, .unset, .unset, .unset, .unset, .unset, .unset] [(.int (10 : Int32)), (.ref b5), (.long vv), (.int su9)])) _
      refine X104.laload hx (j := (10 : Int32)) (v := (.long (10000000000 : Int64))) (by rw [hh104]; exact Ar107.1) (State.isArrayOf_alike hZ.alike Ar107.2.1) Ar107.2.2 hin107 (Has.at H107 hin107 rfl) (g := (mkF m 245 #[.val (.long lq0), .second, .val (.int i2), .val (.int i3), .val (.long vv), .second, .val (.int ww), .val (.ref b5), .unset, .unset, .unset, .unset, .unset, .unset, .unset] [(.int (10 : Int32)), (.ref b5), (.long vv), (.int su9)])) rfl rfl (hb hby at_245) _ ?_
      show Steps p.tables e below (T104.setTop (mkF m 246 #[.val (.long lq0), .second, .val (.int i2), .val (.int i3), .val (.long vv), .second, .val (.int ww), .val (.ref b5), .unset, .unset, .unset, .unset, .unset, .unset, .unset] [(.long (10000000000 : Int64)), (.long vv), (.int su9)])) _
      refine st109 _ ?_
      show Steps p.tables e below (T109.setTop (mkF m 249 #[.val (.long lq0), .second, .val (.int i2), .val (.int i3), .val (.long vv), .second, .val (.int ww), .val (.ref b5), .unset, .unset, .unset, .unset, .unset, .unset, .unset] [(.int (if vv < (10000000000 : Int64) then (0 : Int32) else (1 : Int32))), (.int su9)])) _
      refine XS.iadd X109.here hx rfl (hb hby at_249) rfl ?_
      show Steps p.tables e below (T109.setTop (mkF m 250 #[.val (.long lq0), .second, .val (.int i2), .val (.int i3), .val (.long vv), .second, .val (.int ww), .val (.ref b5), .unset, .unset, .unset, .unset, .unset, .unset, .unset] [(.int (su9 + (if vv < (10000000000 : Int64) then (0 : Int32) else (1 : Int32))))])) _
      exact kk_)
  obtain ⟨su10, h_su10⟩ : ∃ z : Int32, z = (su9 + (if vv < (10000000000 : Int64) then (0 : Int32) else (1 : Int32))) := ⟨_, rfl⟩
  have r111 : GoTo p.tables e below s₁ (own_F_own_law m lq0 i2 i3) T109 (mkF m 250 #[.val (.long lq0), .second, .val (.int i2), .val (.int i3), .val (.long vv), .second, .val (.int ww), .val (.ref b5), .unset, .unset, .unset, .unset, .unset, .unset, .unset] [(.int su10)]) := by rw [h_su10]; exact r110
  obtain ⟨cl112, Ar112, q112, S112, NN112, H112, G112⟩ := id V64
  have hin112 : ¬ ((11 : Int32) < 0 ∨ cl112.slots.size ≤ ((11 : Int32)).toNatClampNeg) := inb_of S112 ⟨by decide, by decide⟩
  obtain ⟨_, _, ⟨T113, L113, k113, n113⟩, -, X113, ⟨Lc113, hQ113, l113, y113, z113⟩, st113⟩ := Jvm.LawKit.callS X109 hx (y := (⟨"com/example/uketsuke/uketsuke/store/IdFormatDigitsPinLaw", "ge", "(JJ)I"⟩ : MethodName)) hown (mvT hZ (hw _ (List.mem_of_getElem? (i := 20) rfl))) (mvT hZ (hw _ (List.mem_of_getElem? (i := 21) rfl))) (mvT hZ (hw _ (List.mem_of_getElem? (i := 22) rfl))) (mvT hZ (hw _ (List.mem_of_getElem? (i := 23) rfl))) (by decide) (backOf (W := 1) (own_ge l Z a0 hw [] (vv) ((100000000000 : Int64)) h64 n0 (O0.keep K65 all0)) hZ (hw _ (List.mem_of_getElem? (i := 23) rfl)) (hw _ (List.mem_of_getElem? (i := 22) rfl)) (by decide) (by decide)) (g := (mkF m 257 #[.val (.long lq0), .second, .val (.int i2), .val (.int i3), .val (.long vv), .second, .val (.int ww), .val (.ref b5), .unset, .unset, .unset, .unset, .unset, .unset, .unset] [(.long (100000000000 : Int64)), (.long vv), (.int su10)])) rfl (by rw [hml]; rfl) (argsL := [(.long vv), (.long (100000000000 : Int64))]) (rest := [(.int su10)]) (lenOf own_pd27 rfl) rfl (by show 2 * 0 + _ ≤ _; exact Nat.le_of_eq rfl) (hb hby at_257) (fun _ _ => ⟨rfl, hh109, (by decide : 1 + 0 ≤ _), (by decide : 19 + 0 ≤ _)⟩)
  dsimp only [Pt.U, Pt.locs, Pt.cells, Pt.slots] at X113 l113 y113 z113 st113 hQ113
  subst l113 y113 z113
  obtain ⟨rfl, Nq113, hh113⟩ := hQ113
  have N113 := Fr.app N109 Nq113
  have r114 : GoTo p.tables e below s₁ (own_F_own_law m lq0 i2 i3) T113 (mkF m 261 #[.val (.long lq0), .second, .val (.int i2), .val (.int i3), .val (.long vv), .second, .val (.int ww), .val (.ref b5), .unset, .unset, .unset, .unset, .unset, .unset, .unset] [(.int (su10 + (if vv < (100000000000 : Int64) then (0 : Int32) else (1 : Int32))))]) := fun tt_ kk_ => r111 tt_ (by
      show Steps p.tables e below (T109.setTop (mkF m 250 #[.val (.long lq0), .second, .val (.int i2), .val (.int i3), .val (.long vv), .second, .val (.int ww), .val (.ref b5), .unset, .unset, .unset, .unset, .unset, .unset, .unset] [(.int su10)])) _
      refine XS.lload X109.here hx rfl (hb hby at_250) rfl ?_
      show Steps p.tables e below (T109.setTop (mkF m 252 #[.val (.long lq0), .second, .val (.int i2), .val (.int i3), .val (.long vv), .second, .val (.int ww), .val (.ref b5), .unset, .unset, .unset, .unset, .unset, .unset, .unset] [(.long vv), (.int su10)])) _
      refine XS.aload X109.here hx rfl (hb hby at_252) rfl rfl ?_
      show Steps p.tables e below (T109.setTop (mkF m 254 #[.val (.long lq0), .second, .val (.int i2), .val (.int i3), .val (.long vv), .second, .val (.int ww), .val (.ref b5), .unset, .unset, .unset, .unset, .unset, .unset, .unset] [(.ref b5), (.long vv), (.int su10)])) _
      refine XS.bipush X109.here hx rfl (hb hby at_254) ?_
      show Steps p.tables e below (T109.setTop (mkF m 256 #[.val (.long lq0), .second, .val (.int i2), .val (.int i3), .val (.long vv), .second, .val (.int ww), .val (.ref b5), .unset, .unset, .unset, .unset, .unset, .unset, .unset] [(.int (11 : Int32)), (.ref b5), (.long vv), (.int su10)])) _
      refine X109.laload hx (j := (11 : Int32)) (v := (.long (100000000000 : Int64))) (by rw [hh109]; exact Ar112.1) (State.isArrayOf_alike hZ.alike Ar112.2.1) Ar112.2.2 hin112 (Has.at H112 hin112 rfl) (g := (mkF m 256 #[.val (.long lq0), .second, .val (.int i2), .val (.int i3), .val (.long vv), .second, .val (.int ww), .val (.ref b5), .unset, .unset, .unset, .unset, .unset, .unset, .unset] [(.int (11 : Int32)), (.ref b5), (.long vv), (.int su10)])) rfl rfl (hb hby at_256) _ ?_
      show Steps p.tables e below (T109.setTop (mkF m 257 #[.val (.long lq0), .second, .val (.int i2), .val (.int i3), .val (.long vv), .second, .val (.int ww), .val (.ref b5), .unset, .unset, .unset, .unset, .unset, .unset, .unset] [(.long (100000000000 : Int64)), (.long vv), (.int su10)])) _
      refine st113 _ ?_
      show Steps p.tables e below (T113.setTop (mkF m 260 #[.val (.long lq0), .second, .val (.int i2), .val (.int i3), .val (.long vv), .second, .val (.int ww), .val (.ref b5), .unset, .unset, .unset, .unset, .unset, .unset, .unset] [(.int (if vv < (100000000000 : Int64) then (0 : Int32) else (1 : Int32))), (.int su10)])) _
      refine XS.iadd X113.here hx rfl (hb hby at_260) rfl ?_
      show Steps p.tables e below (T113.setTop (mkF m 261 #[.val (.long lq0), .second, .val (.int i2), .val (.int i3), .val (.long vv), .second, .val (.int ww), .val (.ref b5), .unset, .unset, .unset, .unset, .unset, .unset, .unset] [(.int (su10 + (if vv < (100000000000 : Int64) then (0 : Int32) else (1 : Int32))))])) _
      exact kk_)
  obtain ⟨su11, h_su11⟩ : ∃ z : Int32, z = (su10 + (if vv < (100000000000 : Int64) then (0 : Int32) else (1 : Int32))) := ⟨_, rfl⟩
  have r115 : GoTo p.tables e below s₁ (own_F_own_law m lq0 i2 i3) T113 (mkF m 261 #[.val (.long lq0), .second, .val (.int i2), .val (.int i3), .val (.long vv), .second, .val (.int ww), .val (.ref b5), .unset, .unset, .unset, .unset, .unset, .unset, .unset] [(.int su11)]) := by rw [h_su11]; exact r114
  obtain ⟨cl116, Ar116, q116, S116, NN116, H116, G116⟩ := id V64
  have hin116 : ¬ ((12 : Int32) < 0 ∨ cl116.slots.size ≤ ((12 : Int32)).toNatClampNeg) := inb_of S116 ⟨by decide, by decide⟩
  obtain ⟨Lg117, X117, N117⟩ : ∃ L' : List Loc, Stand p l e room_1 s m #[(.long lq0), (.int i2), (.int i3)] below meth c T113 L' 1 19 ∧ Fr n0 L' := ⟨_, X113, N113⟩
  obtain ⟨_, _, ⟨T118, L118, k118, n118⟩, -, X118, ⟨Lc118, hQ118, l118, y118, z118⟩, st118⟩ := Jvm.LawKit.callS X117 hx (y := (⟨"com/example/uketsuke/uketsuke/store/IdFormatDigitsPinLaw", "ge", "(JJ)I"⟩ : MethodName)) hown (mvT hZ (hw _ (List.mem_of_getElem? (i := 20) rfl))) (mvT hZ (hw _ (List.mem_of_getElem? (i := 21) rfl))) (mvT hZ (hw _ (List.mem_of_getElem? (i := 22) rfl))) (mvT hZ (hw _ (List.mem_of_getElem? (i := 23) rfl))) (by decide) (backOf (W := 1) (own_ge l Z a0 hw [] (vv) ((1000000000000 : Int64)) h64 n0 (O0.keep K65 all0)) hZ (hw _ (List.mem_of_getElem? (i := 23) rfl)) (hw _ (List.mem_of_getElem? (i := 22) rfl)) (by decide) (by decide)) (g := (mkF m 268 #[.val (.long lq0), .second, .val (.int i2), .val (.int i3), .val (.long vv), .second, .val (.int ww), .val (.ref b5), .unset, .unset, .unset, .unset, .unset, .unset, .unset] [(.long (1000000000000 : Int64)), (.long vv), (.int su11)])) rfl (by rw [hml]; rfl) (argsL := [(.long vv), (.long (1000000000000 : Int64))]) (rest := [(.int su11)]) (lenOf own_pd27 rfl) rfl (by show 2 * 0 + _ ≤ _; exact Nat.le_of_eq rfl) (hb hby at_268) (fun _ _ => ⟨rfl, hh113, (by decide : 1 + 0 ≤ _), (by decide : 19 + 0 ≤ _)⟩)
  dsimp only [Pt.U, Pt.locs, Pt.cells, Pt.slots] at X118 l118 y118 z118 st118 hQ118
  subst l118 y118 z118
  obtain ⟨rfl, Nq118, hh118⟩ := hQ118
  have N118 := Fr.app N117 Nq118
  have r119 : GoTo p.tables e below s₁ (own_F_own_law m lq0 i2 i3) T118 (mkF m 272 #[.val (.long lq0), .second, .val (.int i2), .val (.int i3), .val (.long vv), .second, .val (.int ww), .val (.ref b5), .unset, .unset, .unset, .unset, .unset, .unset, .unset] [(.int (su11 + (if vv < (1000000000000 : Int64) then (0 : Int32) else (1 : Int32))))]) := fun tt_ kk_ => r115 tt_ (by
      show Steps p.tables e below (T113.setTop (mkF m 261 #[.val (.long lq0), .second, .val (.int i2), .val (.int i3), .val (.long vv), .second, .val (.int ww), .val (.ref b5), .unset, .unset, .unset, .unset, .unset, .unset, .unset] [(.int su11)])) _
      refine XS.lload X113.here hx rfl (hb hby at_261) rfl ?_
      show Steps p.tables e below (T113.setTop (mkF m 263 #[.val (.long lq0), .second, .val (.int i2), .val (.int i3), .val (.long vv), .second, .val (.int ww), .val (.ref b5), .unset, .unset, .unset, .unset, .unset, .unset, .unset] [(.long vv), (.int su11)])) _
      refine XS.aload X113.here hx rfl (hb hby at_263) rfl rfl ?_
      show Steps p.tables e below (T113.setTop (mkF m 265 #[.val (.long lq0), .second, .val (.int i2), .val (.int i3), .val (.long vv), .second, .val (.int ww), .val (.ref b5), .unset, .unset, .unset, .unset, .unset, .unset, .unset] [(.ref b5), (.long vv), (.int su11)])) _
      refine XS.bipush X113.here hx rfl (hb hby at_265) ?_
      show Steps p.tables e below (T113.setTop (mkF m 267 #[.val (.long lq0), .second, .val (.int i2), .val (.int i3), .val (.long vv), .second, .val (.int ww), .val (.ref b5), .unset, .unset, .unset, .unset, .unset, .unset, .unset] [(.int (12 : Int32)), (.ref b5), (.long vv), (.int su11)])) _
      refine X113.laload hx (j := (12 : Int32)) (v := (.long (1000000000000 : Int64))) (by rw [hh113]; exact Ar116.1) (State.isArrayOf_alike hZ.alike Ar116.2.1) Ar116.2.2 hin116 (Has.at H116 hin116 rfl) (g := (mkF m 267 #[.val (.long lq0), .second, .val (.int i2), .val (.int i3), .val (.long vv), .second, .val (.int ww), .val (.ref b5), .unset, .unset, .unset, .unset, .unset, .unset, .unset] [(.int (12 : Int32)), (.ref b5), (.long vv), (.int su11)])) rfl rfl (hb hby at_267) _ ?_
      show Steps p.tables e below (T113.setTop (mkF m 268 #[.val (.long lq0), .second, .val (.int i2), .val (.int i3), .val (.long vv), .second, .val (.int ww), .val (.ref b5), .unset, .unset, .unset, .unset, .unset, .unset, .unset] [(.long (1000000000000 : Int64)), (.long vv), (.int su11)])) _
      refine st118 _ ?_
      show Steps p.tables e below (T118.setTop (mkF m 271 #[.val (.long lq0), .second, .val (.int i2), .val (.int i3), .val (.long vv), .second, .val (.int ww), .val (.ref b5), .unset, .unset, .unset, .unset, .unset, .unset, .unset] [(.int (if vv < (1000000000000 : Int64) then (0 : Int32) else (1 : Int32))), (.int su11)])) _
      refine XS.iadd X118.here hx rfl (hb hby at_271) rfl ?_
      show Steps p.tables e below (T118.setTop (mkF m 272 #[.val (.long lq0), .second, .val (.int i2), .val (.int i3), .val (.long vv), .second, .val (.int ww), .val (.ref b5), .unset, .unset, .unset, .unset, .unset, .unset, .unset] [(.int (su11 + (if vv < (1000000000000 : Int64) then (0 : Int32) else (1 : Int32))))])) _
      exact kk_)
  obtain ⟨su12, h_su12⟩ : ∃ z : Int32, z = (su11 + (if vv < (1000000000000 : Int64) then (0 : Int32) else (1 : Int32))) := ⟨_, rfl⟩
  have r120 : GoTo p.tables e below s₁ (own_F_own_law m lq0 i2 i3) T118 (mkF m 272 #[.val (.long lq0), .second, .val (.int i2), .val (.int i3), .val (.long vv), .second, .val (.int ww), .val (.ref b5), .unset, .unset, .unset, .unset, .unset, .unset, .unset] [(.int su12)]) := by rw [h_su12]; exact r119
  obtain ⟨cl121, Ar121, q121, S121, NN121, H121, G121⟩ := id V64
  have hin121 : ¬ ((13 : Int32) < 0 ∨ cl121.slots.size ≤ ((13 : Int32)).toNatClampNeg) := inb_of S121 ⟨by decide, by decide⟩
  obtain ⟨_, _, ⟨T122, L122, k122, n122⟩, -, X122, ⟨Lc122, hQ122, l122, y122, z122⟩, st122⟩ := Jvm.LawKit.callS X118 hx (y := (⟨"com/example/uketsuke/uketsuke/store/IdFormatDigitsPinLaw", "ge", "(JJ)I"⟩ : MethodName)) hown (mvT hZ (hw _ (List.mem_of_getElem? (i := 20) rfl))) (mvT hZ (hw _ (List.mem_of_getElem? (i := 21) rfl))) (mvT hZ (hw _ (List.mem_of_getElem? (i := 22) rfl))) (mvT hZ (hw _ (List.mem_of_getElem? (i := 23) rfl))) (by decide) (backOf (W := 1) (own_ge l Z a0 hw [] (vv) ((10000000000000 : Int64)) h64 n0 (O0.keep K65 all0)) hZ (hw _ (List.mem_of_getElem? (i := 23) rfl)) (hw _ (List.mem_of_getElem? (i := 22) rfl)) (by decide) (by decide)) (g := (mkF m 279 #[.val (.long lq0), .second, .val (.int i2), .val (.int i3), .val (.long vv), .second, .val (.int ww), .val (.ref b5), .unset, .unset, .unset, .unset, .unset, .unset, .unset] [(.long (10000000000000 : Int64)), (.long vv), (.int su12)])) rfl (by rw [hml]; rfl) (argsL := [(.long vv), (.long (10000000000000 : Int64))]) (rest := [(.int su12)]) (lenOf own_pd27 rfl) rfl (by show 2 * 0 + _ ≤ _; exact Nat.le_of_eq rfl) (hb hby at_279) (fun _ _ => ⟨rfl, hh118, (by decide : 1 + 0 ≤ _), (by decide : 19 + 0 ≤ _)⟩)
  dsimp only [Pt.U, Pt.locs, Pt.cells, Pt.slots] at X122 l122 y122 z122 st122 hQ122
  subst l122 y122 z122
  obtain ⟨rfl, Nq122, hh122⟩ := hQ122
  have N122 := Fr.app N118 Nq122
  have r123 : GoTo p.tables e below s₁ (own_F_own_law m lq0 i2 i3) T122 (mkF m 283 #[.val (.long lq0), .second, .val (.int i2), .val (.int i3), .val (.long vv), .second, .val (.int ww), .val (.ref b5), .unset, .unset, .unset, .unset, .unset, .unset, .unset] [(.int (su12 + (if vv < (10000000000000 : Int64) then (0 : Int32) else (1 : Int32))))]) := fun tt_ kk_ => r120 tt_ (by
      show Steps p.tables e below (T118.setTop (mkF m 272 #[.val (.long lq0), .second, .val (.int i2), .val (.int i3), .val (.long vv), .second, .val (.int ww), .val (.ref b5), .unset, .unset, .unset, .unset, .unset, .unset, .unset] [(.int su12)])) _
      refine XS.lload X118.here hx rfl (hb hby at_272) rfl ?_
      show Steps p.tables e below (T118.setTop (mkF m 274 #[.val (.long lq0), .second, .val (.int i2), .val (.int i3), .val (.long vv), .second, .val (.int ww), .val (.ref b5), .unset, .unset, .unset, .unset, .unset, .unset, .unset] [(.long vv), (.int su12)])) _
      refine XS.aload X118.here hx rfl (hb hby at_274) rfl rfl ?_
      show Steps p.tables e below (T118.setTop (mkF m 276 #[.val (.long lq0), .second, .val (.int i2), .val (.int i3), .val (.long vv), .second, .val (.int ww), .val (.ref b5), .unset, .unset, .unset, .unset, .unset, .unset, .unset] [(.ref b5), (.long vv), (.int su12)])) _
      refine XS.bipush X118.here hx rfl (hb hby at_276) ?_
      show Steps p.tables e below (T118.setTop (mkF m 278 #[.val (.long lq0), .second, .val (.int i2), .val (.int i3), .val (.long vv), .second, .val (.int ww), .val (.ref b5), .unset, .unset, .unset, .unset, .unset, .unset, .unset] [(.int (13 : Int32)), (.ref b5), (.long vv), (.int su12)])) _
      refine X118.laload hx (j := (13 : Int32)) (v := (.long (10000000000000 : Int64))) (by rw [hh118]; exact Ar121.1) (State.isArrayOf_alike hZ.alike Ar121.2.1) Ar121.2.2 hin121 (Has.at H121 hin121 rfl) (g := (mkF m 278 #[.val (.long lq0), .second, .val (.int i2), .val (.int i3), .val (.long vv), .second, .val (.int ww), .val (.ref b5), .unset, .unset, .unset, .unset, .unset, .unset, .unset] [(.int (13 : Int32)), (.ref b5), (.long vv), (.int su12)])) rfl rfl (hb hby at_278) _ ?_
      show Steps p.tables e below (T118.setTop (mkF m 279 #[.val (.long lq0), .second, .val (.int i2), .val (.int i3), .val (.long vv), .second, .val (.int ww), .val (.ref b5), .unset, .unset, .unset, .unset, .unset, .unset, .unset] [(.long (10000000000000 : Int64)), (.long vv), (.int su12)])) _
      refine st122 _ ?_
      show Steps p.tables e below (T122.setTop (mkF m 282 #[.val (.long lq0), .second, .val (.int i2), .val (.int i3), .val (.long vv), .second, .val (.int ww), .val (.ref b5), .unset, .unset, .unset, .unset, .unset, .unset, .unset] [(.int (if vv < (10000000000000 : Int64) then (0 : Int32) else (1 : Int32))), (.int su12)])) _
      refine XS.iadd X122.here hx rfl (hb hby at_282) rfl ?_
      show Steps p.tables e below (T122.setTop (mkF m 283 #[.val (.long lq0), .second, .val (.int i2), .val (.int i3), .val (.long vv), .second, .val (.int ww), .val (.ref b5), .unset, .unset, .unset, .unset, .unset, .unset, .unset] [(.int (su12 + (if vv < (10000000000000 : Int64) then (0 : Int32) else (1 : Int32))))])) _
      exact kk_)
  obtain ⟨su13, h_su13⟩ : ∃ z : Int32, z = (su12 + (if vv < (10000000000000 : Int64) then (0 : Int32) else (1 : Int32))) := ⟨_, rfl⟩
  have r124 : GoTo p.tables e below s₁ (own_F_own_law m lq0 i2 i3) T122 (mkF m 283 #[.val (.long lq0), .second, .val (.int i2), .val (.int i3), .val (.long vv), .second, .val (.int ww), .val (.ref b5), .unset, .unset, .unset, .unset, .unset, .unset, .unset] [(.int su13)]) := by rw [h_su13]; exact r123
  obtain ⟨cl125, Ar125, q125, S125, NN125, H125, G125⟩ := id V64
  have hin125 : ¬ ((14 : Int32) < 0 ∨ cl125.slots.size ≤ ((14 : Int32)).toNatClampNeg) := inb_of S125 ⟨by decide, by decide⟩
  obtain ⟨Lg126, X126, N126⟩ : ∃ L' : List Loc, Stand p l e room_1 s m #[(.long lq0), (.int i2), (.int i3)] below meth c T122 L' 1 19 ∧ Fr n0 L' := ⟨_, X122, N122⟩
  obtain ⟨_, _, ⟨T127, L127, k127, n127⟩, -, X127, ⟨Lc127, hQ127, l127, y127, z127⟩, st127⟩ := Jvm.LawKit.callS X126 hx (y := (⟨"com/example/uketsuke/uketsuke/store/IdFormatDigitsPinLaw", "ge", "(JJ)I"⟩ : MethodName)) hown (mvT hZ (hw _ (List.mem_of_getElem? (i := 20) rfl))) (mvT hZ (hw _ (List.mem_of_getElem? (i := 21) rfl))) (mvT hZ (hw _ (List.mem_of_getElem? (i := 22) rfl))) (mvT hZ (hw _ (List.mem_of_getElem? (i := 23) rfl))) (by decide) (backOf (W := 1) (own_ge l Z a0 hw [] (vv) ((100000000000000 : Int64)) h64 n0 (O0.keep K65 all0)) hZ (hw _ (List.mem_of_getElem? (i := 23) rfl)) (hw _ (List.mem_of_getElem? (i := 22) rfl)) (by decide) (by decide)) (g := (mkF m 290 #[.val (.long lq0), .second, .val (.int i2), .val (.int i3), .val (.long vv), .second, .val (.int ww), .val (.ref b5), .unset, .unset, .unset, .unset, .unset, .unset, .unset] [(.long (100000000000000 : Int64)), (.long vv), (.int su13)])) rfl (by rw [hml]; rfl) (argsL := [(.long vv), (.long (100000000000000 : Int64))]) (rest := [(.int su13)]) (lenOf own_pd27 rfl) rfl (by show 2 * 0 + _ ≤ _; exact Nat.le_of_eq rfl) (hb hby at_290) (fun _ _ => ⟨rfl, hh122, (by decide : 1 + 0 ≤ _), (by decide : 19 + 0 ≤ _)⟩)
  dsimp only [Pt.U, Pt.locs, Pt.cells, Pt.slots] at X127 l127 y127 z127 st127 hQ127
  subst l127 y127 z127
  obtain ⟨rfl, Nq127, hh127⟩ := hQ127
  have N127 := Fr.app N126 Nq127
  have r128 : GoTo p.tables e below s₁ (own_F_own_law m lq0 i2 i3) T127 (mkF m 294 #[.val (.long lq0), .second, .val (.int i2), .val (.int i3), .val (.long vv), .second, .val (.int ww), .val (.ref b5), .unset, .unset, .unset, .unset, .unset, .unset, .unset] [(.int (su13 + (if vv < (100000000000000 : Int64) then (0 : Int32) else (1 : Int32))))]) := fun tt_ kk_ => r124 tt_ (by
      show Steps p.tables e below (T122.setTop (mkF m 283 #[.val (.long lq0), .second, .val (.int i2), .val (.int i3), .val (.long vv), .second, .val (.int ww), .val (.ref b5), .unset, .unset, .unset, .unset, .unset, .unset, .unset] [(.int su13)])) _
      refine XS.lload X122.here hx rfl (hb hby at_283) rfl ?_
      show Steps p.tables e below (T122.setTop (mkF m 285 #[.val (.long lq0), .second, .val (.int i2), .val (.int i3), .val (.long vv), .second, .val (.int ww), .val (.ref b5), .unset, .unset, .unset, .unset, .unset, .unset, .unset] [(.long vv), (.int su13)])) _
      refine XS.aload X122.here hx rfl (hb hby at_285) rfl rfl ?_
      show Steps p.tables e below (T122.setTop (mkF m 287 #[.val (.long lq0), .second, .val (.int i2), .val (.int i3), .val (.long vv), .second, .val (.int ww), .val (.ref b5), .unset, .unset, .unset, .unset, .unset, .unset, .unset] [(.ref b5), (.long vv), (.int su13)])) _
      refine XS.bipush X122.here hx rfl (hb hby at_287) ?_
      show Steps p.tables e below (T122.setTop (mkF m 289 #[.val (.long lq0), .second, .val (.int i2), .val (.int i3), .val (.long vv), .second, .val (.int ww), .val (.ref b5), .unset, .unset, .unset, .unset, .unset, .unset, .unset] [(.int (14 : Int32)), (.ref b5), (.long vv), (.int su13)])) _
      refine X122.laload hx (j := (14 : Int32)) (v := (.long (100000000000000 : Int64))) (by rw [hh122]; exact Ar125.1) (State.isArrayOf_alike hZ.alike Ar125.2.1) Ar125.2.2 hin125 (Has.at H125 hin125 rfl) (g := (mkF m 289 #[.val (.long lq0), .second, .val (.int i2), .val (.int i3), .val (.long vv), .second, .val (.int ww), .val (.ref b5), .unset, .unset, .unset, .unset, .unset, .unset, .unset] [(.int (14 : Int32)), (.ref b5), (.long vv), (.int su13)])) rfl rfl (hb hby at_289) _ ?_
      show Steps p.tables e below (T122.setTop (mkF m 290 #[.val (.long lq0), .second, .val (.int i2), .val (.int i3), .val (.long vv), .second, .val (.int ww), .val (.ref b5), .unset, .unset, .unset, .unset, .unset, .unset, .unset] [(.long (100000000000000 : Int64)), (.long vv), (.int su13)])) _
      refine st127 _ ?_
      show Steps p.tables e below (T127.setTop (mkF m 293 #[.val (.long lq0), .second, .val (.int i2), .val (.int i3), .val (.long vv), .second, .val (.int ww), .val (.ref b5), .unset, .unset, .unset, .unset, .unset, .unset, .unset] [(.int (if vv < (100000000000000 : Int64) then (0 : Int32) else (1 : Int32))), (.int su13)])) _
      refine XS.iadd X127.here hx rfl (hb hby at_293) rfl ?_
      show Steps p.tables e below (T127.setTop (mkF m 294 #[.val (.long lq0), .second, .val (.int i2), .val (.int i3), .val (.long vv), .second, .val (.int ww), .val (.ref b5), .unset, .unset, .unset, .unset, .unset, .unset, .unset] [(.int (su13 + (if vv < (100000000000000 : Int64) then (0 : Int32) else (1 : Int32))))])) _
      exact kk_)
  obtain ⟨su14, h_su14⟩ : ∃ z : Int32, z = (su13 + (if vv < (100000000000000 : Int64) then (0 : Int32) else (1 : Int32))) := ⟨_, rfl⟩
  have r129 : GoTo p.tables e below s₁ (own_F_own_law m lq0 i2 i3) T127 (mkF m 294 #[.val (.long lq0), .second, .val (.int i2), .val (.int i3), .val (.long vv), .second, .val (.int ww), .val (.ref b5), .unset, .unset, .unset, .unset, .unset, .unset, .unset] [(.int su14)]) := by rw [h_su14]; exact r128
  obtain ⟨cl130, Ar130, q130, S130, NN130, H130, G130⟩ := id V64
  have hin130 : ¬ ((15 : Int32) < 0 ∨ cl130.slots.size ≤ ((15 : Int32)).toNatClampNeg) := inb_of S130 ⟨by decide, by decide⟩
  obtain ⟨_, _, ⟨T131, L131, k131, n131⟩, -, X131, ⟨Lc131, hQ131, l131, y131, z131⟩, st131⟩ := Jvm.LawKit.callS X127 hx (y := (⟨"com/example/uketsuke/uketsuke/store/IdFormatDigitsPinLaw", "ge", "(JJ)I"⟩ : MethodName)) hown (mvT hZ (hw _ (List.mem_of_getElem? (i := 20) rfl))) (mvT hZ (hw _ (List.mem_of_getElem? (i := 21) rfl))) (mvT hZ (hw _ (List.mem_of_getElem? (i := 22) rfl))) (mvT hZ (hw _ (List.mem_of_getElem? (i := 23) rfl))) (by decide) (backOf (W := 1) (own_ge l Z a0 hw [] (vv) ((1000000000000000 : Int64)) h64 n0 (O0.keep K65 all0)) hZ (hw _ (List.mem_of_getElem? (i := 23) rfl)) (hw _ (List.mem_of_getElem? (i := 22) rfl)) (by decide) (by decide)) (g := (mkF m 301 #[.val (.long lq0), .second, .val (.int i2), .val (.int i3), .val (.long vv), .second, .val (.int ww), .val (.ref b5), .unset, .unset, .unset, .unset, .unset, .unset, .unset] [(.long (1000000000000000 : Int64)), (.long vv), (.int su14)])) rfl (by rw [hml]; rfl) (argsL := [(.long vv), (.long (1000000000000000 : Int64))]) (rest := [(.int su14)]) (lenOf own_pd27 rfl) rfl (by show 2 * 0 + _ ≤ _; exact Nat.le_of_eq rfl) (hb hby at_301) (fun _ _ => ⟨rfl, hh127, (by decide : 1 + 0 ≤ _), (by decide : 19 + 0 ≤ _)⟩)
  dsimp only [Pt.U, Pt.locs, Pt.cells, Pt.slots] at X131 l131 y131 z131 st131 hQ131
  subst l131 y131 z131
  obtain ⟨rfl, Nq131, hh131⟩ := hQ131
  have N131 := Fr.app N127 Nq131
  have r132 : GoTo p.tables e below s₁ (own_F_own_law m lq0 i2 i3) T131 (mkF m 305 #[.val (.long lq0), .second, .val (.int i2), .val (.int i3), .val (.long vv), .second, .val (.int ww), .val (.ref b5), .unset, .unset, .unset, .unset, .unset, .unset, .unset] [(.int (su14 + (if vv < (1000000000000000 : Int64) then (0 : Int32) else (1 : Int32))))]) := fun tt_ kk_ => r129 tt_ (by
      show Steps p.tables e below (T127.setTop (mkF m 294 #[.val (.long lq0), .second, .val (.int i2), .val (.int i3), .val (.long vv), .second, .val (.int ww), .val (.ref b5), .unset, .unset, .unset, .unset, .unset, .unset, .unset] [(.int su14)])) _
      refine XS.lload X127.here hx rfl (hb hby at_294) rfl ?_
      show Steps p.tables e below (T127.setTop (mkF m 296 #[.val (.long lq0), .second, .val (.int i2), .val (.int i3), .val (.long vv), .second, .val (.int ww), .val (.ref b5), .unset, .unset, .unset, .unset, .unset, .unset, .unset] [(.long vv), (.int su14)])) _
      refine XS.aload X127.here hx rfl (hb hby at_296) rfl rfl ?_
      show Steps p.tables e below (T127.setTop (mkF m 298 #[.val (.long lq0), .second, .val (.int i2), .val (.int i3), .val (.long vv), .second, .val (.int ww), .val (.ref b5), .unset, .unset, .unset, .unset, .unset, .unset, .unset] [(.ref b5), (.long vv), (.int su14)])) _
      refine XS.bipush X127.here hx rfl (hb hby at_298) ?_
      show Steps p.tables e below (T127.setTop (mkF m 300 #[.val (.long lq0), .second, .val (.int i2), .val (.int i3), .val (.long vv), .second, .val (.int ww), .val (.ref b5), .unset, .unset, .unset, .unset, .unset, .unset, .unset] [(.int (15 : Int32)), (.ref b5), (.long vv), (.int su14)])) _
      refine X127.laload hx (j := (15 : Int32)) (v := (.long (1000000000000000 : Int64))) (by rw [hh127]; exact Ar130.1) (State.isArrayOf_alike hZ.alike Ar130.2.1) Ar130.2.2 hin130 (Has.at H130 hin130 rfl) (g := (mkF m 300 #[.val (.long lq0), .second, .val (.int i2), .val (.int i3), .val (.long vv), .second, .val (.int ww), .val (.ref b5), .unset, .unset, .unset, .unset, .unset, .unset, .unset] [(.int (15 : Int32)), (.ref b5), (.long vv), (.int su14)])) rfl rfl (hb hby at_300) _ ?_
      show Steps p.tables e below (T127.setTop (mkF m 301 #[.val (.long lq0), .second, .val (.int i2), .val (.int i3), .val (.long vv), .second, .val (.int ww), .val (.ref b5), .unset, .unset, .unset, .unset, .unset, .unset, .unset] [(.long (1000000000000000 : Int64)), (.long vv), (.int su14)])) _
      refine st131 _ ?_
      show Steps p.tables e below (T131.setTop (mkF m 304 #[.val (.long lq0), .second, .val (.int i2), .val (.int i3), .val (.long vv), .second, .val (.int ww), .val (.ref b5), .unset, .unset, .unset, .unset, .unset, .unset, .unset] [(.int (if vv < (1000000000000000 : Int64) then (0 : Int32) else (1 : Int32))), (.int su14)])) _
      refine XS.iadd X131.here hx rfl (hb hby at_304) rfl ?_
      show Steps p.tables e below (T131.setTop (mkF m 305 #[.val (.long lq0), .second, .val (.int i2), .val (.int i3), .val (.long vv), .second, .val (.int ww), .val (.ref b5), .unset, .unset, .unset, .unset, .unset, .unset, .unset] [(.int (su14 + (if vv < (1000000000000000 : Int64) then (0 : Int32) else (1 : Int32))))])) _
      exact kk_)
  obtain ⟨su15, h_su15⟩ : ∃ z : Int32, z = (su14 + (if vv < (1000000000000000 : Int64) then (0 : Int32) else (1 : Int32))) := ⟨_, rfl⟩
  have r133 : GoTo p.tables e below s₁ (own_F_own_law m lq0 i2 i3) T131 (mkF m 305 #[.val (.long lq0), .second, .val (.int i2), .val (.int i3), .val (.long vv), .second, .val (.int ww), .val (.ref b5), .unset, .unset, .unset, .unset, .unset, .unset, .unset] [(.int su15)]) := by rw [h_su15]; exact r132
  obtain ⟨cl134, Ar134, q134, S134, NN134, H134, G134⟩ := id V64
  have hin134 : ¬ ((16 : Int32) < 0 ∨ cl134.slots.size ≤ ((16 : Int32)).toNatClampNeg) := inb_of S134 ⟨by decide, by decide⟩
  obtain ⟨Lg135, X135, N135⟩ : ∃ L' : List Loc, Stand p l e room_1 s m #[(.long lq0), (.int i2), (.int i3)] below meth c T131 L' 1 19 ∧ Fr n0 L' := ⟨_, X131, N131⟩
  obtain ⟨_, _, ⟨T136, L136, k136, n136⟩, -, X136, ⟨Lc136, hQ136, l136, y136, z136⟩, st136⟩ := Jvm.LawKit.callS X135 hx (y := (⟨"com/example/uketsuke/uketsuke/store/IdFormatDigitsPinLaw", "ge", "(JJ)I"⟩ : MethodName)) hown (mvT hZ (hw _ (List.mem_of_getElem? (i := 20) rfl))) (mvT hZ (hw _ (List.mem_of_getElem? (i := 21) rfl))) (mvT hZ (hw _ (List.mem_of_getElem? (i := 22) rfl))) (mvT hZ (hw _ (List.mem_of_getElem? (i := 23) rfl))) (by decide) (backOf (W := 1) (own_ge l Z a0 hw [] (vv) ((10000000000000000 : Int64)) h64 n0 (O0.keep K65 all0)) hZ (hw _ (List.mem_of_getElem? (i := 23) rfl)) (hw _ (List.mem_of_getElem? (i := 22) rfl)) (by decide) (by decide)) (g := (mkF m 312 #[.val (.long lq0), .second, .val (.int i2), .val (.int i3), .val (.long vv), .second, .val (.int ww), .val (.ref b5), .unset, .unset, .unset, .unset, .unset, .unset, .unset] [(.long (10000000000000000 : Int64)), (.long vv), (.int su15)])) rfl (by rw [hml]; rfl) (argsL := [(.long vv), (.long (10000000000000000 : Int64))]) (rest := [(.int su15)]) (lenOf own_pd27 rfl) rfl (by show 2 * 0 + _ ≤ _; exact Nat.le_of_eq rfl) (hb hby at_312) (fun _ _ => ⟨rfl, hh131, (by decide : 1 + 0 ≤ _), (by decide : 19 + 0 ≤ _)⟩)
  dsimp only [Pt.U, Pt.locs, Pt.cells, Pt.slots] at X136 l136 y136 z136 st136 hQ136
  subst l136 y136 z136
  obtain ⟨rfl, Nq136, hh136⟩ := hQ136
  have N136 := Fr.app N135 Nq136
  have r137 : GoTo p.tables e below s₁ (own_F_own_law m lq0 i2 i3) T136 (mkF m 316 #[.val (.long lq0), .second, .val (.int i2), .val (.int i3), .val (.long vv), .second, .val (.int ww), .val (.ref b5), .unset, .unset, .unset, .unset, .unset, .unset, .unset] [(.int (su15 + (if vv < (10000000000000000 : Int64) then (0 : Int32) else (1 : Int32))))]) := fun tt_ kk_ => r133 tt_ (by
      show Steps p.tables e below (T131.setTop (mkF m 305 #[.val (.long lq0), .second, .val (.int i2), .val (.int i3), .val (.long vv), .second, .val (.int ww), .val (.ref b5), .unset, .unset, .unset, .unset, .unset, .unset, .unset] [(.int su15)])) _
      refine XS.lload X131.here hx rfl (hb hby at_305) rfl ?_
      show Steps p.tables e below (T131.setTop (mkF m 307 #[.val (.long lq0), .second, .val (.int i2), .val (.int i3), .val (.long vv), .second, .val (.int ww), .val (.ref b5), .unset, .unset, .unset, .unset, .unset, .unset, .unset] [(.long vv), (.int su15)])) _
      refine XS.aload X131.here hx rfl (hb hby at_307) rfl rfl ?_
      show Steps p.tables e below (T131.setTop (mkF m 309 #[.val (.long lq0), .second, .val (.int i2), .val (.int i3), .val (.long vv), .second, .val (.int ww), .val (.ref b5), .unset, .unset, .unset, .unset, .unset, .unset, .unset] [(.ref b5), (.long vv), (.int su15)])) _
      refine XS.bipush X131.here hx rfl (hb hby at_309) ?_
      show Steps p.tables e below (T131.setTop (mkF m 311 #[.val (.long lq0), .second, .val (.int i2), .val (.int i3), .val (.long vv), .second, .val (.int ww), .val (.ref b5), .unset, .unset, .unset, .unset, .unset, .unset, .unset] [(.int (16 : Int32)), (.ref b5), (.long vv), (.int su15)])) _
      refine X131.laload hx (j := (16 : Int32)) (v := (.long (10000000000000000 : Int64))) (by rw [hh131]; exact Ar134.1) (State.isArrayOf_alike hZ.alike Ar134.2.1) Ar134.2.2 hin134 (Has.at H134 hin134 rfl) (g := (mkF m 311 #[.val (.long lq0), .second, .val (.int i2), .val (.int i3), .val (.long vv), .second, .val (.int ww), .val (.ref b5), .unset, .unset, .unset, .unset, .unset, .unset, .unset] [(.int (16 : Int32)), (.ref b5), (.long vv), (.int su15)])) rfl rfl (hb hby at_311) _ ?_
      show Steps p.tables e below (T131.setTop (mkF m 312 #[.val (.long lq0), .second, .val (.int i2), .val (.int i3), .val (.long vv), .second, .val (.int ww), .val (.ref b5), .unset, .unset, .unset, .unset, .unset, .unset, .unset] [(.long (10000000000000000 : Int64)), (.long vv), (.int su15)])) _
      refine st136 _ ?_
      show Steps p.tables e below (T136.setTop (mkF m 315 #[.val (.long lq0), .second, .val (.int i2), .val (.int i3), .val (.long vv), .second, .val (.int ww), .val (.ref b5), .unset, .unset, .unset, .unset, .unset, .unset, .unset] [(.int (if vv < (10000000000000000 : Int64) then (0 : Int32) else (1 : Int32))), (.int su15)])) _
      refine XS.iadd X136.here hx rfl (hb hby at_315) rfl ?_
      show Steps p.tables e below (T136.setTop (mkF m 316 #[.val (.long lq0), .second, .val (.int i2), .val (.int i3), .val (.long vv), .second, .val (.int ww), .val (.ref b5), .unset, .unset, .unset, .unset, .unset, .unset, .unset] [(.int (su15 + (if vv < (10000000000000000 : Int64) then (0 : Int32) else (1 : Int32))))])) _
      exact kk_)
  obtain ⟨su16, h_su16⟩ : ∃ z : Int32, z = (su15 + (if vv < (10000000000000000 : Int64) then (0 : Int32) else (1 : Int32))) := ⟨_, rfl⟩
  have r138 : GoTo p.tables e below s₁ (own_F_own_law m lq0 i2 i3) T136 (mkF m 316 #[.val (.long lq0), .second, .val (.int i2), .val (.int i3), .val (.long vv), .second, .val (.int ww), .val (.ref b5), .unset, .unset, .unset, .unset, .unset, .unset, .unset] [(.int su16)]) := by rw [h_su16]; exact r137
  obtain ⟨cl139, Ar139, q139, S139, NN139, H139, G139⟩ := id V64
  have hin139 : ¬ ((17 : Int32) < 0 ∨ cl139.slots.size ≤ ((17 : Int32)).toNatClampNeg) := inb_of S139 ⟨by decide, by decide⟩
  obtain ⟨_, _, ⟨T140, L140, k140, n140⟩, -, X140, ⟨Lc140, hQ140, l140, y140, z140⟩, st140⟩ := Jvm.LawKit.callS X136 hx (y := (⟨"com/example/uketsuke/uketsuke/store/IdFormatDigitsPinLaw", "ge", "(JJ)I"⟩ : MethodName)) hown (mvT hZ (hw _ (List.mem_of_getElem? (i := 20) rfl))) (mvT hZ (hw _ (List.mem_of_getElem? (i := 21) rfl))) (mvT hZ (hw _ (List.mem_of_getElem? (i := 22) rfl))) (mvT hZ (hw _ (List.mem_of_getElem? (i := 23) rfl))) (by decide) (backOf (W := 1) (own_ge l Z a0 hw [] (vv) ((100000000000000000 : Int64)) h64 n0 (O0.keep K65 all0)) hZ (hw _ (List.mem_of_getElem? (i := 23) rfl)) (hw _ (List.mem_of_getElem? (i := 22) rfl)) (by decide) (by decide)) (g := (mkF m 323 #[.val (.long lq0), .second, .val (.int i2), .val (.int i3), .val (.long vv), .second, .val (.int ww), .val (.ref b5), .unset, .unset, .unset, .unset, .unset, .unset, .unset] [(.long (100000000000000000 : Int64)), (.long vv), (.int su16)])) rfl (by rw [hml]; rfl) (argsL := [(.long vv), (.long (100000000000000000 : Int64))]) (rest := [(.int su16)]) (lenOf own_pd27 rfl) rfl (by show 2 * 0 + _ ≤ _; exact Nat.le_of_eq rfl) (hb hby at_323) (fun _ _ => ⟨rfl, hh136, (by decide : 1 + 0 ≤ _), (by decide : 19 + 0 ≤ _)⟩)
  dsimp only [Pt.U, Pt.locs, Pt.cells, Pt.slots] at X140 l140 y140 z140 st140 hQ140
  subst l140 y140 z140
  obtain ⟨rfl, Nq140, hh140⟩ := hQ140
  have N140 := Fr.app N136 Nq140
  have r141 : GoTo p.tables e below s₁ (own_F_own_law m lq0 i2 i3) T140 (mkF m 327 #[.val (.long lq0), .second, .val (.int i2), .val (.int i3), .val (.long vv), .second, .val (.int ww), .val (.ref b5), .unset, .unset, .unset, .unset, .unset, .unset, .unset] [(.int (su16 + (if vv < (100000000000000000 : Int64) then (0 : Int32) else (1 : Int32))))]) := fun tt_ kk_ => r138 tt_ (by
      show Steps p.tables e below (T136.setTop (mkF m 316 #[.val (.long lq0), .second, .val (.int i2), .val (.int i3), .val (.long vv), .second, .val (.int ww), .val (.ref b5), .unset, .unset, .unset, .unset, .unset, .unset, .unset] [(.int su16)])) _
      refine XS.lload X136.here hx rfl (hb hby at_316) rfl ?_
      show Steps p.tables e below (T136.setTop (mkF m 318 #[.val (.long lq0), .second, .val (.int i2), .val (.int i3), .val (.long vv), .second, .val (.int ww), .val (.ref b5), .unset, .unset, .unset, .unset, .unset, .unset, .unset] [(.long vv), (.int su16)])) _
      refine XS.aload X136.here hx rfl (hb hby at_318) rfl rfl ?_
      show Steps p.tables e below (T136.setTop (mkF m 320 #[.val (.long lq0), .second, .val (.int i2), .val (.int i3), .val (.long vv), .second, .val (.int ww), .val (.ref b5), .unset, .unset, .unset, .unset, .unset, .unset, .unset] [(.ref b5), (.long vv), (.int su16)])) _
      refine XS.bipush X136.here hx rfl (hb hby at_320) ?_
      show Steps p.tables e below (T136.setTop (mkF m 322 #[.val (.long lq0), .second, .val (.int i2), .val (.int i3), .val (.long vv), .second, .val (.int ww), .val (.ref b5), .unset, .unset, .unset, .unset, .unset, .unset, .unset] [(.int (17 : Int32)), (.ref b5), (.long vv), (.int su16)])) _
      refine X136.laload hx (j := (17 : Int32)) (v := (.long (100000000000000000 : Int64))) (by rw [hh136]; exact Ar139.1) (State.isArrayOf_alike hZ.alike Ar139.2.1) Ar139.2.2 hin139 (Has.at H139 hin139 rfl) (g := (mkF m 322 #[.val (.long lq0), .second, .val (.int i2), .val (.int i3), .val (.long vv), .second, .val (.int ww), .val (.ref b5), .unset, .unset, .unset, .unset, .unset, .unset, .unset] [(.int (17 : Int32)), (.ref b5), (.long vv), (.int su16)])) rfl rfl (hb hby at_322) _ ?_
      show Steps p.tables e below (T136.setTop (mkF m 323 #[.val (.long lq0), .second, .val (.int i2), .val (.int i3), .val (.long vv), .second, .val (.int ww), .val (.ref b5), .unset, .unset, .unset, .unset, .unset, .unset, .unset] [(.long (100000000000000000 : Int64)), (.long vv), (.int su16)])) _
      refine st140 _ ?_
      show Steps p.tables e below (T140.setTop (mkF m 326 #[.val (.long lq0), .second, .val (.int i2), .val (.int i3), .val (.long vv), .second, .val (.int ww), .val (.ref b5), .unset, .unset, .unset, .unset, .unset, .unset, .unset] [(.int (if vv < (100000000000000000 : Int64) then (0 : Int32) else (1 : Int32))), (.int su16)])) _
      refine XS.iadd X140.here hx rfl (hb hby at_326) rfl ?_
      show Steps p.tables e below (T140.setTop (mkF m 327 #[.val (.long lq0), .second, .val (.int i2), .val (.int i3), .val (.long vv), .second, .val (.int ww), .val (.ref b5), .unset, .unset, .unset, .unset, .unset, .unset, .unset] [(.int (su16 + (if vv < (100000000000000000 : Int64) then (0 : Int32) else (1 : Int32))))])) _
      exact kk_)
  obtain ⟨su17, h_su17⟩ : ∃ z : Int32, z = (su16 + (if vv < (100000000000000000 : Int64) then (0 : Int32) else (1 : Int32))) := ⟨_, rfl⟩
  have r142 : GoTo p.tables e below s₁ (own_F_own_law m lq0 i2 i3) T140 (mkF m 327 #[.val (.long lq0), .second, .val (.int i2), .val (.int i3), .val (.long vv), .second, .val (.int ww), .val (.ref b5), .unset, .unset, .unset, .unset, .unset, .unset, .unset] [(.int su17)]) := by rw [h_su17]; exact r141
  obtain ⟨cl143, Ar143, q143, S143, NN143, H143, G143⟩ := id V64
  have hin143 : ¬ ((18 : Int32) < 0 ∨ cl143.slots.size ≤ ((18 : Int32)).toNatClampNeg) := inb_of S143 ⟨by decide, by decide⟩
  obtain ⟨Lg144, X144, N144⟩ : ∃ L' : List Loc, Stand p l e room_1 s m #[(.long lq0), (.int i2), (.int i3)] below meth c T140 L' 1 19 ∧ Fr n0 L' := ⟨_, X140, N140⟩
  obtain ⟨_, _, ⟨T145, L145, k145, n145⟩, -, X145, ⟨Lc145, hQ145, l145, y145, z145⟩, st145⟩ := Jvm.LawKit.callS X144 hx (y := (⟨"com/example/uketsuke/uketsuke/store/IdFormatDigitsPinLaw", "ge", "(JJ)I"⟩ : MethodName)) hown (mvT hZ (hw _ (List.mem_of_getElem? (i := 20) rfl))) (mvT hZ (hw _ (List.mem_of_getElem? (i := 21) rfl))) (mvT hZ (hw _ (List.mem_of_getElem? (i := 22) rfl))) (mvT hZ (hw _ (List.mem_of_getElem? (i := 23) rfl))) (by decide) (backOf (W := 1) (own_ge l Z a0 hw [] (vv) ((1000000000000000000 : Int64)) h64 n0 (O0.keep K65 all0)) hZ (hw _ (List.mem_of_getElem? (i := 23) rfl)) (hw _ (List.mem_of_getElem? (i := 22) rfl)) (by decide) (by decide)) (g := (mkF m 334 #[.val (.long lq0), .second, .val (.int i2), .val (.int i3), .val (.long vv), .second, .val (.int ww), .val (.ref b5), .unset, .unset, .unset, .unset, .unset, .unset, .unset] [(.long (1000000000000000000 : Int64)), (.long vv), (.int su17)])) rfl (by rw [hml]; rfl) (argsL := [(.long vv), (.long (1000000000000000000 : Int64))]) (rest := [(.int su17)]) (lenOf own_pd27 rfl) rfl (by show 2 * 0 + _ ≤ _; exact Nat.le_of_eq rfl) (hb hby at_334) (fun _ _ => ⟨rfl, hh140, (by decide : 1 + 0 ≤ _), (by decide : 19 + 0 ≤ _)⟩)
  dsimp only [Pt.U, Pt.locs, Pt.cells, Pt.slots] at X145 l145 y145 z145 st145 hQ145
  subst l145 y145 z145
  obtain ⟨rfl, Nq145, hh145⟩ := hQ145
  have N145 := Fr.app N144 Nq145
  have r146 : GoTo p.tables e below s₁ (own_F_own_law m lq0 i2 i3) T145 (mkF m 338 #[.val (.long lq0), .second, .val (.int i2), .val (.int i3), .val (.long vv), .second, .val (.int ww), .val (.ref b5), .unset, .unset, .unset, .unset, .unset, .unset, .unset] [(.int (su17 + (if vv < (1000000000000000000 : Int64) then (0 : Int32) else (1 : Int32))))]) := fun tt_ kk_ => r142 tt_ (by
      show Steps p.tables e below (T140.setTop (mkF m 327 #[.val (.long lq0), .second, .val (.int i2), .val (.int i3), .val (.long vv), .second, .val (.int ww), .val (.ref b5), .unset, .unset, .unset, .unset, .unset, .unset, .unset] [(.int su17)])) _
      refine XS.lload X140.here hx rfl (hb hby at_327) rfl ?_
      show Steps p.tables e below (T140.setTop (mkF m 329 #[.val (.long lq0), .second, .val (.int i2), .val (.int i3), .val (.long vv), .second, .val (.int ww), .val (.ref b5), .unset, .unset, .unset, .unset, .unset, .unset, .unset] [(.long vv), (.int su17)])) _
      refine XS.aload X140.here hx rfl (hb hby at_329) rfl rfl ?_
      show Steps p.tables e below (T140.setTop (mkF m 331 #[.val (.long lq0), .second, .val (.int i2), .val (.int i3), .val (.long vv), .second, .val (.int ww), .val (.ref b5), .unset, .unset, .unset, .unset, .unset, .unset, .unset] [(.ref b5), (.long vv), (.int su17)])) _
      refine XS.bipush X140.here hx rfl (hb hby at_331) ?_
      show Steps p.tables e below (T140.setTop (mkF m 333 #[.val (.long lq0), .second, .val (.int i2), .val (.int i3), .val (.long vv), .second, .val (.int ww), .val (.ref b5), .unset, .unset, .unset, .unset, .unset, .unset, .unset] [(.int (18 : Int32)), (.ref b5), (.long vv), (.int su17)])) _
      refine X140.laload hx (j := (18 : Int32)) (v := (.long (1000000000000000000 : Int64))) (by rw [hh140]; exact Ar143.1) (State.isArrayOf_alike hZ.alike Ar143.2.1) Ar143.2.2 hin143 (Has.at H143 hin143 rfl) (g := (mkF m 333 #[.val (.long lq0), .second, .val (.int i2), .val (.int i3), .val (.long vv), .second, .val (.int ww), .val (.ref b5), .unset, .unset, .unset, .unset, .unset, .unset, .unset] [(.int (18 : Int32)), (.ref b5), (.long vv), (.int su17)])) rfl rfl (hb hby at_333) _ ?_
      show Steps p.tables e below (T140.setTop (mkF m 334 #[.val (.long lq0), .second, .val (.int i2), .val (.int i3), .val (.long vv), .second, .val (.int ww), .val (.ref b5), .unset, .unset, .unset, .unset, .unset, .unset, .unset] [(.long (1000000000000000000 : Int64)), (.long vv), (.int su17)])) _
      refine st145 _ ?_
      show Steps p.tables e below (T145.setTop (mkF m 337 #[.val (.long lq0), .second, .val (.int i2), .val (.int i3), .val (.long vv), .second, .val (.int ww), .val (.ref b5), .unset, .unset, .unset, .unset, .unset, .unset, .unset] [(.int (if vv < (1000000000000000000 : Int64) then (0 : Int32) else (1 : Int32))), (.int su17)])) _
      refine XS.iadd X145.here hx rfl (hb hby at_337) rfl ?_
      show Steps p.tables e below (T145.setTop (mkF m 338 #[.val (.long lq0), .second, .val (.int i2), .val (.int i3), .val (.long vv), .second, .val (.int ww), .val (.ref b5), .unset, .unset, .unset, .unset, .unset, .unset, .unset] [(.int (su17 + (if vv < (1000000000000000000 : Int64) then (0 : Int32) else (1 : Int32))))])) _
      exact kk_)
  obtain ⟨su18, h_su18⟩ : ∃ z : Int32, z = (su17 + (if vv < (1000000000000000000 : Int64) then (0 : Int32) else (1 : Int32))) := ⟨_, rfl⟩
  have r147 : GoTo p.tables e below s₁ (own_F_own_law m lq0 i2 i3) T145 (mkF m 338 #[.val (.long lq0), .second, .val (.int i2), .val (.int i3), .val (.long vv), .second, .val (.int ww), .val (.ref b5), .unset, .unset, .unset, .unset, .unset, .unset, .unset] [(.int su18)]) := by rw [h_su18]; exact r146
  have r148 : GoTo p.tables e below s₁ (own_F_own_law m lq0 i2 i3) T145 (mkF m 338 #[.val (.long lq0), .second, .val (.int i2), .val (.int i3), .val (.long vv), .second, .val (.int ww), .val (.ref b5), .unset, .unset, .unset, .unset, .unset, .unset, .unset] [(.int (Int32.ofNat (Jvm.Free.SBG.digitsL nn)))]) := Eq.mp (congrArg (fun zz_ => GoTo p.tables e below s₁ (own_F_own_law m lq0 i2 i3) T145 (mkF m 338 #[.val (.long lq0), .second, .val (.int i2), .val (.int i3), .val (.long vv), .second, .val (.int ww), .val (.ref b5), .unset, .unset, .unset, .unset, .unset, .unset, .unset] [(.int zz_)])) (show su18 = (Int32.ofNat (Jvm.Free.SBG.digitsL nn)) from (by rw [h_su18, h_su17, h_su16, h_su15, h_su14, h_su13, h_su12, h_su11, h_su10, h_su9, h_su8, h_su7, h_su6, h_su5, h_su4, h_su3, h_su2, h_su1]; exact own_sum hvn))) r147
  obtain ⟨_, _, ⟨T149, L149, k149, n149⟩, -, X149, ⟨Lc149, hQ149, l149, y149, z149⟩, st149⟩ := Jvm.LawKit.callS X145 hx (y := (⟨"java/lang/Math", "max", "(II)I"⟩ : MethodName)) hown (mvT hZ (hw _ (List.mem_of_getElem? (i := 24) rfl))) (mvT hZ (hw _ (List.mem_of_getElem? (i := 25) rfl))) (mvT hZ (hw _ (List.mem_of_getElem? (i := 26) rfl))) (mvT hZ (hw _ (List.mem_of_getElem? (i := 27) rfl))) (by decide) (backOf (W := 0) (own_maxI l Z a0 hw [] (ww) ((Int32.ofNat (Jvm.Free.SBG.digitsL nn))) h64 n0 (O0.keep K65 all0)) hZ (hw _ (List.mem_of_getElem? (i := 27) rfl)) (hw _ (List.mem_of_getElem? (i := 26) rfl)) (by decide) (by decide)) (g := (mkF m 344 #[.val (.long lq0), .second, .val (.int i2), .val (.int i3), .val (.long vv), .second, .val (.int ww), .val (.ref b5), .val (.int (Int32.ofNat (Jvm.Free.SBG.digitsL nn))), .unset, .unset, .unset, .unset, .unset, .unset] [(.int (Int32.ofNat (Jvm.Free.SBG.digitsL nn))), (.int ww)])) rfl (by rw [hml]; rfl) (argsL := [(.int ww), (.int (Int32.ofNat (Jvm.Free.SBG.digitsL nn)))]) (rest := []) (lenOf own_pd1 rfl) rfl (by show 2 * 0 + _ ≤ _; exact Nat.le_of_eq rfl) (hb hby at_344) (fun _ _ => ⟨rfl, hh145, (by decide : 1 + 0 ≤ _), (by decide : 19 + 0 ≤ _)⟩)
  dsimp only [Pt.U, Pt.locs, Pt.cells, Pt.slots] at X149 l149 y149 z149 st149 hQ149
  subst l149 y149 z149
  obtain ⟨rfl, Nq149, hh149⟩ := hQ149
  have N149 := Fr.app N145 Nq149
  have r150 : GoTo p.tables e below s₁ (own_F_own_law m lq0 i2 i3) T149 (mkF m 347 #[.val (.long lq0), .second, .val (.int i2), .val (.int i3), .val (.long vv), .second, .val (.int ww), .val (.ref b5), .val (.int (Int32.ofNat (Jvm.Free.SBG.digitsL nn))), .unset, .unset, .unset, .unset, .unset, .unset] [(.int (if ww < (Int32.ofNat (Jvm.Free.SBG.digitsL nn)) then (Int32.ofNat (Jvm.Free.SBG.digitsL nn)) else ww))]) := fun tt_ kk_ => r148 tt_ (by
      show Steps p.tables e below (T145.setTop (mkF m 338 #[.val (.long lq0), .second, .val (.int i2), .val (.int i3), .val (.long vv), .second, .val (.int ww), .val (.ref b5), .unset, .unset, .unset, .unset, .unset, .unset, .unset] [(.int (Int32.ofNat (Jvm.Free.SBG.digitsL nn)))])) _
      refine XS.istore X145.here hx rfl (hb hby at_338) rfl (l' := #[.val (.long lq0), .second, .val (.int i2), .val (.int i3), .val (.long vv), .second, .val (.int ww), .val (.ref b5), .val (.int (Int32.ofNat (Jvm.Free.SBG.digitsL nn))), .unset, .unset, .unset, .unset, .unset, .unset]) rfl ?_
      show Steps p.tables e below (T145.setTop (mkF m 340 #[.val (.long lq0), .second, .val (.int i2), .val (.int i3), .val (.long vv), .second, .val (.int ww), .val (.ref b5), .val (.int (Int32.ofNat (Jvm.Free.SBG.digitsL nn))), .unset, .unset, .unset, .unset, .unset, .unset] [])) _
      refine XS.iload X145.here hx rfl (hb hby at_340) rfl ?_
      show Steps p.tables e below (T145.setTop (mkF m 342 #[.val (.long lq0), .second, .val (.int i2), .val (.int i3), .val (.long vv), .second, .val (.int ww), .val (.ref b5), .val (.int (Int32.ofNat (Jvm.Free.SBG.digitsL nn))), .unset, .unset, .unset, .unset, .unset, .unset] [(.int ww)])) _
      refine XS.iload X145.here hx rfl (hb hby at_342) rfl ?_
      show Steps p.tables e below (T145.setTop (mkF m 344 #[.val (.long lq0), .second, .val (.int i2), .val (.int i3), .val (.long vv), .second, .val (.int ww), .val (.ref b5), .val (.int (Int32.ofNat (Jvm.Free.SBG.digitsL nn))), .unset, .unset, .unset, .unset, .unset, .unset] [(.int (Int32.ofNat (Jvm.Free.SBG.digitsL nn))), (.int ww)])) _
      refine st149 _ ?_
      show Steps p.tables e below (T149.setTop (mkF m 347 #[.val (.long lq0), .second, .val (.int i2), .val (.int i3), .val (.long vv), .second, .val (.int ww), .val (.ref b5), .val (.int (Int32.ofNat (Jvm.Free.SBG.digitsL nn))), .unset, .unset, .unset, .unset, .unset, .unset] [(.int (if ww < (Int32.ofNat (Jvm.Free.SBG.digitsL nn)) then (Int32.ofNat (Jvm.Free.SBG.digitsL nn)) else ww))])) _
      exact kk_)
  have r151 : GoTo p.tables e below s₁ (own_F_own_law m lq0 i2 i3) T149 (mkF m 347 #[.val (.long lq0), .second, .val (.int i2), .val (.int i3), .val (.long vv), .second, .val (.int ww), .val (.ref b5), .val (.int (Int32.ofNat (Jvm.Free.SBG.digitsL nn))), .unset, .unset, .unset, .unset, .unset, .unset] [(.int (Int32.ofNat (cnt + (Jvm.Free.SBG.digitsL nn))))]) := Eq.mp (congrArg (fun zz_ => GoTo p.tables e below s₁ (own_F_own_law m lq0 i2 i3) T149 (mkF m 347 #[.val (.long lq0), .second, .val (.int i2), .val (.int i3), .val (.long vv), .second, .val (.int ww), .val (.ref b5), .val (.int (Int32.ofNat (Jvm.Free.SBG.digitsL nn))), .unset, .unset, .unset, .unset, .unset, .unset] [(.int zz_)])) (show (if ww < (Int32.ofNat (Jvm.Free.SBG.digitsL nn)) then (Int32.ofNat (Jvm.Free.SBG.digitsL nn)) else ww) = (Int32.ofNat (cnt + (Jvm.Free.SBG.digitsL nn))) from hmx)) r150
  obtain ⟨Lg152, X152, N152⟩ : ∃ L' : List Loc, Stand p l e room_1 s m #[(.long lq0), (.int i2), (.int i3)] below meth c T149 L' 1 19 ∧ Fr n0 L' := ⟨_, X149, N149⟩
  have r153 : GoTo p.tables e below s₁ (own_F_own_law m lq0 i2 i3) T149 (mkF m 353 #[.val (.long lq0), .second, .val (.int i2), .val (.int i3), .val (.long vv), .second, .val (.int ww), .val (.ref b5), .val (.int (Int32.ofNat (Jvm.Free.SBG.digitsL nn))), .val (.int (Int32.ofNat (cnt + (Jvm.Free.SBG.digitsL nn)))), .unset, .unset, .unset, .unset, .unset] [(.int ww), (.long vv)]) := fun tt_ kk_ => r151 tt_ (by
      show Steps p.tables e below (T149.setTop (mkF m 347 #[.val (.long lq0), .second, .val (.int i2), .val (.int i3), .val (.long vv), .second, .val (.int ww), .val (.ref b5), .val (.int (Int32.ofNat (Jvm.Free.SBG.digitsL nn))), .unset, .unset, .unset, .unset, .unset, .unset] [(.int (Int32.ofNat (cnt + (Jvm.Free.SBG.digitsL nn))))])) _
      refine XS.istore X149.here hx rfl (hb hby at_347) rfl (l' := #[.val (.long lq0), .second, .val (.int i2), .val (.int i3), .val (.long vv), .second, .val (.int ww), .val (.ref b5), .val (.int (Int32.ofNat (Jvm.Free.SBG.digitsL nn))), .val (.int (Int32.ofNat (cnt + (Jvm.Free.SBG.digitsL nn)))), .unset, .unset, .unset, .unset, .unset]) rfl ?_
      show Steps p.tables e below (T149.setTop (mkF m 349 #[.val (.long lq0), .second, .val (.int i2), .val (.int i3), .val (.long vv), .second, .val (.int ww), .val (.ref b5), .val (.int (Int32.ofNat (Jvm.Free.SBG.digitsL nn))), .val (.int (Int32.ofNat (cnt + (Jvm.Free.SBG.digitsL nn)))), .unset, .unset, .unset, .unset, .unset] [])) _
      refine XS.lload X149.here hx rfl (hb hby at_349) rfl ?_
      show Steps p.tables e below (T149.setTop (mkF m 351 #[.val (.long lq0), .second, .val (.int i2), .val (.int i3), .val (.long vv), .second, .val (.int ww), .val (.ref b5), .val (.int (Int32.ofNat (Jvm.Free.SBG.digitsL nn))), .val (.int (Int32.ofNat (cnt + (Jvm.Free.SBG.digitsL nn)))), .unset, .unset, .unset, .unset, .unset] [(.long vv)])) _
      refine XS.iload X149.here hx rfl (hb hby at_351) rfl ?_
      show Steps p.tables e below (T149.setTop (mkF m 353 #[.val (.long lq0), .second, .val (.int i2), .val (.int i3), .val (.long vv), .second, .val (.int ww), .val (.ref b5), .val (.int (Int32.ofNat (Jvm.Free.SBG.digitsL nn))), .val (.int (Int32.ofNat (cnt + (Jvm.Free.SBG.digitsL nn)))), .unset, .unset, .unset, .unset, .unset] [(.int ww), (.long vv)])) _
      exact kk_)
  have C154 : CHr Z consts_1 s.vm h0 s.vm h64 := CHr.keep K65 all0 hC0
  have Sf155 : Safe Z consts_1 s.vm h64 b5 := Safe.keep K65 all0 hC0 (Safe.new b7)
  have lt156 : b5 < h64.size := (Nat.lt_of_lt_of_le V5.lt (Nat.le_trans (Nat.le_trans (Nat.le_trans (Nat.le_trans (Nat.le_trans (Nat.le_trans (Nat.le_trans (Nat.le_trans (Nat.le_trans (Nat.le_trans (Nat.le_trans (Nat.le_trans (Nat.le_trans (Nat.le_trans (Nat.le_trans (Nat.le_trans (Nat.le_trans (Nat.le_trans (Nat.le_of_eq (Wr.size W10).symm) (Nat.le_of_eq (Wr.size W13).symm)) (Nat.le_of_eq (Wr.size W16).symm)) (Nat.le_of_eq (Wr.size W19).symm)) (Nat.le_of_eq (Wr.size W22).symm)) (Nat.le_of_eq (Wr.size W25).symm)) (Nat.le_of_eq (Wr.size W28).symm)) (Nat.le_of_eq (Wr.size W31).symm)) (Nat.le_of_eq (Wr.size W34).symm)) (Nat.le_of_eq (Wr.size W37).symm)) (Nat.le_of_eq (Wr.size W40).symm)) (Nat.le_of_eq (Wr.size W43).symm)) (Nat.le_of_eq (Wr.size W46).symm)) (Nat.le_of_eq (Wr.size W49).symm)) (Nat.le_of_eq (Wr.size W52).symm)) (Nat.le_of_eq (Wr.size W55).symm)) (Nat.le_of_eq (Wr.size W58).symm)) (Nat.le_of_eq (Wr.size W61).symm)) (Nat.le_of_eq (Wr.size W64).symm)))
  obtain ⟨_, _, ⟨T157, L157, k157, n157⟩, -, X157, hSq157, hgr157, ⟨Lc157, hQ157, l157, y157, z157, CC157⟩, st157⟩ := callSS X152 hx (y := (⟨"com/example/uketsuke/uketsuke/store/IdFormat", "digits", "(JI)Ljava/lang/String;"⟩ : MethodName)) hown (mvT hZ (hw _ (List.mem_of_getElem? (i := 28) rfl))) (mvT hZ (hw _ (List.mem_of_getElem? (i := 29) rfl))) (mvT hZ (hw _ (List.mem_of_getElem? (i := 30) rfl))) (mvT hZ (hw _ (List.mem_of_getElem? (i := 31) rfl))) (by decide) (backOfSH (s := s) (vm0 := s.vm) (W := 0) (own_idg l Z a0 hw [] (vv) (ww) (nn) (cnt) (gCS) (ist) (dt1) (dt2) (cD1) (cD2) h64 n0 (O0.keep K65 all0) (hvn) (hcw) (htot) (hp0) (hG1) (hT1) (hT2) (hO1) (hO2) (hp8) (hp9) (hp10) (hD1) (hD2) hEL) hZ (hw _ (List.mem_of_getElem? (i := 31) rfl)) (hw _ (List.mem_of_getElem? (i := 30) rfl)) (by decide) (by decide) hEL C154.1) (g := (mkF m 353 #[.val (.long lq0), .second, .val (.int i2), .val (.int i3), .val (.long vv), .second, .val (.int ww), .val (.ref b5), .val (.int (Int32.ofNat (Jvm.Free.SBG.digitsL nn))), .val (.int (Int32.ofNat (cnt + (Jvm.Free.SBG.digitsL nn)))), .unset, .unset, .unset, .unset, .unset] [(.int ww), (.long vv)])) rfl (by rw [hml]; rfl) (argsL := [(.long vv), (.int ww)]) (rest := []) (lenOf own_pd28 rfl) rfl (by show 2 * 0 + _ ≤ _; exact Nat.le_of_eq rfl) (hb hby at_353) (fun _ _ => ⟨rfl, hh149, (by decide : 1 + 12 ≤ _), (by decide : 19 + 720 ≤ _)⟩)
  dsimp only [Pt.U, Pt.locs, Pt.cells, Pt.slots] at X157 l157 y157 z157 st157 hQ157 CC157 hSq157 hgr157
  subst l157 y157 z157
  have hSn157 := foldS (s := s) (vm0 := s.vm) hS0 (by rw [hh149]; exact (Nat.le_trans (Nat.zero_le _) K65.1)) hSq157 hgr157
  have X157 : Stand p l e room_1 (s.setVm T157.vm) m #[(.long lq0), (.int i2), (.int i3)] below meth c T157 _ _ _ := X157
  have hZ : Z.Warmed39 (s.setVm T157.vm).vm := State.Warmed39.trans (t := s.setVm s.vm) hZ hSq157.1
  have hown : (s.setVm T157.vm).vm.findClass "com/example/uketsuke/uketsuke/store/IdFormatDigitsPinLaw" = some m.cls := by show T157.vm.findClass _ = _; rw [hSq157.1.alike.findClass]; exact hown
  obtain ⟨x_157, t_157, kt_157, rfl, Nq157, Kq157, po157_0, po157_1, po157_2, po157_3⟩ := hQ157
  have N157 := Fr.app N152 Nq157
  have ne158 : b5 ≠ x_157 := Nat.ne_of_lt (Nat.lt_of_lt_of_le (Nat.lt_of_lt_of_le V5.lt (Nat.le_trans (Nat.le_trans (Nat.le_trans (Nat.le_trans (Nat.le_trans (Nat.le_trans (Nat.le_trans (Nat.le_trans (Nat.le_trans (Nat.le_trans (Nat.le_trans (Nat.le_trans (Nat.le_trans (Nat.le_trans (Nat.le_trans (Nat.le_trans (Nat.le_trans (Nat.le_trans (Nat.le_of_eq (Wr.size W10).symm) (Nat.le_of_eq (Wr.size W13).symm)) (Nat.le_of_eq (Wr.size W16).symm)) (Nat.le_of_eq (Wr.size W19).symm)) (Nat.le_of_eq (Wr.size W22).symm)) (Nat.le_of_eq (Wr.size W25).symm)) (Nat.le_of_eq (Wr.size W28).symm)) (Nat.le_of_eq (Wr.size W31).symm)) (Nat.le_of_eq (Wr.size W34).symm)) (Nat.le_of_eq (Wr.size W37).symm)) (Nat.le_of_eq (Wr.size W40).symm)) (Nat.le_of_eq (Wr.size W43).symm)) (Nat.le_of_eq (Wr.size W46).symm)) (Nat.le_of_eq (Wr.size W49).symm)) (Nat.le_of_eq (Wr.size W52).symm)) (Nat.le_of_eq (Wr.size W55).symm)) (Nat.le_of_eq (Wr.size W58).symm)) (Nat.le_of_eq (Wr.size W61).symm)) (Nat.le_of_eq (Wr.size W64).symm))) po157_0)
  have g159 : n0 ≤ x_157 := Nat.le_trans (Nat.le_trans (own_le O0) K65.1) po157_0
  have b160 : h0.size ≤ x_157 := Nat.le_trans K65.1 po157_0
  have ne161 : b5 ≠ t_157 := Nat.ne_of_lt (Nat.lt_of_lt_of_le (Nat.lt_of_lt_of_le V5.lt (Nat.le_trans (Nat.le_trans (Nat.le_trans (Nat.le_trans (Nat.le_trans (Nat.le_trans (Nat.le_trans (Nat.le_trans (Nat.le_trans (Nat.le_trans (Nat.le_trans (Nat.le_trans (Nat.le_trans (Nat.le_trans (Nat.le_trans (Nat.le_trans (Nat.le_trans (Nat.le_trans (Nat.le_of_eq (Wr.size W10).symm) (Nat.le_of_eq (Wr.size W13).symm)) (Nat.le_of_eq (Wr.size W16).symm)) (Nat.le_of_eq (Wr.size W19).symm)) (Nat.le_of_eq (Wr.size W22).symm)) (Nat.le_of_eq (Wr.size W25).symm)) (Nat.le_of_eq (Wr.size W28).symm)) (Nat.le_of_eq (Wr.size W31).symm)) (Nat.le_of_eq (Wr.size W34).symm)) (Nat.le_of_eq (Wr.size W37).symm)) (Nat.le_of_eq (Wr.size W40).symm)) (Nat.le_of_eq (Wr.size W43).symm)) (Nat.le_of_eq (Wr.size W46).symm)) (Nat.le_of_eq (Wr.size W49).symm)) (Nat.le_of_eq (Wr.size W52).symm)) (Nat.le_of_eq (Wr.size W55).symm)) (Nat.le_of_eq (Wr.size W58).symm)) (Nat.le_of_eq (Wr.size W61).symm)) (Nat.le_of_eq (Wr.size W64).symm))) po157_1)
  have g162 : n0 ≤ t_157 := Nat.le_trans (Nat.le_trans (own_le O0) K65.1) po157_1
  have b163 : h0.size ≤ t_157 := Nat.le_trans K65.1 po157_1
  have K164 : Keep h0 T157.heap [] := K65.trans Kq157 all0
  have bz165 : h0.size ≤ b5 := Nat.le_trans KA0.1 b7
  have bz166 : h0.size ≤ x_157 := Nat.le_trans KA0.1 b160
  have bz167 : h0.size ≤ t_157 := Nat.le_trans KA0.1 b163
  have CA168 : CHr Z consts_1 s.vm h0 T157.vm T157.heap := (CA0.trans C154).trans CC157
  have KA169 : Keep h0 T157.heap [] := KA0.trans K164 all0
  have O170 : Old Z n0 T157.heap := (O0.keep K164 all0)
  have Sf171 : Safe Z consts_1 T157.vm T157.heap b5 := CHr.safe CC157 lt156 Sf155
  have K172 : Keep T157.heap T157.heap [b5] := Keep.refl _ _
  have hl := own_padLen nn cnt
  obtain ⟨cq173, kq173, qa173, qb173, qc173⟩ := isOf hZ rfl po157_3.1
  obtain ⟨_, _, ⟨T173, L173, k173, n173⟩, -, X173, ⟨Lc173, hQ173, l173, y173, z173⟩, st173⟩ := X157.virtualBack hx (y := (⟨"java/lang/String", "length", "()I"⟩ : MethodName)) (z := (⟨"java/lang/String", "length", "()I"⟩ : MethodName)) hown (mvT hZ (hw _ (List.mem_of_getElem? (i := 182) rfl))) (mvT hZ (hw _ (List.mem_of_getElem? (i := 84) rfl))) (notFace_of_selects (args := #[]) (mvT hZ (hw _ (List.mem_of_getElem? (i := 86) rfl)))) (mvT hZ (hw _ (List.mem_of_getElem? (i := 86) rfl))) (mvT hZ (hw _ (List.mem_of_getElem? (i := 85) rfl))) (by decide) (backOf (W := 0) (own_strlen l Z a0 hw [] (x_157) (t_157) (kt_157) ((([] ++ List.replicate cnt (48 : Int32)) ++ own_decL nn)) (gCS) T157.heap n0 (O170.keep K172 (allS g6 all0)) (po157_3) (hp0) (hG1)) hZ (hw _ (List.mem_of_getElem? (i := 87) rfl)) (hw _ (List.mem_of_getElem? (i := 41) rfl)) (by decide) (by decide)) qa173 qc173 (g := (mkF m 365 #[.val (.long lq0), .second, .val (.int i2), .val (.int i3), .val (.long vv), .second, .val (.int ww), .val (.ref b5), .val (.int (Int32.ofNat (Jvm.Free.SBG.digitsL nn))), .val (.int (Int32.ofNat (cnt + (Jvm.Free.SBG.digitsL nn)))), .val (.ref x_157), .unset, .unset, .unset, .unset] [(.ref x_157)])) rfl (by rw [hml]; rfl) (Steps.refl _) (argsL := []) (rest := []) (lenOf own_pd12 rfl) rfl (by show 2 * 0 + _ ≤ _; exact Nat.le_of_eq rfl) (hb hby at_365) (fun _ _ => ⟨rfl, rfl, (by decide : 13 + 0 ≤ _), (by decide : 739 + 0 ≤ _)⟩)
  dsimp only [Pt.U, Pt.locs, Pt.cells, Pt.slots] at X173 l173 y173 z173 st173 hQ173
  subst l173 y173 z173
  obtain ⟨rfl, Nq173, hh173⟩ := hQ173
  have N173 := Fr.app N157 Nq173
  have r174 : GoTo p.tables e below s₁ (own_F_own_law m lq0 i2 i3) T173 (mkF m 368 #[.val (.long lq0), .second, .val (.int i2), .val (.int i3), .val (.long vv), .second, .val (.int ww), .val (.ref b5), .val (.int (Int32.ofNat (Jvm.Free.SBG.digitsL nn))), .val (.int (Int32.ofNat (cnt + (Jvm.Free.SBG.digitsL nn)))), .val (.ref x_157), .unset, .unset, .unset, .unset] [(.int (Int32.ofNat (([] ++ List.replicate cnt (48 : Int32)) ++ own_decL nn).length))]) := fun tt_ kk_ => r153 tt_ (by
      show Steps p.tables e below (T149.setTop (mkF m 353 #[.val (.long lq0), .second, .val (.int i2), .val (.int i3), .val (.long vv), .second, .val (.int ww), .val (.ref b5), .val (.int (Int32.ofNat (Jvm.Free.SBG.digitsL nn))), .val (.int (Int32.ofNat (cnt + (Jvm.Free.SBG.digitsL nn)))), .unset, .unset, .unset, .unset, .unset] [(.int ww), (.long vv)])) _
      refine st157.trans ?_
      show Steps p.tables e below (T157.setTop (mkF m 356 #[.val (.long lq0), .second, .val (.int i2), .val (.int i3), .val (.long vv), .second, .val (.int ww), .val (.ref b5), .val (.int (Int32.ofNat (Jvm.Free.SBG.digitsL nn))), .val (.int (Int32.ofNat (cnt + (Jvm.Free.SBG.digitsL nn)))), .unset, .unset, .unset, .unset, .unset] [(.ref x_157)])) _
      refine XS.astore X157.here hx rfl (hb hby at_356) rfl rfl (l' := #[.val (.long lq0), .second, .val (.int i2), .val (.int i3), .val (.long vv), .second, .val (.int ww), .val (.ref b5), .val (.int (Int32.ofNat (Jvm.Free.SBG.digitsL nn))), .val (.int (Int32.ofNat (cnt + (Jvm.Free.SBG.digitsL nn)))), .val (.ref x_157), .unset, .unset, .unset, .unset]) rfl ?_
      show Steps p.tables e below (T157.setTop (mkF m 358 #[.val (.long lq0), .second, .val (.int i2), .val (.int i3), .val (.long vv), .second, .val (.int ww), .val (.ref b5), .val (.int (Int32.ofNat (Jvm.Free.SBG.digitsL nn))), .val (.int (Int32.ofNat (cnt + (Jvm.Free.SBG.digitsL nn)))), .val (.ref x_157), .unset, .unset, .unset, .unset] [])) _
      refine XS.aload X157.here hx rfl (hb hby at_358) rfl rfl ?_
      show Steps p.tables e below (T157.setTop (mkF m 360 #[.val (.long lq0), .second, .val (.int i2), .val (.int i3), .val (.long vv), .second, .val (.int ww), .val (.ref b5), .val (.int (Int32.ofNat (Jvm.Free.SBG.digitsL nn))), .val (.int (Int32.ofNat (cnt + (Jvm.Free.SBG.digitsL nn)))), .val (.ref x_157), .unset, .unset, .unset, .unset] [(.ref x_157)])) _
      refine XS.ifnullNo X157.here hx rfl (hb hby at_360) rfl ?_
      show Steps p.tables e below (T157.setTop (mkF m 363 #[.val (.long lq0), .second, .val (.int i2), .val (.int i3), .val (.long vv), .second, .val (.int ww), .val (.ref b5), .val (.int (Int32.ofNat (Jvm.Free.SBG.digitsL nn))), .val (.int (Int32.ofNat (cnt + (Jvm.Free.SBG.digitsL nn)))), .val (.ref x_157), .unset, .unset, .unset, .unset] [])) _
      refine XS.aload X157.here hx rfl (hb hby at_363) rfl rfl ?_
      show Steps p.tables e below (T157.setTop (mkF m 365 #[.val (.long lq0), .second, .val (.int i2), .val (.int i3), .val (.long vv), .second, .val (.int ww), .val (.ref b5), .val (.int (Int32.ofNat (Jvm.Free.SBG.digitsL nn))), .val (.int (Int32.ofNat (cnt + (Jvm.Free.SBG.digitsL nn)))), .val (.ref x_157), .unset, .unset, .unset, .unset] [(.ref x_157)])) _
      refine st173.trans ?_
      show Steps p.tables e below (T173.setTop (mkF m 368 #[.val (.long lq0), .second, .val (.int i2), .val (.int i3), .val (.long vv), .second, .val (.int ww), .val (.ref b5), .val (.int (Int32.ofNat (Jvm.Free.SBG.digitsL nn))), .val (.int (Int32.ofNat (cnt + (Jvm.Free.SBG.digitsL nn)))), .val (.ref x_157), .unset, .unset, .unset, .unset] [(.int (Int32.ofNat (([] ++ List.replicate cnt (48 : Int32)) ++ own_decL nn).length))])) _
      exact kk_)
  have r175 : GoTo p.tables e below s₁ (own_F_own_law m lq0 i2 i3) T173 (mkF m 368 #[.val (.long lq0), .second, .val (.int i2), .val (.int i3), .val (.long vv), .second, .val (.int ww), .val (.ref b5), .val (.int (Int32.ofNat (Jvm.Free.SBG.digitsL nn))), .val (.int (Int32.ofNat (cnt + (Jvm.Free.SBG.digitsL nn)))), .val (.ref x_157), .unset, .unset, .unset, .unset] [(.int (Int32.ofNat (cnt + (Jvm.Free.SBG.digitsL nn))))]) := Eq.mp (congrArg (fun zz_ => GoTo p.tables e below s₁ (own_F_own_law m lq0 i2 i3) T173 (mkF m 368 #[.val (.long lq0), .second, .val (.int i2), .val (.int i3), .val (.long vv), .second, .val (.int ww), .val (.ref b5), .val (.int (Int32.ofNat (Jvm.Free.SBG.digitsL nn))), .val (.int (Int32.ofNat (cnt + (Jvm.Free.SBG.digitsL nn)))), .val (.ref x_157), .unset, .unset, .unset, .unset] [(.int zz_)])) (show (Int32.ofNat (([] ++ List.replicate cnt (48 : Int32)) ++ own_decL nn).length) = (Int32.ofNat (cnt + (Jvm.Free.SBG.digitsL nn))) from (by rw [hl]))) r174
  obtain ⟨pp, hpp, hpl⟩ := own_posEx i3 (n := (cnt + (Jvm.Free.SBG.digitsL nn))) (by omega) htot
  have r176 : GoTo p.tables e below s₁ (own_F_own_law m lq0 i2 i3) T173 (mkF m 382 #[.val (.long lq0), .second, .val (.int i2), .val (.int i3), .val (.long vv), .second, .val (.int ww), .val (.ref b5), .val (.int (Int32.ofNat (Jvm.Free.SBG.digitsL nn))), .val (.int (Int32.ofNat (cnt + (Jvm.Free.SBG.digitsL nn)))), .val (.ref x_157), .unset, .unset, .unset, .unset] [(.int ((i3 &&& (2147483647 : Int32)) % (Int32.ofNat (cnt + (Jvm.Free.SBG.digitsL nn)))))]) := fun tt_ kk_ => r175 tt_ (by
      show Steps p.tables e below (T173.setTop (mkF m 368 #[.val (.long lq0), .second, .val (.int i2), .val (.int i3), .val (.long vv), .second, .val (.int ww), .val (.ref b5), .val (.int (Int32.ofNat (Jvm.Free.SBG.digitsL nn))), .val (.int (Int32.ofNat (cnt + (Jvm.Free.SBG.digitsL nn)))), .val (.ref x_157), .unset, .unset, .unset, .unset] [(.int (Int32.ofNat (cnt + (Jvm.Free.SBG.digitsL nn))))])) _
      refine XS.iload X173.here hx rfl (hb hby at_368) rfl ?_
      show Steps p.tables e below (T173.setTop (mkF m 370 #[.val (.long lq0), .second, .val (.int i2), .val (.int i3), .val (.long vv), .second, .val (.int ww), .val (.ref b5), .val (.int (Int32.ofNat (Jvm.Free.SBG.digitsL nn))), .val (.int (Int32.ofNat (cnt + (Jvm.Free.SBG.digitsL nn)))), .val (.ref x_157), .unset, .unset, .unset, .unset] [(.int (Int32.ofNat (cnt + (Jvm.Free.SBG.digitsL nn)))), (.int (Int32.ofNat (cnt + (Jvm.Free.SBG.digitsL nn))))])) _
      refine XS.icmpYes X173.here hx rfl (pc0 := 370) (pc' := 375) rfl (hb hby at_370) rfl (teq rfl).1 (by decide) (by decide) ?_
      show Steps p.tables e below (T173.setTop (mkF m 375 #[.val (.long lq0), .second, .val (.int i2), .val (.int i3), .val (.long vv), .second, .val (.int ww), .val (.ref b5), .val (.int (Int32.ofNat (Jvm.Free.SBG.digitsL nn))), .val (.int (Int32.ofNat (cnt + (Jvm.Free.SBG.digitsL nn)))), .val (.ref x_157), .unset, .unset, .unset, .unset] [])) _
      refine XS.iloadN X173.here hx rfl (hb hby at_375) rfl ?_
      show Steps p.tables e below (T173.setTop (mkF m 376 #[.val (.long lq0), .second, .val (.int i2), .val (.int i3), .val (.long vv), .second, .val (.int ww), .val (.ref b5), .val (.int (Int32.ofNat (Jvm.Free.SBG.digitsL nn))), .val (.int (Int32.ofNat (cnt + (Jvm.Free.SBG.digitsL nn)))), .val (.ref x_157), .unset, .unset, .unset, .unset] [(.int i3)])) _
      refine X173.ldcI hx hown (mvT hZ (hw _ (List.mem_of_getElem? (i := 183) rfl))) rfl (hb hby at_376) ?_
      show Steps p.tables e below (T173.setTop (mkF m 378 #[.val (.long lq0), .second, .val (.int i2), .val (.int i3), .val (.long vv), .second, .val (.int ww), .val (.ref b5), .val (.int (Int32.ofNat (Jvm.Free.SBG.digitsL nn))), .val (.int (Int32.ofNat (cnt + (Jvm.Free.SBG.digitsL nn)))), .val (.ref x_157), .unset, .unset, .unset, .unset] [(.int (2147483647 : Int32)), (.int i3)])) _
      refine XS.iand X173.here hx rfl (hb hby at_378) rfl ?_
      show Steps p.tables e below (T173.setTop (mkF m 379 #[.val (.long lq0), .second, .val (.int i2), .val (.int i3), .val (.long vv), .second, .val (.int ww), .val (.ref b5), .val (.int (Int32.ofNat (Jvm.Free.SBG.digitsL nn))), .val (.int (Int32.ofNat (cnt + (Jvm.Free.SBG.digitsL nn)))), .val (.ref x_157), .unset, .unset, .unset, .unset] [(.int (i3 &&& (2147483647 : Int32)))])) _
      refine XS.iload X173.here hx rfl (hb hby at_379) rfl ?_
      show Steps p.tables e below (T173.setTop (mkF m 381 #[.val (.long lq0), .second, .val (.int i2), .val (.int i3), .val (.long vv), .second, .val (.int ww), .val (.ref b5), .val (.int (Int32.ofNat (Jvm.Free.SBG.digitsL nn))), .val (.int (Int32.ofNat (cnt + (Jvm.Free.SBG.digitsL nn)))), .val (.ref x_157), .unset, .unset, .unset, .unset] [(.int (Int32.ofNat (cnt + (Jvm.Free.SBG.digitsL nn)))), (.int (i3 &&& (2147483647 : Int32)))])) _
      refine iremM X173 hx rfl (hb hby at_381) rfl (fun q => absurd ((own_eqN (b := 0) (by omega) (by decide)).mp q) (by omega)) ?_
      show Steps p.tables e below (T173.setTop (mkF m 382 #[.val (.long lq0), .second, .val (.int i2), .val (.int i3), .val (.long vv), .second, .val (.int ww), .val (.ref b5), .val (.int (Int32.ofNat (Jvm.Free.SBG.digitsL nn))), .val (.int (Int32.ofNat (cnt + (Jvm.Free.SBG.digitsL nn)))), .val (.ref x_157), .unset, .unset, .unset, .unset] [(.int ((i3 &&& (2147483647 : Int32)) % (Int32.ofNat (cnt + (Jvm.Free.SBG.digitsL nn)))))])) _
      exact kk_)
  have r177 : GoTo p.tables e below s₁ (own_F_own_law m lq0 i2 i3) T173 (mkF m 382 #[.val (.long lq0), .second, .val (.int i2), .val (.int i3), .val (.long vv), .second, .val (.int ww), .val (.ref b5), .val (.int (Int32.ofNat (Jvm.Free.SBG.digitsL nn))), .val (.int (Int32.ofNat (cnt + (Jvm.Free.SBG.digitsL nn)))), .val (.ref x_157), .unset, .unset, .unset, .unset] [(.int (Int32.ofNat pp))]) := Eq.mp (congrArg (fun zz_ => GoTo p.tables e below s₁ (own_F_own_law m lq0 i2 i3) T173 (mkF m 382 #[.val (.long lq0), .second, .val (.int i2), .val (.int i3), .val (.long vv), .second, .val (.int ww), .val (.ref b5), .val (.int (Int32.ofNat (Jvm.Free.SBG.digitsL nn))), .val (.int (Int32.ofNat (cnt + (Jvm.Free.SBG.digitsL nn)))), .val (.ref x_157), .unset, .unset, .unset, .unset] [(.int zz_)])) (show ((i3 &&& (2147483647 : Int32)) % (Int32.ofNat (cnt + (Jvm.Free.SBG.digitsL nn)))) = (Int32.ofNat pp) from hpp)) r176
  have r178 : GoTo p.tables e below s₁ (own_F_own_law m lq0 i2 i3) T173 (mkF m 389 #[.val (.long lq0), .second, .val (.int i2), .val (.int i3), .val (.long vv), .second, .val (.int ww), .val (.ref b5), .val (.int (Int32.ofNat (Jvm.Free.SBG.digitsL nn))), .val (.int (Int32.ofNat (cnt + (Jvm.Free.SBG.digitsL nn)))), .val (.ref x_157), .val (.int (Int32.ofNat pp)), .unset, .unset, .unset] [(.int ((Int32.ofNat (cnt + (Jvm.Free.SBG.digitsL nn))) - (Int32.ofNat (Jvm.Free.SBG.digitsL nn))))]) := fun tt_ kk_ => r177 tt_ (by
      show Steps p.tables e below (T173.setTop (mkF m 382 #[.val (.long lq0), .second, .val (.int i2), .val (.int i3), .val (.long vv), .second, .val (.int ww), .val (.ref b5), .val (.int (Int32.ofNat (Jvm.Free.SBG.digitsL nn))), .val (.int (Int32.ofNat (cnt + (Jvm.Free.SBG.digitsL nn)))), .val (.ref x_157), .unset, .unset, .unset, .unset] [(.int (Int32.ofNat pp))])) _
      refine XS.istore X173.here hx rfl (hb hby at_382) rfl (l' := #[.val (.long lq0), .second, .val (.int i2), .val (.int i3), .val (.long vv), .second, .val (.int ww), .val (.ref b5), .val (.int (Int32.ofNat (Jvm.Free.SBG.digitsL nn))), .val (.int (Int32.ofNat (cnt + (Jvm.Free.SBG.digitsL nn)))), .val (.ref x_157), .val (.int (Int32.ofNat pp)), .unset, .unset, .unset]) rfl ?_
      show Steps p.tables e below (T173.setTop (mkF m 384 #[.val (.long lq0), .second, .val (.int i2), .val (.int i3), .val (.long vv), .second, .val (.int ww), .val (.ref b5), .val (.int (Int32.ofNat (Jvm.Free.SBG.digitsL nn))), .val (.int (Int32.ofNat (cnt + (Jvm.Free.SBG.digitsL nn)))), .val (.ref x_157), .val (.int (Int32.ofNat pp)), .unset, .unset, .unset] [])) _
      refine XS.iload X173.here hx rfl (hb hby at_384) rfl ?_
      show Steps p.tables e below (T173.setTop (mkF m 386 #[.val (.long lq0), .second, .val (.int i2), .val (.int i3), .val (.long vv), .second, .val (.int ww), .val (.ref b5), .val (.int (Int32.ofNat (Jvm.Free.SBG.digitsL nn))), .val (.int (Int32.ofNat (cnt + (Jvm.Free.SBG.digitsL nn)))), .val (.ref x_157), .val (.int (Int32.ofNat pp)), .unset, .unset, .unset] [(.int (Int32.ofNat (cnt + (Jvm.Free.SBG.digitsL nn))))])) _
      refine XS.iload X173.here hx rfl (hb hby at_386) rfl ?_
      show Steps p.tables e below (T173.setTop (mkF m 388 #[.val (.long lq0), .second, .val (.int i2), .val (.int i3), .val (.long vv), .second, .val (.int ww), .val (.ref b5), .val (.int (Int32.ofNat (Jvm.Free.SBG.digitsL nn))), .val (.int (Int32.ofNat (cnt + (Jvm.Free.SBG.digitsL nn)))), .val (.ref x_157), .val (.int (Int32.ofNat pp)), .unset, .unset, .unset] [(.int (Int32.ofNat (Jvm.Free.SBG.digitsL nn))), (.int (Int32.ofNat (cnt + (Jvm.Free.SBG.digitsL nn))))])) _
      refine XS.isub X173.here hx rfl (hb hby at_388) rfl ?_
      show Steps p.tables e below (T173.setTop (mkF m 389 #[.val (.long lq0), .second, .val (.int i2), .val (.int i3), .val (.long vv), .second, .val (.int ww), .val (.ref b5), .val (.int (Int32.ofNat (Jvm.Free.SBG.digitsL nn))), .val (.int (Int32.ofNat (cnt + (Jvm.Free.SBG.digitsL nn)))), .val (.ref x_157), .val (.int (Int32.ofNat pp)), .unset, .unset, .unset] [(.int ((Int32.ofNat (cnt + (Jvm.Free.SBG.digitsL nn))) - (Int32.ofNat (Jvm.Free.SBG.digitsL nn))))])) _
      exact kk_)
  have r179 : GoTo p.tables e below s₁ (own_F_own_law m lq0 i2 i3) T173 (mkF m 389 #[.val (.long lq0), .second, .val (.int i2), .val (.int i3), .val (.long vv), .second, .val (.int ww), .val (.ref b5), .val (.int (Int32.ofNat (Jvm.Free.SBG.digitsL nn))), .val (.int (Int32.ofNat (cnt + (Jvm.Free.SBG.digitsL nn)))), .val (.ref x_157), .val (.int (Int32.ofNat pp)), .unset, .unset, .unset] [(.int (Int32.ofNat cnt))]) := Eq.mp (congrArg (fun zz_ => GoTo p.tables e below s₁ (own_F_own_law m lq0 i2 i3) T173 (mkF m 389 #[.val (.long lq0), .second, .val (.int i2), .val (.int i3), .val (.long vv), .second, .val (.int ww), .val (.ref b5), .val (.int (Int32.ofNat (Jvm.Free.SBG.digitsL nn))), .val (.int (Int32.ofNat (cnt + (Jvm.Free.SBG.digitsL nn)))), .val (.ref x_157), .val (.int (Int32.ofNat pp)), .unset, .unset, .unset] [(.int zz_)])) (show ((Int32.ofNat (cnt + (Jvm.Free.SBG.digitsL nn))) - (Int32.ofNat (Jvm.Free.SBG.digitsL nn))) = (Int32.ofNat cnt) from (by rw [own_subN (by omega)]; congr 1; omega))) r178
  have r180 : GoTo p.tables e below s₁ (own_F_own_law m lq0 i2 i3) T173 (mkF m 395 #[.val (.long lq0), .second, .val (.int i2), .val (.int i3), .val (.long vv), .second, .val (.int ww), .val (.ref b5), .val (.int (Int32.ofNat (Jvm.Free.SBG.digitsL nn))), .val (.int (Int32.ofNat (cnt + (Jvm.Free.SBG.digitsL nn)))), .val (.ref x_157), .val (.int (Int32.ofNat pp)), .val (.int (Int32.ofNat cnt)), .unset, .unset] [(.int (Int32.ofNat cnt)), (.int (Int32.ofNat pp))]) := fun tt_ kk_ => r179 tt_ (by
      show Steps p.tables e below (T173.setTop (mkF m 389 #[.val (.long lq0), .second, .val (.int i2), .val (.int i3), .val (.long vv), .second, .val (.int ww), .val (.ref b5), .val (.int (Int32.ofNat (Jvm.Free.SBG.digitsL nn))), .val (.int (Int32.ofNat (cnt + (Jvm.Free.SBG.digitsL nn)))), .val (.ref x_157), .val (.int (Int32.ofNat pp)), .unset, .unset, .unset] [(.int (Int32.ofNat cnt))])) _
      refine XS.istore X173.here hx rfl (hb hby at_389) rfl (l' := #[.val (.long lq0), .second, .val (.int i2), .val (.int i3), .val (.long vv), .second, .val (.int ww), .val (.ref b5), .val (.int (Int32.ofNat (Jvm.Free.SBG.digitsL nn))), .val (.int (Int32.ofNat (cnt + (Jvm.Free.SBG.digitsL nn)))), .val (.ref x_157), .val (.int (Int32.ofNat pp)), .val (.int (Int32.ofNat cnt)), .unset, .unset]) rfl ?_
      show Steps p.tables e below (T173.setTop (mkF m 391 #[.val (.long lq0), .second, .val (.int i2), .val (.int i3), .val (.long vv), .second, .val (.int ww), .val (.ref b5), .val (.int (Int32.ofNat (Jvm.Free.SBG.digitsL nn))), .val (.int (Int32.ofNat (cnt + (Jvm.Free.SBG.digitsL nn)))), .val (.ref x_157), .val (.int (Int32.ofNat pp)), .val (.int (Int32.ofNat cnt)), .unset, .unset] [])) _
      refine XS.iload X173.here hx rfl (hb hby at_391) rfl ?_
      show Steps p.tables e below (T173.setTop (mkF m 393 #[.val (.long lq0), .second, .val (.int i2), .val (.int i3), .val (.long vv), .second, .val (.int ww), .val (.ref b5), .val (.int (Int32.ofNat (Jvm.Free.SBG.digitsL nn))), .val (.int (Int32.ofNat (cnt + (Jvm.Free.SBG.digitsL nn)))), .val (.ref x_157), .val (.int (Int32.ofNat pp)), .val (.int (Int32.ofNat cnt)), .unset, .unset] [(.int (Int32.ofNat pp))])) _
      refine XS.iload X173.here hx rfl (hb hby at_393) rfl ?_
      show Steps p.tables e below (T173.setTop (mkF m 395 #[.val (.long lq0), .second, .val (.int i2), .val (.int i3), .val (.long vv), .second, .val (.int ww), .val (.ref b5), .val (.int (Int32.ofNat (Jvm.Free.SBG.digitsL nn))), .val (.int (Int32.ofNat (cnt + (Jvm.Free.SBG.digitsL nn)))), .val (.ref x_157), .val (.int (Int32.ofNat pp)), .val (.int (Int32.ofNat cnt)), .unset, .unset] [(.int (Int32.ofNat cnt)), (.int (Int32.ofNat pp))])) _
      exact kk_)
  by_cases hpc : pp < cnt
  · obtain ⟨Lg181, X181, N181⟩ : ∃ L' : List Loc, Stand p l e room_1 (s.setVm T157.vm) m #[(.long lq0), (.int i2), (.int i3)] below meth c T173 L' 13 739 ∧ Fr n0 L' := ⟨_, X173, N173⟩
    obtain ⟨cq182, kq182, qa182, qb182, qc182⟩ := isOf hZ hh173 po157_3.1
    obtain ⟨_, _, ⟨T182, L182, k182, n182⟩, -, X182, ⟨Lc182, hQ182, l182, y182, z182⟩, st182⟩ := X181.virtualBack hx (y := (⟨"java/lang/String", "charAt", "(I)C"⟩ : MethodName)) (z := (⟨"java/lang/String", "charAt", "(I)C"⟩ : MethodName)) hown (mvT hZ (hw _ (List.mem_of_getElem? (i := 184) rfl))) (mvT hZ (hw _ (List.mem_of_getElem? (i := 185) rfl))) (notFace_of_selects (args := #[]) (mvT hZ (hw _ (List.mem_of_getElem? (i := 187) rfl)))) (mvT hZ (hw _ (List.mem_of_getElem? (i := 187) rfl))) (mvT hZ (hw _ (List.mem_of_getElem? (i := 186) rfl))) (by decide) (backOf (W := 0) (own_chAt l Z a0 hw [] (x_157) (t_157) (kt_157) ((([] ++ List.replicate cnt (48 : Int32)) ++ own_decL nn)) (pp) (gCS) (gFM) T157.heap n0 (O170.keep K172 (allS g6 all0)) (po157_3) (by rw [hl]; exact hpl) (hp0) (hG1) (hp2) (hG3)) hZ (hw _ (List.mem_of_getElem? (i := 188) rfl)) (hw _ (List.mem_of_getElem? (i := 41) rfl)) (by decide) (by decide)) qa182 qc182 (g := (mkF m 437 #[.val (.long lq0), .second, .val (.int i2), .val (.int i3), .val (.long vv), .second, .val (.int ww), .val (.ref b5), .val (.int (Int32.ofNat (Jvm.Free.SBG.digitsL nn))), .val (.int (Int32.ofNat (cnt + (Jvm.Free.SBG.digitsL nn)))), .val (.ref x_157), .val (.int (Int32.ofNat pp)), .val (.int (Int32.ofNat cnt)), .val (.int (48 : Int32)), .unset] [(.int (Int32.ofNat pp)), (.ref x_157)])) rfl (by rw [hml]; rfl) (Steps.refl _) (argsL := [(.int (Int32.ofNat pp))]) (rest := []) (lenOf own_pd29 rfl) rfl (by show 2 * 0 + _ ≤ _; exact Nat.le_of_eq rfl) (hb hby at_437) (fun _ _ => ⟨rfl, hh173, (by decide : 13 + 0 ≤ _), (by decide : 739 + 0 ≤ _)⟩)
    dsimp only [Pt.U, Pt.locs, Pt.cells, Pt.slots] at X182 l182 y182 z182 st182 hQ182
    subst l182 y182 z182
    obtain ⟨rfl, Nq182, hh182⟩ := hQ182
    have N182 := Fr.app N181 Nq182
    have r183 : GoTo p.tables e below s₁ (own_F_own_law m lq0 i2 i3) T182 (mkF m 440 #[.val (.long lq0), .second, .val (.int i2), .val (.int i3), .val (.long vv), .second, .val (.int ww), .val (.ref b5), .val (.int (Int32.ofNat (Jvm.Free.SBG.digitsL nn))), .val (.int (Int32.ofNat (cnt + (Jvm.Free.SBG.digitsL nn)))), .val (.ref x_157), .val (.int (Int32.ofNat pp)), .val (.int (Int32.ofNat cnt)), .val (.int (48 : Int32)), .unset] [(.int ((([] ++ List.replicate cnt (48 : Int32)) ++ own_decL nn).getD pp 0))]) := fun tt_ kk_ => r180 tt_ (by
        show Steps p.tables e below (T173.setTop (mkF m 395 #[.val (.long lq0), .second, .val (.int i2), .val (.int i3), .val (.long vv), .second, .val (.int ww), .val (.ref b5), .val (.int (Int32.ofNat (Jvm.Free.SBG.digitsL nn))), .val (.int (Int32.ofNat (cnt + (Jvm.Free.SBG.digitsL nn)))), .val (.ref x_157), .val (.int (Int32.ofNat pp)), .val (.int (Int32.ofNat cnt)), .unset, .unset] [(.int (Int32.ofNat cnt)), (.int (Int32.ofNat pp))])) _
        refine XS.icmpNo X173.here hx rfl (hb hby at_395) rfl (tlt ((own_ltN (by omega) (by omega)).mpr hpc)).2.1 ?_
        show Steps p.tables e below (T173.setTop (mkF m 398 #[.val (.long lq0), .second, .val (.int i2), .val (.int i3), .val (.long vv), .second, .val (.int ww), .val (.ref b5), .val (.int (Int32.ofNat (Jvm.Free.SBG.digitsL nn))), .val (.int (Int32.ofNat (cnt + (Jvm.Free.SBG.digitsL nn)))), .val (.ref x_157), .val (.int (Int32.ofNat pp)), .val (.int (Int32.ofNat cnt)), .unset, .unset] [])) _
        refine XS.bipush X173.here hx rfl (hb hby at_398) ?_
        show Steps p.tables e below (T173.setTop (mkF m 400 #[.val (.long lq0), .second, .val (.int i2), .val (.int i3), .val (.long vv), .second, .val (.int ww), .val (.ref b5), .val (.int (Int32.ofNat (Jvm.Free.SBG.digitsL nn))), .val (.int (Int32.ofNat (cnt + (Jvm.Free.SBG.digitsL nn)))), .val (.ref x_157), .val (.int (Int32.ofNat pp)), .val (.int (Int32.ofNat cnt)), .unset, .unset] [(.int (48 : Int32))])) _
        refine XS.istore X173.here hx rfl (hb hby at_400) rfl (l' := #[.val (.long lq0), .second, .val (.int i2), .val (.int i3), .val (.long vv), .second, .val (.int ww), .val (.ref b5), .val (.int (Int32.ofNat (Jvm.Free.SBG.digitsL nn))), .val (.int (Int32.ofNat (cnt + (Jvm.Free.SBG.digitsL nn)))), .val (.ref x_157), .val (.int (Int32.ofNat pp)), .val (.int (Int32.ofNat cnt)), .val (.int (48 : Int32)), .unset]) rfl ?_
        show Steps p.tables e below (T173.setTop (mkF m 402 #[.val (.long lq0), .second, .val (.int i2), .val (.int i3), .val (.long vv), .second, .val (.int ww), .val (.ref b5), .val (.int (Int32.ofNat (Jvm.Free.SBG.digitsL nn))), .val (.int (Int32.ofNat (cnt + (Jvm.Free.SBG.digitsL nn)))), .val (.ref x_157), .val (.int (Int32.ofNat pp)), .val (.int (Int32.ofNat cnt)), .val (.int (48 : Int32)), .unset] [])) _
        refine XS.goto X173.here hx rfl (pc0 := 402) (pc' := 433) rfl (hb hby at_402) (by decide) (by decide) ?_
        show Steps p.tables e below (T173.setTop (mkF m 433 #[.val (.long lq0), .second, .val (.int i2), .val (.int i3), .val (.long vv), .second, .val (.int ww), .val (.ref b5), .val (.int (Int32.ofNat (Jvm.Free.SBG.digitsL nn))), .val (.int (Int32.ofNat (cnt + (Jvm.Free.SBG.digitsL nn)))), .val (.ref x_157), .val (.int (Int32.ofNat pp)), .val (.int (Int32.ofNat cnt)), .val (.int (48 : Int32)), .unset] [])) _
        refine XS.aload X173.here hx rfl (hb hby at_433) rfl rfl ?_
        show Steps p.tables e below (T173.setTop (mkF m 435 #[.val (.long lq0), .second, .val (.int i2), .val (.int i3), .val (.long vv), .second, .val (.int ww), .val (.ref b5), .val (.int (Int32.ofNat (Jvm.Free.SBG.digitsL nn))), .val (.int (Int32.ofNat (cnt + (Jvm.Free.SBG.digitsL nn)))), .val (.ref x_157), .val (.int (Int32.ofNat pp)), .val (.int (Int32.ofNat cnt)), .val (.int (48 : Int32)), .unset] [(.ref x_157)])) _
        refine XS.iload X173.here hx rfl (hb hby at_435) rfl ?_
        show Steps p.tables e below (T173.setTop (mkF m 437 #[.val (.long lq0), .second, .val (.int i2), .val (.int i3), .val (.long vv), .second, .val (.int ww), .val (.ref b5), .val (.int (Int32.ofNat (Jvm.Free.SBG.digitsL nn))), .val (.int (Int32.ofNat (cnt + (Jvm.Free.SBG.digitsL nn)))), .val (.ref x_157), .val (.int (Int32.ofNat pp)), .val (.int (Int32.ofNat cnt)), .val (.int (48 : Int32)), .unset] [(.int (Int32.ofNat pp)), (.ref x_157)])) _
        refine st182.trans ?_
        show Steps p.tables e below (T182.setTop (mkF m 440 #[.val (.long lq0), .second, .val (.int i2), .val (.int i3), .val (.long vv), .second, .val (.int ww), .val (.ref b5), .val (.int (Int32.ofNat (Jvm.Free.SBG.digitsL nn))), .val (.int (Int32.ofNat (cnt + (Jvm.Free.SBG.digitsL nn)))), .val (.ref x_157), .val (.int (Int32.ofNat pp)), .val (.int (Int32.ofNat cnt)), .val (.int (48 : Int32)), .unset] [(.int ((([] ++ List.replicate cnt (48 : Int32)) ++ own_decL nn).getD pp 0))])) _
        exact kk_)
    have r184 : GoTo p.tables e below s₁ (own_F_own_law m lq0 i2 i3) T182 (mkF m 440 #[.val (.long lq0), .second, .val (.int i2), .val (.int i3), .val (.long vv), .second, .val (.int ww), .val (.ref b5), .val (.int (Int32.ofNat (Jvm.Free.SBG.digitsL nn))), .val (.int (Int32.ofNat (cnt + (Jvm.Free.SBG.digitsL nn)))), .val (.ref x_157), .val (.int (Int32.ofNat pp)), .val (.int (Int32.ofNat cnt)), .val (.int (48 : Int32)), .unset] [(.int (48 : Int32))]) := Eq.mp (congrArg (fun zz_ => GoTo p.tables e below s₁ (own_F_own_law m lq0 i2 i3) T182 (mkF m 440 #[.val (.long lq0), .second, .val (.int i2), .val (.int i3), .val (.long vv), .second, .val (.int ww), .val (.ref b5), .val (.int (Int32.ofNat (Jvm.Free.SBG.digitsL nn))), .val (.int (Int32.ofNat (cnt + (Jvm.Free.SBG.digitsL nn)))), .val (.ref x_157), .val (.int (Int32.ofNat pp)), .val (.int (Int32.ofNat cnt)), .val (.int (48 : Int32)), .unset] [(.int zz_)])) (show ((([] ++ List.replicate cnt (48 : Int32)) ++ own_decL nn).getD pp 0) = (48 : Int32) from (own_padAt0 hpc))) r183
    obtain ⟨fs, hr, hrun, hended, hRW⟩ := Stand.leaveW (s := s) (vm₁ := T157.vm) X182 hSn157 (by rw [hh182]; exact (Nat.le_trans (Nat.le_refl _) K172.1)) (v := some (.int (nar .boolean (1 : Int32)))) (fun h => by rw [Bd.returns] at h; cases h)
    refine ⟨_, _, r184 _ ?_, hrun, hended, _, _, rfl, ?_, ⟨hRW.1, hRW.2.1, hRW.2.2.1, hRW.2.2.2.mono (by decide) (by decide)⟩⟩
    · show Steps p.tables e below (T182.setTop (mkF m 440 #[.val (.long lq0), .second, .val (.int i2), .val (.int i3), .val (.long vv), .second, .val (.int ww), .val (.ref b5), .val (.int (Int32.ofNat (Jvm.Free.SBG.digitsL nn))), .val (.int (Int32.ofNat (cnt + (Jvm.Free.SBG.digitsL nn)))), .val (.ref x_157), .val (.int (Int32.ofNat pp)), .val (.int (Int32.ofNat cnt)), .val (.int (48 : Int32)), .unset] [(.int (48 : Int32))])) _
      refine XS.iload X182.here hx rfl (hb hby at_440) rfl ?_
      show Steps p.tables e below (T182.setTop (mkF m 442 #[.val (.long lq0), .second, .val (.int i2), .val (.int i3), .val (.long vv), .second, .val (.int ww), .val (.ref b5), .val (.int (Int32.ofNat (Jvm.Free.SBG.digitsL nn))), .val (.int (Int32.ofNat (cnt + (Jvm.Free.SBG.digitsL nn)))), .val (.ref x_157), .val (.int (Int32.ofNat pp)), .val (.int (Int32.ofNat cnt)), .val (.int (48 : Int32)), .unset] [(.int (48 : Int32)), (.int (48 : Int32))])) _
      refine XS.icmpNo X182.here hx rfl (hb hby at_442) rfl (teq rfl).2 ?_
      show Steps p.tables e below (T182.setTop (mkF m 445 #[.val (.long lq0), .second, .val (.int i2), .val (.int i3), .val (.long vv), .second, .val (.int ww), .val (.ref b5), .val (.int (Int32.ofNat (Jvm.Free.SBG.digitsL nn))), .val (.int (Int32.ofNat (cnt + (Jvm.Free.SBG.digitsL nn)))), .val (.ref x_157), .val (.int (Int32.ofNat pp)), .val (.int (Int32.ofNat cnt)), .val (.int (48 : Int32)), .unset] [])) _
      refine XS.iconst X182.here hx rfl (hb hby at_445) ?_
      show Steps p.tables e below (T182.setTop (mkF m 446 #[.val (.long lq0), .second, .val (.int i2), .val (.int i3), .val (.long vv), .second, .val (.int ww), .val (.ref b5), .val (.int (Int32.ofNat (Jvm.Free.SBG.digitsL nn))), .val (.int (Int32.ofNat (cnt + (Jvm.Free.SBG.digitsL nn)))), .val (.ref x_157), .val (.int (Int32.ofNat pp)), .val (.int (Int32.ofNat cnt)), .val (.int (48 : Int32)), .unset] [(.int (1 : Int32))])) _
      refine XS.goto X182.here hx rfl (pc0 := 446) (pc' := 450) rfl (hb hby at_446) (by decide) (by decide) ?_
      show Steps p.tables e below (T182.setTop (mkF m 450 #[.val (.long lq0), .second, .val (.int i2), .val (.int i3), .val (.long vv), .second, .val (.int ww), .val (.ref b5), .val (.int (Int32.ofNat (Jvm.Free.SBG.digitsL nn))), .val (.int (Int32.ofNat (cnt + (Jvm.Free.SBG.digitsL nn)))), .val (.ref x_157), .val (.int (Int32.ofNat pp)), .val (.int (Int32.ofNat cnt)), .val (.int (48 : Int32)), .unset] [(.int (1 : Int32))])) _
      exact retN X182 hx (t := .boolean) Bd.returns (by simp) (hb hby at_450) hr
    · show Q_own_law Z lq0 i2 i3 gCS gFM ist dt1 dt2 cD1 cD2 h0 n0 _ T182.heap _
      rw [hh182]
      exact ⟨rfl, N182⟩
  · have r185 : GoTo p.tables e below s₁ (own_F_own_law m lq0 i2 i3) T173 (mkF m 409 #[.val (.long lq0), .second, .val (.int i2), .val (.int i3), .val (.long vv), .second, .val (.int ww), .val (.ref b5), .val (.int (Int32.ofNat (Jvm.Free.SBG.digitsL nn))), .val (.int (Int32.ofNat (cnt + (Jvm.Free.SBG.digitsL nn)))), .val (.ref x_157), .val (.int (Int32.ofNat pp)), .val (.int (Int32.ofNat cnt)), .unset, .unset] [(.int ((Int32.ofNat (cnt + (Jvm.Free.SBG.digitsL nn))) - (1 : Int32)))]) := fun tt_ kk_ => r180 tt_ (by
        show Steps p.tables e below (T173.setTop (mkF m 395 #[.val (.long lq0), .second, .val (.int i2), .val (.int i3), .val (.long vv), .second, .val (.int ww), .val (.ref b5), .val (.int (Int32.ofNat (Jvm.Free.SBG.digitsL nn))), .val (.int (Int32.ofNat (cnt + (Jvm.Free.SBG.digitsL nn)))), .val (.ref x_157), .val (.int (Int32.ofNat pp)), .val (.int (Int32.ofNat cnt)), .unset, .unset] [(.int (Int32.ofNat cnt)), (.int (Int32.ofNat pp))])) _
        refine XS.icmpYes X173.here hx rfl (pc0 := 395) (pc' := 405) rfl (hb hby at_395) rfl (flt (fun q => hpc ((own_ltN (by omega) (by omega)).mp q))).2.1 (by decide) (by decide) ?_
        show Steps p.tables e below (T173.setTop (mkF m 405 #[.val (.long lq0), .second, .val (.int i2), .val (.int i3), .val (.long vv), .second, .val (.int ww), .val (.ref b5), .val (.int (Int32.ofNat (Jvm.Free.SBG.digitsL nn))), .val (.int (Int32.ofNat (cnt + (Jvm.Free.SBG.digitsL nn)))), .val (.ref x_157), .val (.int (Int32.ofNat pp)), .val (.int (Int32.ofNat cnt)), .unset, .unset] [])) _
        refine XS.iload X173.here hx rfl (hb hby at_405) rfl ?_
        show Steps p.tables e below (T173.setTop (mkF m 407 #[.val (.long lq0), .second, .val (.int i2), .val (.int i3), .val (.long vv), .second, .val (.int ww), .val (.ref b5), .val (.int (Int32.ofNat (Jvm.Free.SBG.digitsL nn))), .val (.int (Int32.ofNat (cnt + (Jvm.Free.SBG.digitsL nn)))), .val (.ref x_157), .val (.int (Int32.ofNat pp)), .val (.int (Int32.ofNat cnt)), .unset, .unset] [(.int (Int32.ofNat (cnt + (Jvm.Free.SBG.digitsL nn))))])) _
        refine XS.iconst X173.here hx rfl (hb hby at_407) ?_
        show Steps p.tables e below (T173.setTop (mkF m 408 #[.val (.long lq0), .second, .val (.int i2), .val (.int i3), .val (.long vv), .second, .val (.int ww), .val (.ref b5), .val (.int (Int32.ofNat (Jvm.Free.SBG.digitsL nn))), .val (.int (Int32.ofNat (cnt + (Jvm.Free.SBG.digitsL nn)))), .val (.ref x_157), .val (.int (Int32.ofNat pp)), .val (.int (Int32.ofNat cnt)), .unset, .unset] [(.int (1 : Int32)), (.int (Int32.ofNat (cnt + (Jvm.Free.SBG.digitsL nn))))])) _
        refine XS.isub X173.here hx rfl (hb hby at_408) rfl ?_
        show Steps p.tables e below (T173.setTop (mkF m 409 #[.val (.long lq0), .second, .val (.int i2), .val (.int i3), .val (.long vv), .second, .val (.int ww), .val (.ref b5), .val (.int (Int32.ofNat (Jvm.Free.SBG.digitsL nn))), .val (.int (Int32.ofNat (cnt + (Jvm.Free.SBG.digitsL nn)))), .val (.ref x_157), .val (.int (Int32.ofNat pp)), .val (.int (Int32.ofNat cnt)), .unset, .unset] [(.int ((Int32.ofNat (cnt + (Jvm.Free.SBG.digitsL nn))) - (1 : Int32)))])) _
        exact kk_)
    have r186 : GoTo p.tables e below s₁ (own_F_own_law m lq0 i2 i3) T173 (mkF m 409 #[.val (.long lq0), .second, .val (.int i2), .val (.int i3), .val (.long vv), .second, .val (.int ww), .val (.ref b5), .val (.int (Int32.ofNat (Jvm.Free.SBG.digitsL nn))), .val (.int (Int32.ofNat (cnt + (Jvm.Free.SBG.digitsL nn)))), .val (.ref x_157), .val (.int (Int32.ofNat pp)), .val (.int (Int32.ofNat cnt)), .unset, .unset] [(.int (Int32.ofNat ((cnt + (Jvm.Free.SBG.digitsL nn)) - 1)))]) := Eq.mp (congrArg (fun zz_ => GoTo p.tables e below s₁ (own_F_own_law m lq0 i2 i3) T173 (mkF m 409 #[.val (.long lq0), .second, .val (.int i2), .val (.int i3), .val (.long vv), .second, .val (.int ww), .val (.ref b5), .val (.int (Int32.ofNat (Jvm.Free.SBG.digitsL nn))), .val (.int (Int32.ofNat (cnt + (Jvm.Free.SBG.digitsL nn)))), .val (.ref x_157), .val (.int (Int32.ofNat pp)), .val (.int (Int32.ofNat cnt)), .unset, .unset] [(.int zz_)])) (show ((Int32.ofNat (cnt + (Jvm.Free.SBG.digitsL nn))) - (1 : Int32)) = (Int32.ofNat ((cnt + (Jvm.Free.SBG.digitsL nn)) - 1)) from (own_subN (b := 1) (by omega)))) r185
    have r187 : GoTo p.tables e below s₁ (own_F_own_law m lq0 i2 i3) T173 (mkF m 412 #[.val (.long lq0), .second, .val (.int i2), .val (.int i3), .val (.long vv), .second, .val (.int ww), .val (.ref b5), .val (.int (Int32.ofNat (Jvm.Free.SBG.digitsL nn))), .val (.int (Int32.ofNat (cnt + (Jvm.Free.SBG.digitsL nn)))), .val (.ref x_157), .val (.int (Int32.ofNat pp)), .val (.int (Int32.ofNat cnt)), .unset, .unset] [(.int ((Int32.ofNat ((cnt + (Jvm.Free.SBG.digitsL nn)) - 1)) - (Int32.ofNat pp)))]) := fun tt_ kk_ => r186 tt_ (by
        show Steps p.tables e below (T173.setTop (mkF m 409 #[.val (.long lq0), .second, .val (.int i2), .val (.int i3), .val (.long vv), .second, .val (.int ww), .val (.ref b5), .val (.int (Int32.ofNat (Jvm.Free.SBG.digitsL nn))), .val (.int (Int32.ofNat (cnt + (Jvm.Free.SBG.digitsL nn)))), .val (.ref x_157), .val (.int (Int32.ofNat pp)), .val (.int (Int32.ofNat cnt)), .unset, .unset] [(.int (Int32.ofNat ((cnt + (Jvm.Free.SBG.digitsL nn)) - 1)))])) _
        refine XS.iload X173.here hx rfl (hb hby at_409) rfl ?_
        show Steps p.tables e below (T173.setTop (mkF m 411 #[.val (.long lq0), .second, .val (.int i2), .val (.int i3), .val (.long vv), .second, .val (.int ww), .val (.ref b5), .val (.int (Int32.ofNat (Jvm.Free.SBG.digitsL nn))), .val (.int (Int32.ofNat (cnt + (Jvm.Free.SBG.digitsL nn)))), .val (.ref x_157), .val (.int (Int32.ofNat pp)), .val (.int (Int32.ofNat cnt)), .unset, .unset] [(.int (Int32.ofNat pp)), (.int (Int32.ofNat ((cnt + (Jvm.Free.SBG.digitsL nn)) - 1)))])) _
        refine XS.isub X173.here hx rfl (hb hby at_411) rfl ?_
        show Steps p.tables e below (T173.setTop (mkF m 412 #[.val (.long lq0), .second, .val (.int i2), .val (.int i3), .val (.long vv), .second, .val (.int ww), .val (.ref b5), .val (.int (Int32.ofNat (Jvm.Free.SBG.digitsL nn))), .val (.int (Int32.ofNat (cnt + (Jvm.Free.SBG.digitsL nn)))), .val (.ref x_157), .val (.int (Int32.ofNat pp)), .val (.int (Int32.ofNat cnt)), .unset, .unset] [(.int ((Int32.ofNat ((cnt + (Jvm.Free.SBG.digitsL nn)) - 1)) - (Int32.ofNat pp)))])) _
        exact kk_)
    have r188 : GoTo p.tables e below s₁ (own_F_own_law m lq0 i2 i3) T173 (mkF m 412 #[.val (.long lq0), .second, .val (.int i2), .val (.int i3), .val (.long vv), .second, .val (.int ww), .val (.ref b5), .val (.int (Int32.ofNat (Jvm.Free.SBG.digitsL nn))), .val (.int (Int32.ofNat (cnt + (Jvm.Free.SBG.digitsL nn)))), .val (.ref x_157), .val (.int (Int32.ofNat pp)), .val (.int (Int32.ofNat cnt)), .unset, .unset] [(.int (Int32.ofNat ((cnt + (Jvm.Free.SBG.digitsL nn)) - 1 - pp)))]) := Eq.mp (congrArg (fun zz_ => GoTo p.tables e below s₁ (own_F_own_law m lq0 i2 i3) T173 (mkF m 412 #[.val (.long lq0), .second, .val (.int i2), .val (.int i3), .val (.long vv), .second, .val (.int ww), .val (.ref b5), .val (.int (Int32.ofNat (Jvm.Free.SBG.digitsL nn))), .val (.int (Int32.ofNat (cnt + (Jvm.Free.SBG.digitsL nn)))), .val (.ref x_157), .val (.int (Int32.ofNat pp)), .val (.int (Int32.ofNat cnt)), .unset, .unset] [(.int zz_)])) (show ((Int32.ofNat ((cnt + (Jvm.Free.SBG.digitsL nn)) - 1)) - (Int32.ofNat pp)) = (Int32.ofNat ((cnt + (Jvm.Free.SBG.digitsL nn)) - 1 - pp)) from (own_subN (by omega)))) r187
    have he : ((cnt + (Jvm.Free.SBG.digitsL nn)) - 1 - pp) ≤ 18 := by omega
    have f189 : Arv Z T157.heap b5 k5 .long (19 : Int32) [(.long (1 : Int64)), (.long (10 : Int64)), (.long (100 : Int64)), (.long (1000 : Int64)), (.long (10000 : Int64)), (.long (100000 : Int64)), (.long (1000000 : Int64)), (.long (10000000 : Int64)), (.long (100000000 : Int64)), (.long (1000000000 : Int64)), (.long (10000000000 : Int64)), (.long (100000000000 : Int64)), (.long (1000000000000 : Int64)), (.long (10000000000000 : Int64)), (.long (100000000000000 : Int64)), (.long (1000000000000000 : Int64)), (.long (10000000000000000 : Int64)), (.long (100000000000000000 : Int64)), (.long (1000000000000000000 : Int64))] (.long (0 : Int64)) := (V64.keep Kq157 nin0)
    obtain ⟨cl190, Ar190, q190, S190, NN190, H190, G190⟩ := id f189
    have hin190 : ¬ ((Int32.ofNat ((cnt + (Jvm.Free.SBG.digitsL nn)) - 1 - pp)) < 0 ∨ cl190.slots.size ≤ ((Int32.ofNat ((cnt + (Jvm.Free.SBG.digitsL nn)) - 1 - pp))).toNatClampNeg) := inb_of S190 ⟨own_negN (by omega), (own_ltN (b := 19) (by omega) (by decide)).mpr (by omega)⟩
    have hp10 := own_p10le he
    have hdv : nn / 10 ^ ((cnt + (Jvm.Free.SBG.digitsL nn)) - 1 - pp) ≤ nn := Nat.div_le_self _ _
    have r191 : GoTo p.tables e below s₁ (own_F_own_law m lq0 i2 i3) T173 (mkF m 424 #[.val (.long lq0), .second, .val (.int i2), .val (.int i3), .val (.long vv), .second, .val (.int ww), .val (.ref b5), .val (.int (Int32.ofNat (Jvm.Free.SBG.digitsL nn))), .val (.int (Int32.ofNat (cnt + (Jvm.Free.SBG.digitsL nn)))), .val (.ref x_157), .val (.int (Int32.ofNat pp)), .val (.int (Int32.ofNat cnt)), .unset, .val (.int (Int32.ofNat ((cnt + (Jvm.Free.SBG.digitsL nn)) - 1 - pp)))] [(.long (vv / (Int64.ofNat (10 ^ ((cnt + (Jvm.Free.SBG.digitsL nn)) - 1 - pp))))), (.int (48 : Int32))]) := fun tt_ kk_ => r188 tt_ (by
        show Steps p.tables e below (T173.setTop (mkF m 412 #[.val (.long lq0), .second, .val (.int i2), .val (.int i3), .val (.long vv), .second, .val (.int ww), .val (.ref b5), .val (.int (Int32.ofNat (Jvm.Free.SBG.digitsL nn))), .val (.int (Int32.ofNat (cnt + (Jvm.Free.SBG.digitsL nn)))), .val (.ref x_157), .val (.int (Int32.ofNat pp)), .val (.int (Int32.ofNat cnt)), .unset, .unset] [(.int (Int32.ofNat ((cnt + (Jvm.Free.SBG.digitsL nn)) - 1 - pp)))])) _
        refine XS.istore X173.here hx rfl (hb hby at_412) rfl (l' := #[.val (.long lq0), .second, .val (.int i2), .val (.int i3), .val (.long vv), .second, .val (.int ww), .val (.ref b5), .val (.int (Int32.ofNat (Jvm.Free.SBG.digitsL nn))), .val (.int (Int32.ofNat (cnt + (Jvm.Free.SBG.digitsL nn)))), .val (.ref x_157), .val (.int (Int32.ofNat pp)), .val (.int (Int32.ofNat cnt)), .unset, .val (.int (Int32.ofNat ((cnt + (Jvm.Free.SBG.digitsL nn)) - 1 - pp)))]) rfl ?_
        show Steps p.tables e below (T173.setTop (mkF m 414 #[.val (.long lq0), .second, .val (.int i2), .val (.int i3), .val (.long vv), .second, .val (.int ww), .val (.ref b5), .val (.int (Int32.ofNat (Jvm.Free.SBG.digitsL nn))), .val (.int (Int32.ofNat (cnt + (Jvm.Free.SBG.digitsL nn)))), .val (.ref x_157), .val (.int (Int32.ofNat pp)), .val (.int (Int32.ofNat cnt)), .unset, .val (.int (Int32.ofNat ((cnt + (Jvm.Free.SBG.digitsL nn)) - 1 - pp)))] [])) _
        refine XS.bipush X173.here hx rfl (hb hby at_414) ?_
        show Steps p.tables e below (T173.setTop (mkF m 416 #[.val (.long lq0), .second, .val (.int i2), .val (.int i3), .val (.long vv), .second, .val (.int ww), .val (.ref b5), .val (.int (Int32.ofNat (Jvm.Free.SBG.digitsL nn))), .val (.int (Int32.ofNat (cnt + (Jvm.Free.SBG.digitsL nn)))), .val (.ref x_157), .val (.int (Int32.ofNat pp)), .val (.int (Int32.ofNat cnt)), .unset, .val (.int (Int32.ofNat ((cnt + (Jvm.Free.SBG.digitsL nn)) - 1 - pp)))] [(.int (48 : Int32))])) _
        refine XS.lload X173.here hx rfl (hb hby at_416) rfl ?_
        show Steps p.tables e below (T173.setTop (mkF m 418 #[.val (.long lq0), .second, .val (.int i2), .val (.int i3), .val (.long vv), .second, .val (.int ww), .val (.ref b5), .val (.int (Int32.ofNat (Jvm.Free.SBG.digitsL nn))), .val (.int (Int32.ofNat (cnt + (Jvm.Free.SBG.digitsL nn)))), .val (.ref x_157), .val (.int (Int32.ofNat pp)), .val (.int (Int32.ofNat cnt)), .unset, .val (.int (Int32.ofNat ((cnt + (Jvm.Free.SBG.digitsL nn)) - 1 - pp)))] [(.long vv), (.int (48 : Int32))])) _
        refine XS.aload X173.here hx rfl (hb hby at_418) rfl rfl ?_
        show Steps p.tables e below (T173.setTop (mkF m 420 #[.val (.long lq0), .second, .val (.int i2), .val (.int i3), .val (.long vv), .second, .val (.int ww), .val (.ref b5), .val (.int (Int32.ofNat (Jvm.Free.SBG.digitsL nn))), .val (.int (Int32.ofNat (cnt + (Jvm.Free.SBG.digitsL nn)))), .val (.ref x_157), .val (.int (Int32.ofNat pp)), .val (.int (Int32.ofNat cnt)), .unset, .val (.int (Int32.ofNat ((cnt + (Jvm.Free.SBG.digitsL nn)) - 1 - pp)))] [(.ref b5), (.long vv), (.int (48 : Int32))])) _
        refine XS.iload X173.here hx rfl (hb hby at_420) rfl ?_
        show Steps p.tables e below (T173.setTop (mkF m 422 #[.val (.long lq0), .second, .val (.int i2), .val (.int i3), .val (.long vv), .second, .val (.int ww), .val (.ref b5), .val (.int (Int32.ofNat (Jvm.Free.SBG.digitsL nn))), .val (.int (Int32.ofNat (cnt + (Jvm.Free.SBG.digitsL nn)))), .val (.ref x_157), .val (.int (Int32.ofNat pp)), .val (.int (Int32.ofNat cnt)), .unset, .val (.int (Int32.ofNat ((cnt + (Jvm.Free.SBG.digitsL nn)) - 1 - pp)))] [(.int (Int32.ofNat ((cnt + (Jvm.Free.SBG.digitsL nn)) - 1 - pp))), (.ref b5), (.long vv), (.int (48 : Int32))])) _
        refine X173.laload hx (j := (Int32.ofNat ((cnt + (Jvm.Free.SBG.digitsL nn)) - 1 - pp))) (v := (.long (Int64.ofNat (10 ^ ((cnt + (Jvm.Free.SBG.digitsL nn)) - 1 - pp))))) (by rw [hh173]; exact Ar190.1) (State.isArrayOf_alike hZ.alike Ar190.2.1) Ar190.2.2 hin190 (Has.at H190 hin190 (by rw [own_clamp (by omega)]; exact own_p10L _ (by omega))) (g := (mkF m 422 #[.val (.long lq0), .second, .val (.int i2), .val (.int i3), .val (.long vv), .second, .val (.int ww), .val (.ref b5), .val (.int (Int32.ofNat (Jvm.Free.SBG.digitsL nn))), .val (.int (Int32.ofNat (cnt + (Jvm.Free.SBG.digitsL nn)))), .val (.ref x_157), .val (.int (Int32.ofNat pp)), .val (.int (Int32.ofNat cnt)), .unset, .val (.int (Int32.ofNat ((cnt + (Jvm.Free.SBG.digitsL nn)) - 1 - pp)))] [(.int (Int32.ofNat ((cnt + (Jvm.Free.SBG.digitsL nn)) - 1 - pp))), (.ref b5), (.long vv), (.int (48 : Int32))])) rfl rfl (hb hby at_422) _ ?_
        show Steps p.tables e below (T173.setTop (mkF m 423 #[.val (.long lq0), .second, .val (.int i2), .val (.int i3), .val (.long vv), .second, .val (.int ww), .val (.ref b5), .val (.int (Int32.ofNat (Jvm.Free.SBG.digitsL nn))), .val (.int (Int32.ofNat (cnt + (Jvm.Free.SBG.digitsL nn)))), .val (.ref x_157), .val (.int (Int32.ofNat pp)), .val (.int (Int32.ofNat cnt)), .unset, .val (.int (Int32.ofNat ((cnt + (Jvm.Free.SBG.digitsL nn)) - 1 - pp)))] [(.long (Int64.ofNat (10 ^ ((cnt + (Jvm.Free.SBG.digitsL nn)) - 1 - pp)))), (.long vv), (.int (48 : Int32))])) _
        refine XS.ldiv X173.here hx rfl (hb hby at_423) rfl (own_lnz (Nat.pow_pos (by decide)) hp10) ?_
        show Steps p.tables e below (T173.setTop (mkF m 424 #[.val (.long lq0), .second, .val (.int i2), .val (.int i3), .val (.long vv), .second, .val (.int ww), .val (.ref b5), .val (.int (Int32.ofNat (Jvm.Free.SBG.digitsL nn))), .val (.int (Int32.ofNat (cnt + (Jvm.Free.SBG.digitsL nn)))), .val (.ref x_157), .val (.int (Int32.ofNat pp)), .val (.int (Int32.ofNat cnt)), .unset, .val (.int (Int32.ofNat ((cnt + (Jvm.Free.SBG.digitsL nn)) - 1 - pp)))] [(.long (vv / (Int64.ofNat (10 ^ ((cnt + (Jvm.Free.SBG.digitsL nn)) - 1 - pp))))), (.int (48 : Int32))])) _
        exact kk_)
    have r192 : GoTo p.tables e below s₁ (own_F_own_law m lq0 i2 i3) T173 (mkF m 424 #[.val (.long lq0), .second, .val (.int i2), .val (.int i3), .val (.long vv), .second, .val (.int ww), .val (.ref b5), .val (.int (Int32.ofNat (Jvm.Free.SBG.digitsL nn))), .val (.int (Int32.ofNat (cnt + (Jvm.Free.SBG.digitsL nn)))), .val (.ref x_157), .val (.int (Int32.ofNat pp)), .val (.int (Int32.ofNat cnt)), .unset, .val (.int (Int32.ofNat ((cnt + (Jvm.Free.SBG.digitsL nn)) - 1 - pp)))] [(.long (Int64.ofNat (nn / 10 ^ ((cnt + (Jvm.Free.SBG.digitsL nn)) - 1 - pp)))), (.int (48 : Int32))]) := Eq.mp (congrArg (fun zz_ => GoTo p.tables e below s₁ (own_F_own_law m lq0 i2 i3) T173 (mkF m 424 #[.val (.long lq0), .second, .val (.int i2), .val (.int i3), .val (.long vv), .second, .val (.int ww), .val (.ref b5), .val (.int (Int32.ofNat (Jvm.Free.SBG.digitsL nn))), .val (.int (Int32.ofNat (cnt + (Jvm.Free.SBG.digitsL nn)))), .val (.ref x_157), .val (.int (Int32.ofNat pp)), .val (.int (Int32.ofNat cnt)), .unset, .val (.int (Int32.ofNat ((cnt + (Jvm.Free.SBG.digitsL nn)) - 1 - pp)))] [(.long zz_), (.int (48 : Int32))])) (show (vv / (Int64.ofNat (10 ^ ((cnt + (Jvm.Free.SBG.digitsL nn)) - 1 - pp)))) = (Int64.ofNat (nn / 10 ^ ((cnt + (Jvm.Free.SBG.digitsL nn)) - 1 - pp))) from (own_ldiv hvn hp10 (Nat.pow_pos (by decide))))) r191
    have r193 : GoTo p.tables e below s₁ (own_F_own_law m lq0 i2 i3) T173 (mkF m 428 #[.val (.long lq0), .second, .val (.int i2), .val (.int i3), .val (.long vv), .second, .val (.int ww), .val (.ref b5), .val (.int (Int32.ofNat (Jvm.Free.SBG.digitsL nn))), .val (.int (Int32.ofNat (cnt + (Jvm.Free.SBG.digitsL nn)))), .val (.ref x_157), .val (.int (Int32.ofNat pp)), .val (.int (Int32.ofNat cnt)), .unset, .val (.int (Int32.ofNat ((cnt + (Jvm.Free.SBG.digitsL nn)) - 1 - pp)))] [(.long ((Int64.ofNat (nn / 10 ^ ((cnt + (Jvm.Free.SBG.digitsL nn)) - 1 - pp))) % (10 : Int64))), (.int (48 : Int32))]) := fun tt_ kk_ => r192 tt_ (by
        show Steps p.tables e below (T173.setTop (mkF m 424 #[.val (.long lq0), .second, .val (.int i2), .val (.int i3), .val (.long vv), .second, .val (.int ww), .val (.ref b5), .val (.int (Int32.ofNat (Jvm.Free.SBG.digitsL nn))), .val (.int (Int32.ofNat (cnt + (Jvm.Free.SBG.digitsL nn)))), .val (.ref x_157), .val (.int (Int32.ofNat pp)), .val (.int (Int32.ofNat cnt)), .unset, .val (.int (Int32.ofNat ((cnt + (Jvm.Free.SBG.digitsL nn)) - 1 - pp)))] [(.long (Int64.ofNat (nn / 10 ^ ((cnt + (Jvm.Free.SBG.digitsL nn)) - 1 - pp)))), (.int (48 : Int32))])) _
        refine X173.ldc2J hx hown (mvT hZ (hw _ (List.mem_of_getElem? (i := 2) rfl))) rfl (hb hby at_424) ?_
        show Steps p.tables e below (T173.setTop (mkF m 427 #[.val (.long lq0), .second, .val (.int i2), .val (.int i3), .val (.long vv), .second, .val (.int ww), .val (.ref b5), .val (.int (Int32.ofNat (Jvm.Free.SBG.digitsL nn))), .val (.int (Int32.ofNat (cnt + (Jvm.Free.SBG.digitsL nn)))), .val (.ref x_157), .val (.int (Int32.ofNat pp)), .val (.int (Int32.ofNat cnt)), .unset, .val (.int (Int32.ofNat ((cnt + (Jvm.Free.SBG.digitsL nn)) - 1 - pp)))] [(.long (10 : Int64)), (.long (Int64.ofNat (nn / 10 ^ ((cnt + (Jvm.Free.SBG.digitsL nn)) - 1 - pp)))), (.int (48 : Int32))])) _
        refine own_lrem X173 hx rfl (hb hby at_427) rfl (by decide) ?_
        show Steps p.tables e below (T173.setTop (mkF m 428 #[.val (.long lq0), .second, .val (.int i2), .val (.int i3), .val (.long vv), .second, .val (.int ww), .val (.ref b5), .val (.int (Int32.ofNat (Jvm.Free.SBG.digitsL nn))), .val (.int (Int32.ofNat (cnt + (Jvm.Free.SBG.digitsL nn)))), .val (.ref x_157), .val (.int (Int32.ofNat pp)), .val (.int (Int32.ofNat cnt)), .unset, .val (.int (Int32.ofNat ((cnt + (Jvm.Free.SBG.digitsL nn)) - 1 - pp)))] [(.long ((Int64.ofNat (nn / 10 ^ ((cnt + (Jvm.Free.SBG.digitsL nn)) - 1 - pp))) % (10 : Int64))), (.int (48 : Int32))])) _
        exact kk_)
    have r194 : GoTo p.tables e below s₁ (own_F_own_law m lq0 i2 i3) T173 (mkF m 428 #[.val (.long lq0), .second, .val (.int i2), .val (.int i3), .val (.long vv), .second, .val (.int ww), .val (.ref b5), .val (.int (Int32.ofNat (Jvm.Free.SBG.digitsL nn))), .val (.int (Int32.ofNat (cnt + (Jvm.Free.SBG.digitsL nn)))), .val (.ref x_157), .val (.int (Int32.ofNat pp)), .val (.int (Int32.ofNat cnt)), .unset, .val (.int (Int32.ofNat ((cnt + (Jvm.Free.SBG.digitsL nn)) - 1 - pp)))] [(.long (Int64.ofNat (nn / 10 ^ ((cnt + (Jvm.Free.SBG.digitsL nn)) - 1 - pp) % 10))), (.int (48 : Int32))]) := Eq.mp (congrArg (fun zz_ => GoTo p.tables e below s₁ (own_F_own_law m lq0 i2 i3) T173 (mkF m 428 #[.val (.long lq0), .second, .val (.int i2), .val (.int i3), .val (.long vv), .second, .val (.int ww), .val (.ref b5), .val (.int (Int32.ofNat (Jvm.Free.SBG.digitsL nn))), .val (.int (Int32.ofNat (cnt + (Jvm.Free.SBG.digitsL nn)))), .val (.ref x_157), .val (.int (Int32.ofNat pp)), .val (.int (Int32.ofNat cnt)), .unset, .val (.int (Int32.ofNat ((cnt + (Jvm.Free.SBG.digitsL nn)) - 1 - pp)))] [(.long zz_), (.int (48 : Int32))])) (show ((Int64.ofNat (nn / 10 ^ ((cnt + (Jvm.Free.SBG.digitsL nn)) - 1 - pp))) % (10 : Int64)) = (Int64.ofNat (nn / 10 ^ ((cnt + (Jvm.Free.SBG.digitsL nn)) - 1 - pp) % 10)) from (own_lmod (k := 10) (by omega) (by decide)))) r193
    have r195 : GoTo p.tables e below s₁ (own_F_own_law m lq0 i2 i3) T173 (mkF m 429 #[.val (.long lq0), .second, .val (.int i2), .val (.int i3), .val (.long vv), .second, .val (.int ww), .val (.ref b5), .val (.int (Int32.ofNat (Jvm.Free.SBG.digitsL nn))), .val (.int (Int32.ofNat (cnt + (Jvm.Free.SBG.digitsL nn)))), .val (.ref x_157), .val (.int (Int32.ofNat pp)), .val (.int (Int32.ofNat cnt)), .unset, .val (.int (Int32.ofNat ((cnt + (Jvm.Free.SBG.digitsL nn)) - 1 - pp)))] [(.int ((Int64.ofNat (nn / 10 ^ ((cnt + (Jvm.Free.SBG.digitsL nn)) - 1 - pp) % 10)).toInt32)), (.int (48 : Int32))]) := fun tt_ kk_ => r194 tt_ (by
        show Steps p.tables e below (T173.setTop (mkF m 428 #[.val (.long lq0), .second, .val (.int i2), .val (.int i3), .val (.long vv), .second, .val (.int ww), .val (.ref b5), .val (.int (Int32.ofNat (Jvm.Free.SBG.digitsL nn))), .val (.int (Int32.ofNat (cnt + (Jvm.Free.SBG.digitsL nn)))), .val (.ref x_157), .val (.int (Int32.ofNat pp)), .val (.int (Int32.ofNat cnt)), .unset, .val (.int (Int32.ofNat ((cnt + (Jvm.Free.SBG.digitsL nn)) - 1 - pp)))] [(.long (Int64.ofNat (nn / 10 ^ ((cnt + (Jvm.Free.SBG.digitsL nn)) - 1 - pp) % 10))), (.int (48 : Int32))])) _
        refine XS.l2i X173.here hx rfl (hb hby at_428) rfl ?_
        show Steps p.tables e below (T173.setTop (mkF m 429 #[.val (.long lq0), .second, .val (.int i2), .val (.int i3), .val (.long vv), .second, .val (.int ww), .val (.ref b5), .val (.int (Int32.ofNat (Jvm.Free.SBG.digitsL nn))), .val (.int (Int32.ofNat (cnt + (Jvm.Free.SBG.digitsL nn)))), .val (.ref x_157), .val (.int (Int32.ofNat pp)), .val (.int (Int32.ofNat cnt)), .unset, .val (.int (Int32.ofNat ((cnt + (Jvm.Free.SBG.digitsL nn)) - 1 - pp)))] [(.int ((Int64.ofNat (nn / 10 ^ ((cnt + (Jvm.Free.SBG.digitsL nn)) - 1 - pp) % 10)).toInt32)), (.int (48 : Int32))])) _
        exact kk_)
    have r196 : GoTo p.tables e below s₁ (own_F_own_law m lq0 i2 i3) T173 (mkF m 429 #[.val (.long lq0), .second, .val (.int i2), .val (.int i3), .val (.long vv), .second, .val (.int ww), .val (.ref b5), .val (.int (Int32.ofNat (Jvm.Free.SBG.digitsL nn))), .val (.int (Int32.ofNat (cnt + (Jvm.Free.SBG.digitsL nn)))), .val (.ref x_157), .val (.int (Int32.ofNat pp)), .val (.int (Int32.ofNat cnt)), .unset, .val (.int (Int32.ofNat ((cnt + (Jvm.Free.SBG.digitsL nn)) - 1 - pp)))] [(.int (Int32.ofNat (nn / 10 ^ ((cnt + (Jvm.Free.SBG.digitsL nn)) - 1 - pp) % 10))), (.int (48 : Int32))]) := Eq.mp (congrArg (fun zz_ => GoTo p.tables e below s₁ (own_F_own_law m lq0 i2 i3) T173 (mkF m 429 #[.val (.long lq0), .second, .val (.int i2), .val (.int i3), .val (.long vv), .second, .val (.int ww), .val (.ref b5), .val (.int (Int32.ofNat (Jvm.Free.SBG.digitsL nn))), .val (.int (Int32.ofNat (cnt + (Jvm.Free.SBG.digitsL nn)))), .val (.ref x_157), .val (.int (Int32.ofNat pp)), .val (.int (Int32.ofNat cnt)), .unset, .val (.int (Int32.ofNat ((cnt + (Jvm.Free.SBG.digitsL nn)) - 1 - pp)))] [(.int zz_), (.int (48 : Int32))])) (show ((Int64.ofNat (nn / 10 ^ ((cnt + (Jvm.Free.SBG.digitsL nn)) - 1 - pp) % 10)).toInt32) = (Int32.ofNat (nn / 10 ^ ((cnt + (Jvm.Free.SBG.digitsL nn)) - 1 - pp) % 10)) from (own_l2i (by omega)))) r195
    have r197 : GoTo p.tables e below s₁ (own_F_own_law m lq0 i2 i3) T173 (mkF m 431 #[.val (.long lq0), .second, .val (.int i2), .val (.int i3), .val (.long vv), .second, .val (.int ww), .val (.ref b5), .val (.int (Int32.ofNat (Jvm.Free.SBG.digitsL nn))), .val (.int (Int32.ofNat (cnt + (Jvm.Free.SBG.digitsL nn)))), .val (.ref x_157), .val (.int (Int32.ofNat pp)), .val (.int (Int32.ofNat cnt)), .unset, .val (.int (Int32.ofNat ((cnt + (Jvm.Free.SBG.digitsL nn)) - 1 - pp)))] [(.int (((48 : Int32) + (Int32.ofNat (nn / 10 ^ ((cnt + (Jvm.Free.SBG.digitsL nn)) - 1 - pp) % 10))).toUInt32.toUInt16.toUInt32.toInt32))]) := fun tt_ kk_ => r196 tt_ (by
        show Steps p.tables e below (T173.setTop (mkF m 429 #[.val (.long lq0), .second, .val (.int i2), .val (.int i3), .val (.long vv), .second, .val (.int ww), .val (.ref b5), .val (.int (Int32.ofNat (Jvm.Free.SBG.digitsL nn))), .val (.int (Int32.ofNat (cnt + (Jvm.Free.SBG.digitsL nn)))), .val (.ref x_157), .val (.int (Int32.ofNat pp)), .val (.int (Int32.ofNat cnt)), .unset, .val (.int (Int32.ofNat ((cnt + (Jvm.Free.SBG.digitsL nn)) - 1 - pp)))] [(.int (Int32.ofNat (nn / 10 ^ ((cnt + (Jvm.Free.SBG.digitsL nn)) - 1 - pp) % 10))), (.int (48 : Int32))])) _
        refine XS.iadd X173.here hx rfl (hb hby at_429) rfl ?_
        show Steps p.tables e below (T173.setTop (mkF m 430 #[.val (.long lq0), .second, .val (.int i2), .val (.int i3), .val (.long vv), .second, .val (.int ww), .val (.ref b5), .val (.int (Int32.ofNat (Jvm.Free.SBG.digitsL nn))), .val (.int (Int32.ofNat (cnt + (Jvm.Free.SBG.digitsL nn)))), .val (.ref x_157), .val (.int (Int32.ofNat pp)), .val (.int (Int32.ofNat cnt)), .unset, .val (.int (Int32.ofNat ((cnt + (Jvm.Free.SBG.digitsL nn)) - 1 - pp)))] [(.int ((48 : Int32) + (Int32.ofNat (nn / 10 ^ ((cnt + (Jvm.Free.SBG.digitsL nn)) - 1 - pp) % 10))))])) _
        refine XS.i2c X173.here hx rfl (hb hby at_430) rfl ?_
        show Steps p.tables e below (T173.setTop (mkF m 431 #[.val (.long lq0), .second, .val (.int i2), .val (.int i3), .val (.long vv), .second, .val (.int ww), .val (.ref b5), .val (.int (Int32.ofNat (Jvm.Free.SBG.digitsL nn))), .val (.int (Int32.ofNat (cnt + (Jvm.Free.SBG.digitsL nn)))), .val (.ref x_157), .val (.int (Int32.ofNat pp)), .val (.int (Int32.ofNat cnt)), .unset, .val (.int (Int32.ofNat ((cnt + (Jvm.Free.SBG.digitsL nn)) - 1 - pp)))] [(.int (((48 : Int32) + (Int32.ofNat (nn / 10 ^ ((cnt + (Jvm.Free.SBG.digitsL nn)) - 1 - pp) % 10))).toUInt32.toUInt16.toUInt32.toInt32))])) _
        exact kk_)
    have r198 : GoTo p.tables e below s₁ (own_F_own_law m lq0 i2 i3) T173 (mkF m 431 #[.val (.long lq0), .second, .val (.int i2), .val (.int i3), .val (.long vv), .second, .val (.int ww), .val (.ref b5), .val (.int (Int32.ofNat (Jvm.Free.SBG.digitsL nn))), .val (.int (Int32.ofNat (cnt + (Jvm.Free.SBG.digitsL nn)))), .val (.ref x_157), .val (.int (Int32.ofNat pp)), .val (.int (Int32.ofNat cnt)), .unset, .val (.int (Int32.ofNat ((cnt + (Jvm.Free.SBG.digitsL nn)) - 1 - pp)))] [(.int (Int32.ofNat (48 + nn / 10 ^ ((cnt + (Jvm.Free.SBG.digitsL nn)) - 1 - pp) % 10)))]) := Eq.mp (congrArg (fun zz_ => GoTo p.tables e below s₁ (own_F_own_law m lq0 i2 i3) T173 (mkF m 431 #[.val (.long lq0), .second, .val (.int i2), .val (.int i3), .val (.long vv), .second, .val (.int ww), .val (.ref b5), .val (.int (Int32.ofNat (Jvm.Free.SBG.digitsL nn))), .val (.int (Int32.ofNat (cnt + (Jvm.Free.SBG.digitsL nn)))), .val (.ref x_157), .val (.int (Int32.ofNat pp)), .val (.int (Int32.ofNat cnt)), .unset, .val (.int (Int32.ofNat ((cnt + (Jvm.Free.SBG.digitsL nn)) - 1 - pp)))] [(.int zz_)])) (show (((48 : Int32) + (Int32.ofNat (nn / 10 ^ ((cnt + (Jvm.Free.SBG.digitsL nn)) - 1 - pp) % 10))).toUInt32.toUInt16.toUInt32.toInt32) = (Int32.ofNat (48 + nn / 10 ^ ((cnt + (Jvm.Free.SBG.digitsL nn)) - 1 - pp) % 10)) from (own_dch _ (by omega)))) r197
    obtain ⟨cq199, kq199, qa199, qb199, qc199⟩ := isOf hZ hh173 po157_3.1
    obtain ⟨_, _, ⟨T199, L199, k199, n199⟩, -, X199, ⟨Lc199, hQ199, l199, y199, z199⟩, st199⟩ := X173.virtualBack hx (y := (⟨"java/lang/String", "charAt", "(I)C"⟩ : MethodName)) (z := (⟨"java/lang/String", "charAt", "(I)C"⟩ : MethodName)) hown (mvT hZ (hw _ (List.mem_of_getElem? (i := 184) rfl))) (mvT hZ (hw _ (List.mem_of_getElem? (i := 185) rfl))) (notFace_of_selects (args := #[]) (mvT hZ (hw _ (List.mem_of_getElem? (i := 187) rfl)))) (mvT hZ (hw _ (List.mem_of_getElem? (i := 187) rfl))) (mvT hZ (hw _ (List.mem_of_getElem? (i := 186) rfl))) (by decide) (backOf (W := 0) (own_chAt l Z a0 hw [] (x_157) (t_157) (kt_157) ((([] ++ List.replicate cnt (48 : Int32)) ++ own_decL nn)) (pp) (gCS) (gFM) T157.heap n0 (O170.keep K172 (allS g6 all0)) (po157_3) (by rw [hl]; exact hpl) (hp0) (hG1) (hp2) (hG3)) hZ (hw _ (List.mem_of_getElem? (i := 188) rfl)) (hw _ (List.mem_of_getElem? (i := 41) rfl)) (by decide) (by decide)) qa199 qc199 (g := (mkF m 437 #[.val (.long lq0), .second, .val (.int i2), .val (.int i3), .val (.long vv), .second, .val (.int ww), .val (.ref b5), .val (.int (Int32.ofNat (Jvm.Free.SBG.digitsL nn))), .val (.int (Int32.ofNat (cnt + (Jvm.Free.SBG.digitsL nn)))), .val (.ref x_157), .val (.int (Int32.ofNat pp)), .val (.int (Int32.ofNat cnt)), .val (.int (Int32.ofNat (48 + nn / 10 ^ ((cnt + (Jvm.Free.SBG.digitsL nn)) - 1 - pp) % 10))), .val (.int (Int32.ofNat ((cnt + (Jvm.Free.SBG.digitsL nn)) - 1 - pp)))] [(.int (Int32.ofNat pp)), (.ref x_157)])) rfl (by rw [hml]; rfl) (Steps.refl _) (argsL := [(.int (Int32.ofNat pp))]) (rest := []) (lenOf own_pd29 rfl) rfl (by show 2 * 0 + _ ≤ _; exact Nat.le_of_eq rfl) (hb hby at_437) (fun _ _ => ⟨rfl, hh173, (by decide : 13 + 0 ≤ _), (by decide : 739 + 0 ≤ _)⟩)
    dsimp only [Pt.U, Pt.locs, Pt.cells, Pt.slots] at X199 l199 y199 z199 st199 hQ199
    subst l199 y199 z199
    obtain ⟨rfl, Nq199, hh199⟩ := hQ199
    have N199 := Fr.app N173 Nq199
    have r200 : GoTo p.tables e below s₁ (own_F_own_law m lq0 i2 i3) T199 (mkF m 440 #[.val (.long lq0), .second, .val (.int i2), .val (.int i3), .val (.long vv), .second, .val (.int ww), .val (.ref b5), .val (.int (Int32.ofNat (Jvm.Free.SBG.digitsL nn))), .val (.int (Int32.ofNat (cnt + (Jvm.Free.SBG.digitsL nn)))), .val (.ref x_157), .val (.int (Int32.ofNat pp)), .val (.int (Int32.ofNat cnt)), .val (.int (Int32.ofNat (48 + nn / 10 ^ ((cnt + (Jvm.Free.SBG.digitsL nn)) - 1 - pp) % 10))), .val (.int (Int32.ofNat ((cnt + (Jvm.Free.SBG.digitsL nn)) - 1 - pp)))] [(.int ((([] ++ List.replicate cnt (48 : Int32)) ++ own_decL nn).getD pp 0))]) := fun tt_ kk_ => r198 tt_ (by
        show Steps p.tables e below (T173.setTop (mkF m 431 #[.val (.long lq0), .second, .val (.int i2), .val (.int i3), .val (.long vv), .second, .val (.int ww), .val (.ref b5), .val (.int (Int32.ofNat (Jvm.Free.SBG.digitsL nn))), .val (.int (Int32.ofNat (cnt + (Jvm.Free.SBG.digitsL nn)))), .val (.ref x_157), .val (.int (Int32.ofNat pp)), .val (.int (Int32.ofNat cnt)), .unset, .val (.int (Int32.ofNat ((cnt + (Jvm.Free.SBG.digitsL nn)) - 1 - pp)))] [(.int (Int32.ofNat (48 + nn / 10 ^ ((cnt + (Jvm.Free.SBG.digitsL nn)) - 1 - pp) % 10)))])) _
        refine XS.istore X173.here hx rfl (hb hby at_431) rfl (l' := #[.val (.long lq0), .second, .val (.int i2), .val (.int i3), .val (.long vv), .second, .val (.int ww), .val (.ref b5), .val (.int (Int32.ofNat (Jvm.Free.SBG.digitsL nn))), .val (.int (Int32.ofNat (cnt + (Jvm.Free.SBG.digitsL nn)))), .val (.ref x_157), .val (.int (Int32.ofNat pp)), .val (.int (Int32.ofNat cnt)), .val (.int (Int32.ofNat (48 + nn / 10 ^ ((cnt + (Jvm.Free.SBG.digitsL nn)) - 1 - pp) % 10))), .val (.int (Int32.ofNat ((cnt + (Jvm.Free.SBG.digitsL nn)) - 1 - pp)))]) rfl ?_
        show Steps p.tables e below (T173.setTop (mkF m 433 #[.val (.long lq0), .second, .val (.int i2), .val (.int i3), .val (.long vv), .second, .val (.int ww), .val (.ref b5), .val (.int (Int32.ofNat (Jvm.Free.SBG.digitsL nn))), .val (.int (Int32.ofNat (cnt + (Jvm.Free.SBG.digitsL nn)))), .val (.ref x_157), .val (.int (Int32.ofNat pp)), .val (.int (Int32.ofNat cnt)), .val (.int (Int32.ofNat (48 + nn / 10 ^ ((cnt + (Jvm.Free.SBG.digitsL nn)) - 1 - pp) % 10))), .val (.int (Int32.ofNat ((cnt + (Jvm.Free.SBG.digitsL nn)) - 1 - pp)))] [])) _
        refine XS.aload X173.here hx rfl (hb hby at_433) rfl rfl ?_
        show Steps p.tables e below (T173.setTop (mkF m 435 #[.val (.long lq0), .second, .val (.int i2), .val (.int i3), .val (.long vv), .second, .val (.int ww), .val (.ref b5), .val (.int (Int32.ofNat (Jvm.Free.SBG.digitsL nn))), .val (.int (Int32.ofNat (cnt + (Jvm.Free.SBG.digitsL nn)))), .val (.ref x_157), .val (.int (Int32.ofNat pp)), .val (.int (Int32.ofNat cnt)), .val (.int (Int32.ofNat (48 + nn / 10 ^ ((cnt + (Jvm.Free.SBG.digitsL nn)) - 1 - pp) % 10))), .val (.int (Int32.ofNat ((cnt + (Jvm.Free.SBG.digitsL nn)) - 1 - pp)))] [(.ref x_157)])) _
        refine XS.iload X173.here hx rfl (hb hby at_435) rfl ?_
        show Steps p.tables e below (T173.setTop (mkF m 437 #[.val (.long lq0), .second, .val (.int i2), .val (.int i3), .val (.long vv), .second, .val (.int ww), .val (.ref b5), .val (.int (Int32.ofNat (Jvm.Free.SBG.digitsL nn))), .val (.int (Int32.ofNat (cnt + (Jvm.Free.SBG.digitsL nn)))), .val (.ref x_157), .val (.int (Int32.ofNat pp)), .val (.int (Int32.ofNat cnt)), .val (.int (Int32.ofNat (48 + nn / 10 ^ ((cnt + (Jvm.Free.SBG.digitsL nn)) - 1 - pp) % 10))), .val (.int (Int32.ofNat ((cnt + (Jvm.Free.SBG.digitsL nn)) - 1 - pp)))] [(.int (Int32.ofNat pp)), (.ref x_157)])) _
        refine st199.trans ?_
        show Steps p.tables e below (T199.setTop (mkF m 440 #[.val (.long lq0), .second, .val (.int i2), .val (.int i3), .val (.long vv), .second, .val (.int ww), .val (.ref b5), .val (.int (Int32.ofNat (Jvm.Free.SBG.digitsL nn))), .val (.int (Int32.ofNat (cnt + (Jvm.Free.SBG.digitsL nn)))), .val (.ref x_157), .val (.int (Int32.ofNat pp)), .val (.int (Int32.ofNat cnt)), .val (.int (Int32.ofNat (48 + nn / 10 ^ ((cnt + (Jvm.Free.SBG.digitsL nn)) - 1 - pp) % 10))), .val (.int (Int32.ofNat ((cnt + (Jvm.Free.SBG.digitsL nn)) - 1 - pp)))] [(.int ((([] ++ List.replicate cnt (48 : Int32)) ++ own_decL nn).getD pp 0))])) _
        exact kk_)
    have r201 : GoTo p.tables e below s₁ (own_F_own_law m lq0 i2 i3) T199 (mkF m 440 #[.val (.long lq0), .second, .val (.int i2), .val (.int i3), .val (.long vv), .second, .val (.int ww), .val (.ref b5), .val (.int (Int32.ofNat (Jvm.Free.SBG.digitsL nn))), .val (.int (Int32.ofNat (cnt + (Jvm.Free.SBG.digitsL nn)))), .val (.ref x_157), .val (.int (Int32.ofNat pp)), .val (.int (Int32.ofNat cnt)), .val (.int (Int32.ofNat (48 + nn / 10 ^ ((cnt + (Jvm.Free.SBG.digitsL nn)) - 1 - pp) % 10))), .val (.int (Int32.ofNat ((cnt + (Jvm.Free.SBG.digitsL nn)) - 1 - pp)))] [(.int (Int32.ofNat (48 + nn / 10 ^ ((cnt + (Jvm.Free.SBG.digitsL nn)) - 1 - pp) % 10)))]) := Eq.mp (congrArg (fun zz_ => GoTo p.tables e below s₁ (own_F_own_law m lq0 i2 i3) T199 (mkF m 440 #[.val (.long lq0), .second, .val (.int i2), .val (.int i3), .val (.long vv), .second, .val (.int ww), .val (.ref b5), .val (.int (Int32.ofNat (Jvm.Free.SBG.digitsL nn))), .val (.int (Int32.ofNat (cnt + (Jvm.Free.SBG.digitsL nn)))), .val (.ref x_157), .val (.int (Int32.ofNat pp)), .val (.int (Int32.ofNat cnt)), .val (.int (Int32.ofNat (48 + nn / 10 ^ ((cnt + (Jvm.Free.SBG.digitsL nn)) - 1 - pp) % 10))), .val (.int (Int32.ofNat ((cnt + (Jvm.Free.SBG.digitsL nn)) - 1 - pp)))] [(.int zz_)])) (show ((([] ++ List.replicate cnt (48 : Int32)) ++ own_decL nn).getD pp 0) = (Int32.ofNat (48 + nn / 10 ^ ((cnt + (Jvm.Free.SBG.digitsL nn)) - 1 - pp) % 10)) from (own_padAt hn63 hpl))) r200
    obtain ⟨fs, hr, hrun, hended, hRW⟩ := Stand.leaveW (s := s) (vm₁ := T157.vm) X199 hSn157 (by rw [hh199]; exact (Nat.le_trans (Nat.le_refl _) K172.1)) (v := some (.int (nar .boolean (1 : Int32)))) (fun h => by rw [Bd.returns] at h; cases h)
    refine ⟨_, _, r201 _ ?_, hrun, hended, _, _, rfl, ?_, ⟨hRW.1, hRW.2.1, hRW.2.2.1, hRW.2.2.2.mono (by decide) (by decide)⟩⟩
    · show Steps p.tables e below (T199.setTop (mkF m 440 #[.val (.long lq0), .second, .val (.int i2), .val (.int i3), .val (.long vv), .second, .val (.int ww), .val (.ref b5), .val (.int (Int32.ofNat (Jvm.Free.SBG.digitsL nn))), .val (.int (Int32.ofNat (cnt + (Jvm.Free.SBG.digitsL nn)))), .val (.ref x_157), .val (.int (Int32.ofNat pp)), .val (.int (Int32.ofNat cnt)), .val (.int (Int32.ofNat (48 + nn / 10 ^ ((cnt + (Jvm.Free.SBG.digitsL nn)) - 1 - pp) % 10))), .val (.int (Int32.ofNat ((cnt + (Jvm.Free.SBG.digitsL nn)) - 1 - pp)))] [(.int (Int32.ofNat (48 + nn / 10 ^ ((cnt + (Jvm.Free.SBG.digitsL nn)) - 1 - pp) % 10)))])) _
      refine XS.iload X199.here hx rfl (hb hby at_440) rfl ?_
      show Steps p.tables e below (T199.setTop (mkF m 442 #[.val (.long lq0), .second, .val (.int i2), .val (.int i3), .val (.long vv), .second, .val (.int ww), .val (.ref b5), .val (.int (Int32.ofNat (Jvm.Free.SBG.digitsL nn))), .val (.int (Int32.ofNat (cnt + (Jvm.Free.SBG.digitsL nn)))), .val (.ref x_157), .val (.int (Int32.ofNat pp)), .val (.int (Int32.ofNat cnt)), .val (.int (Int32.ofNat (48 + nn / 10 ^ ((cnt + (Jvm.Free.SBG.digitsL nn)) - 1 - pp) % 10))), .val (.int (Int32.ofNat ((cnt + (Jvm.Free.SBG.digitsL nn)) - 1 - pp)))] [(.int (Int32.ofNat (48 + nn / 10 ^ ((cnt + (Jvm.Free.SBG.digitsL nn)) - 1 - pp) % 10))), (.int (Int32.ofNat (48 + nn / 10 ^ ((cnt + (Jvm.Free.SBG.digitsL nn)) - 1 - pp) % 10)))])) _
      refine XS.icmpNo X199.here hx rfl (hb hby at_442) rfl (teq rfl).2 ?_
      show Steps p.tables e below (T199.setTop (mkF m 445 #[.val (.long lq0), .second, .val (.int i2), .val (.int i3), .val (.long vv), .second, .val (.int ww), .val (.ref b5), .val (.int (Int32.ofNat (Jvm.Free.SBG.digitsL nn))), .val (.int (Int32.ofNat (cnt + (Jvm.Free.SBG.digitsL nn)))), .val (.ref x_157), .val (.int (Int32.ofNat pp)), .val (.int (Int32.ofNat cnt)), .val (.int (Int32.ofNat (48 + nn / 10 ^ ((cnt + (Jvm.Free.SBG.digitsL nn)) - 1 - pp) % 10))), .val (.int (Int32.ofNat ((cnt + (Jvm.Free.SBG.digitsL nn)) - 1 - pp)))] [])) _
      refine XS.iconst X199.here hx rfl (hb hby at_445) ?_
      show Steps p.tables e below (T199.setTop (mkF m 446 #[.val (.long lq0), .second, .val (.int i2), .val (.int i3), .val (.long vv), .second, .val (.int ww), .val (.ref b5), .val (.int (Int32.ofNat (Jvm.Free.SBG.digitsL nn))), .val (.int (Int32.ofNat (cnt + (Jvm.Free.SBG.digitsL nn)))), .val (.ref x_157), .val (.int (Int32.ofNat pp)), .val (.int (Int32.ofNat cnt)), .val (.int (Int32.ofNat (48 + nn / 10 ^ ((cnt + (Jvm.Free.SBG.digitsL nn)) - 1 - pp) % 10))), .val (.int (Int32.ofNat ((cnt + (Jvm.Free.SBG.digitsL nn)) - 1 - pp)))] [(.int (1 : Int32))])) _
      refine XS.goto X199.here hx rfl (pc0 := 446) (pc' := 450) rfl (hb hby at_446) (by decide) (by decide) ?_
      show Steps p.tables e below (T199.setTop (mkF m 450 #[.val (.long lq0), .second, .val (.int i2), .val (.int i3), .val (.long vv), .second, .val (.int ww), .val (.ref b5), .val (.int (Int32.ofNat (Jvm.Free.SBG.digitsL nn))), .val (.int (Int32.ofNat (cnt + (Jvm.Free.SBG.digitsL nn)))), .val (.ref x_157), .val (.int (Int32.ofNat pp)), .val (.int (Int32.ofNat cnt)), .val (.int (Int32.ofNat (48 + nn / 10 ^ ((cnt + (Jvm.Free.SBG.digitsL nn)) - 1 - pp) % 10))), .val (.int (Int32.ofNat ((cnt + (Jvm.Free.SBG.digitsL nn)) - 1 - pp)))] [(.int (1 : Int32))])) _
      exact retN X199 hx (t := .boolean) Bd.returns (by simp) (hb hby at_450) hr
    · show Q_own_law Z lq0 i2 i3 gCS gFM ist dt1 dt2 cD1 cD2 h0 n0 _ T199.heap _
      rw [hh199]
      exact ⟨rfl, N199⟩
set_option maxRecDepth 65536 in
set_option maxHeartbeats 40000000 in
theorem comes_1 {Post : Tables → Env → Array Value → State → Outcome → State → Prop} (hpost : ∀ tb e args s v u, (limb_1_1.after args s (.returned v) u = true ∧ limb_1_2.after args s (.returned v) u = true ∧ True) → ReturnedEndW s (.returned v) u (Jvm.fieldLocs frame_1_writes args s ++ Jvm.arrayLocs frame_1_arrays args s ++ Jvm.staticLocs frame_1_statics s) 40 2688 → Post tb e args s (.returned v) u) :
    ArmFor flags0 classFile x code maxLocals ret World_1 tables_1 room_1 Calls_1 rest_1 Pre_1 Post := by
  intro l hfl _ _ p e ha hc hk s m args below hf hA hF happ hP
  obtain ⟨hcalls, hrest, hpre⟩ := hP
  obtain ⟨-, -, -, hnamed, -, -, -, hat⟩ := (Spec.applies_iff hf).mp happ
  obtain ⟨hg, hn⟩ := and_e (Cond.before_iff.mp (show (Jvm.Cond.and given_1 narrow_1).before args s = true from hpre))
  obtain ⟨g0, g1⟩ := and_e hg
  obtain ⟨g1, g2⟩ := and_e g1
  obtain ⟨g2, g3⟩ := and_e g2
  obtain ⟨w0, w1, w2, rfl⟩ : ∃ (w0 : Value) (w1 : Value) (w2 : Value), args = #[w0, w1, w2] := by
    have hs : args.size = 3 := by simpa [Cond.value, given_1] using g0
    obtain ⟨L⟩ := args
    match L, hs with
    | [w0, w1, w2], _ => exact ⟨w0, w1, w2, rfl⟩
  have hw := fun d (hd : d ∈ tables_1) => atoms_spec (ws := Jvm.Cond.code x code maxLocals ret :: tables_1) hat d (List.mem_cons_of_mem _ hd)
  obtain ⟨hsets, hown0⟩ := atoms_of _ (rest_1_c_eq ▸ (show rest_1_c.before _ s = true from hrest))
  have hfit : Fit s := fun {y c} hc i hi => by
    obtain ⟨ha, rfl⟩ := Array.getElem?_eq_some_iff.mp hc
    have q := List.all_eq_true.mp ((Array.all_eq_true_iff_forall_mem.mp hF) _ (Array.getElem_mem ha)) i (List.mem_range.mpr hi)
    simpa [Array.getElem?_eq_getElem hi] using q
  obtain ⟨i0, ev0⟩ := isL_v g1
  obtain rfl : w0 = (.long i0) := Option.some.inj ev0
  obtain ⟨i1, ev1⟩ := is_v g2
  obtain rfl : w1 = (.int i1) := Option.some.inj ev1
  obtain ⟨i2, ev2⟩ := is_v g3
  obtain rfl : w2 = (.int i2) := Option.some.inj ev2
  obtain ⟨G1, eG1⟩ := is_v (Cond.before_iff.mp (hsets _ (List.mem_of_getElem? (i := 1) rfl)))
  have S_CS : Sta s s.heap "java/lang/String" "COMPACT_STRINGS" "Z" (.int G1) := Sta.start eG1 (Or.inl (hsets _ (List.mem_of_getElem? (i := 0) rfl)))
  have nG1 := not_v (Cond.before_iff.mp (hsets _ (List.mem_of_getElem? (i := 2) rfl)))
  have hG1 : ¬ (G1 = (0 : Int32)) := gotF (Cond.eq_ints eG1 (Term.int_eval (0))) nG1
  obtain ⟨G3, eG3, hG3⟩ := isR_v (Cond.before_iff.mp (hsets _ (List.mem_of_getElem? (i := 8) rfl)))
  have S_FM : Sta s s.heap "jdk/internal/util/Preconditions" "SIOOBE_FORMATTER" "Ljava/util/function/BiFunction;" G3 := Sta.start eG3 (Or.inl (hsets _ (List.mem_of_getElem? (i := 7) rfl)))
  obtain ⟨ist, dt1, D1, dt2, D2, hT1, hO1, hT2, hO2⟩ := Jvm.SetKit.digits_of hfit (hw _ (List.mem_of_getElem? (i := 42) rfl)) (hsets _ (List.mem_of_getElem? (i := 9) rfl)) (hsets _ (List.mem_of_getElem? (i := 10) rfl)) (hsets _ (List.mem_of_getElem? (i := 12) rfl)) (hsets _ (List.mem_of_getElem? (i := 13) rfl)) (hsets _ (List.mem_of_getElem? (i := 14) rfl)) (hsets _ (List.mem_of_getElem? (i := 15) rfl)) (hsets _ (List.mem_of_getElem? (i := 17) rfl)) (hsets _ (List.mem_of_getElem? (i := 18) rfl)) (hsets _ (List.mem_of_getElem? (i := 19) rfl))
  obtain ⟨_, _, _, _, cS1, -, -, -, -, hs1, -, -, hD1, -⟩ := id hT1
  obtain ⟨_, _, _, _, cS2, -, -, -, -, hs2, -, -, hD2, -⟩ := id hT2
  have hELs : EW s _ consts_1 := (EW.cons (hw _ (List.mem_of_getElem? (i := 80) rfl)) (by first | decide | decide +kernel) (EW.cons (hw _ (List.mem_of_getElem? (i := 209) rfl)) (by first | decide | decide +kernel) EW.nil))
  obtain ⟨n, o, h1, h2, h3, _, L, rfl, ⟨rfl, N⟩, hq⟩ := own_law l s _ hw tables_1 i0 i1 i2 G1 G3 ist dt1 dt2 D1 D2 s.heap s.heap.size (Old.start s) S_CS hG1 S_FM hG3 hT1 hT2 hO1 hO2 (Array.getElem?_eq_some_iff.mp hs1).1 (Array.getElem?_eq_some_iff.mp hD1).1 (Array.getElem?_eq_some_iff.mp hD2).1 hD1 hD2 hELs p e ha hc hk s m _ below hf ((Spec.applies_iff_loose hf).mp happ).1 ⟨rfl, State.Warmed39.refl s, rfl, CHv.start hELs (fun p hp => hcalls.1 p hp) (hsets _ (List.mem_of_getElem? (i := 2) rfl)) (hw _ (List.mem_of_getElem? (i := 42) rfl)) (hw _ (List.mem_of_getElem? (i := 50) rfl))⟩ trivial
  refine ⟨n, _, h1, h2, h3, hpost _ _ _ _ _ _ ⟨Cond.after_iff.mpr rfl, Cond.after_iff.mpr (eq_i res_at (Term.int_eval (1)) rfl), trivial⟩ ⟨hq.1, hq.2.1, hq.2.2.1, (hq.2.2.2.sift fun y hy => Or.inr (N y hy)).mono (by decide) (by decide)⟩⟩
theorem main_1_1 : Claimed_1_1 := comes_1 fun _ _ _ _ _ _ h hF => ⟨h.1, hF⟩
theorem main_1_2 : Claimed_1_2 := comes_1 fun _ _ _ _ _ _ h hF => ⟨h.2.1, hF⟩
end Jvm.Pilot.@@N@@
namespace Jvm.Pilot.@@N@@
open Jvm Jvm.ClassFile Sem Op Lib Jvm.Free Jvm.Stand Jvm.Pilot.@@N@@.Jvm.D
/-! MADE BY PROGRAM (witnessworld.py) out of the Statement's table words and the real class files: 29 classes; the members and pool entries that the words name. The judged class is class 1, her method 2. -/
namespace start1
open Jvm.ClassFile
def u (s : String) : CpInfo := .utf8 (stringToUtf16 s)
/-- a pool by its gaps: so many unusable entries, then the entry; so many at the end -/
def gap : Nat → List CpInfo → List CpInfo
  | 0, r => r
  | n + 1, r => .unusable :: gap n r
def poolList (es : List (Nat × CpInfo)) (last : Nat) : List CpInfo := es.foldr (fun e r => gap e.1 (e.2 :: r)) (gap last [])
def pool (es : List (Nat × CpInfo)) (last : Nat) : Array CpInfo := ⟨poolList es last⟩
def fileOf (pool : Array CpInfo) (this : Nat) (attrs : Array Attribute := #[]) (ms : Array MethodInfo := #[]) (fl : Nat := 33) (sup : Nat := 0) (ifs : Array Nat := #[]) (fds : Array FieldInfo := #[]) : ClassFile where
  minorVersion := 0
  majorVersion := 65
  constantPool := pool
  accessFlags := fl
  thisClass := this
  superClass := sup
  interfaces := ifs
  fields := fds
  methods := ms
  attributes := attrs
def plain (name : String) (sup : Option ClassId) : Class where
  name := name
  kind := .ordinary
  loader := none
  accessFlags := 33
  super := sup
  interfaces := #[]
  cf := none
  fields := #[]
  methods := #[]
  instanceTypes := #[]
  staticTypes := #[]
  resolved := #[]
  callSites := []
  init := .initialized
  statics := none
  mirror := none

def pool0 : Array CpInfo := pool [(5, u "<init>"), (0, u "()V"), (1, .class_ 10), (1, u "java/lang/Object"), (85, u "clone"), (0, u "()Ljava/lang/Object;")] 26

def k0c0 : Code := { maxStack := 0, maxLocals := 1, code := object_method_1_code, exceptionTable := #[], attributes := #[] }
def k0m0 : Method := { name := "<init>", desc := "()V", sig := { parameters := [], returnType := none }, accessFlags := 1, code := some k0c0 }
def k0m1 : Method := { name := "clone", desc := "()Ljava/lang/Object;", sig := { parameters := [], returnType := some (.object "java/lang/Object") }, accessFlags := 260, code := none }
/-- java/lang/Object -/
def k0 : Class := { plain "java/lang/Object" none with
  accessFlags := 33
  interfaces := #[]
  cf := some (fileOf pool0 8 #[] #[{ accessFlags := 1, nameIndex := 5, descriptorIndex := 6, attributes := #[] }, { accessFlags := 260, nameIndex := 96, descriptorIndex := 97, attributes := #[] }] 33 0 #[] #[])
  fields := #[]
  methods := #[k0m0, k0m1]
  instanceTypes := #[]
  staticTypes := #[]
  resolved := Array.replicate 124 none
  statics := none }

def pool1 : Array CpInfo := pool [(2, .class_ 4), (1, u "java/lang/Object"), (0, u "<init>"), (0, u "()V"), (2, .long 9223372036854775807), (1, .long 10), (1, .long 100), (1, .long 1000), (1, .long 10000), (1, .long 100000), (1, .long 1000000), (1, .long 10000000), (1, .long 100000000), (1, .long 1000000000), (1, .long 10000000000), (1, .long 100000000000), (1, .long 1000000000000), (1, .long 10000000000000), (1, .long 100000000000000), (1, .long 1000000000000000), (1, .long 10000000000000000), (1, .long 100000000000000000), (1, .long 1000000000000000000), (1, .methodref 48 49), (0, .class_ 50), (0, .nameAndType 51 52), (0, u "com/example/uketsuke/uketsuke/store/IdFormatDigitsPinLaw"), (0, u "ge"), (0, u "(JJ)I"), (0, .methodref 54 55), (0, .class_ 56), (0, .nameAndType 57 58), (0, u "java/lang/Math"), (0, u "max"), (0, u "(II)I"), (0, .methodref 60 61), (0, .class_ 62), (0, .nameAndType 63 64), (0, u "com/example/uketsuke/uketsuke/store/IdFormat"), (0, u "digits"), (0, u "(JI)Ljava/lang/String;"), (0, .methodref 66 67), (0, .class_ 68), (0, .nameAndType 69 70), (0, u "java/lang/String"), (0, u "length"), (0, u "()I"), (0, .integer 2147483647), (0, .methodref 66 73), (0, .nameAndType 74 75), (0, u "charAt"), (0, u "(I)C"), (3, u "law"), (0, u "(JII)Z")] 4

def k1m0 : Method := { name := "<init>", desc := "()V", sig := { parameters := [], returnType := none }, accessFlags := 1, code := none }
def k1c1 : Code := { maxStack := 4, maxLocals := 4, code := method_2_code, exceptionTable := #[], attributes := #[] }
def k1m1 : Method := { name := "ge", desc := "(JJ)I", sig := { parameters := [.long, .long], returnType := some .int }, accessFlags := 10, code := some k1c1 }
def k1c2 : Code := { maxStack := 5, maxLocals := 15, code := code, exceptionTable := #[], attributes := #[] }
def k1m2 : Method := { name := "law", desc := "(JII)Z", sig := { parameters := [.long, .int, .int], returnType := some .boolean }, accessFlags := 9, code := some k1c2 }
/-- com/example/uketsuke/uketsuke/store/IdFormatDigitsPinLaw -/
def k1 : Class := { plain "com/example/uketsuke/uketsuke/store/IdFormatDigitsPinLaw" (some 0) with
  accessFlags := 49
  interfaces := #[]
  cf := some (fileOf pool1 48 #[] #[{ accessFlags := 1, nameIndex := 5, descriptorIndex := 6, attributes := #[] }, { accessFlags := 10, nameIndex := 51, descriptorIndex := 52, attributes := #[] }, { accessFlags := 9, nameIndex := 79, descriptorIndex := 80, attributes := #[] }] 49 2 #[] #[])
  fields := #[]
  methods := #[k1m0, k1m1, k1m2]
  instanceTypes := #[]
  staticTypes := #[]
  resolved := Array.replicate 85 none
  statics := none }

def pool2 : Array CpInfo := pool [(1, .class_ 2), (0, u "java/lang/Math"), (1, .class_ 6), (1, u "java/lang/Object"), (0, u "<init>"), (0, u "()V"), (89, .class_ 100), (1, u "java/lang/Math$RandomNumberGeneratorHolder"), (71, u "negativeZeroFloatBits"), (0, u "J"), (2, u "negativeZeroDoubleBits"), (21, u "max"), (2, u "min"), (43, u "$assertionsDisabled"), (0, u "Z"), (88, u "(II)I"), (2, u "twoToTheDoubleScaleDown"), (0, u "D"), (4, u "twoToTheDoubleScaleUp"), (9, u "E"), (3, u "PI"), (2, u "TAU"), (2, u "DEGREES_TO_RADIANS"), (0, u "RADIANS_TO_DEGREES")] 94

def k2m0 : Method := { name := "<init>", desc := "()V", sig := { parameters := [], returnType := none }, accessFlags := 2, code := none }
def k2c1 : Code := { maxStack := 2, maxLocals := 2, code := jdk_29_method_65_code, exceptionTable := #[], attributes := #[] }
def k2m1 : Method := { name := "max", desc := "(II)I", sig := { parameters := [.int, .int], returnType := some .int }, accessFlags := 9, code := some k2c1 }
def k2c2 : Code := { maxStack := 2, maxLocals := 2, code := jdk_29_method_69_code, exceptionTable := #[], attributes := #[] }
def k2m2 : Method := { name := "min", desc := "(II)I", sig := { parameters := [.int, .int], returnType := some .int }, accessFlags := 9, code := some k2c2 }
/-- java/lang/Math -/
def k2 : Class := { plain "java/lang/Math" (some 0) with
  accessFlags := 49
  interfaces := #[]
  cf := some (fileOf pool2 1 #[.nestMembers #[98]] #[{ accessFlags := 2, nameIndex := 7, descriptorIndex := 8, attributes := #[] }, { accessFlags := 9, nameIndex := 198, descriptorIndex := 335, attributes := #[] }, { accessFlags := 9, nameIndex := 201, descriptorIndex := 335, attributes := #[] }] 49 4 #[] #[{ accessFlags := 25, nameIndex := 354, descriptorIndex := 339, attributes := #[] }, { accessFlags := 25, nameIndex := 358, descriptorIndex := 339, attributes := #[] }, { accessFlags := 25, nameIndex := 361, descriptorIndex := 339, attributes := #[] }, { accessFlags := 26, nameIndex := 364, descriptorIndex := 339, attributes := #[] }, { accessFlags := 26, nameIndex := 365, descriptorIndex := 339, attributes := #[] }, { accessFlags := 26, nameIndex := 172, descriptorIndex := 173, attributes := #[] }, { accessFlags := 26, nameIndex := 176, descriptorIndex := 173, attributes := #[] }, { accessFlags := 8, nameIndex := 344, descriptorIndex := 339, attributes := #[] }, { accessFlags := 8, nameIndex := 338, descriptorIndex := 339, attributes := #[] }, { accessFlags := 4120, nameIndex := 245, descriptorIndex := 246, attributes := #[] }])
  fields := #[{ name := "E", type := .double, accessFlags := 25, slot := 0, constantValue := 0 }, { name := "PI", type := .double, accessFlags := 25, slot := 1, constantValue := 0 }, { name := "TAU", type := .double, accessFlags := 25, slot := 2, constantValue := 0 }, { name := "DEGREES_TO_RADIANS", type := .double, accessFlags := 26, slot := 3, constantValue := 0 }, { name := "RADIANS_TO_DEGREES", type := .double, accessFlags := 26, slot := 4, constantValue := 0 }, { name := "negativeZeroFloatBits", type := .long, accessFlags := 26, slot := 5, constantValue := 0 }, { name := "negativeZeroDoubleBits", type := .long, accessFlags := 26, slot := 6, constantValue := 0 }, { name := "twoToTheDoubleScaleUp", type := .double, accessFlags := 8, slot := 7, constantValue := 0 }, { name := "twoToTheDoubleScaleDown", type := .double, accessFlags := 8, slot := 8, constantValue := 0 }, { name := "$assertionsDisabled", type := .boolean, accessFlags := 4120, slot := 9, constantValue := 0 }]
  methods := #[k2m0, k2m1, k2m2]
  instanceTypes := #[]
  staticTypes := #[.double, .double, .double, .double, .double, .long, .long, .double, .double, .boolean]
  resolved := Array.replicate 460 none
  statics := none }

def pool3 : Array CpInfo := pool [(1, .class_ 2), (0, u "java/lang/constant/Constable"), (0, .class_ 4), (0, u "java/lang/Object")] 6

/-- java/lang/constant/Constable -/
def k3 : Class := { plain "java/lang/constant/Constable" (some 0) with
  accessFlags := 1537
  interfaces := #[]
  cf := some (fileOf pool3 1 #[] #[] 1537 3 #[] #[])
  fields := #[]
  methods := #[]
  instanceTypes := #[]
  staticTypes := #[]
  resolved := Array.replicate 11 none
  statics := none }

def pool4 : Array CpInfo := pool [(1, .class_ 2), (0, u "java/lang/Comparable"), (0, .class_ 4), (0, u "java/lang/Object")] 7

/-- java/lang/Comparable -/
def k4 : Class := { plain "java/lang/Comparable" (some 0) with
  accessFlags := 1537
  interfaces := #[]
  cf := some (fileOf pool4 1 #[] #[] 1537 3 #[] #[])
  fields := #[]
  methods := #[]
  instanceTypes := #[]
  staticTypes := #[]
  resolved := Array.replicate 12 none
  statics := none }

def pool5 : Array CpInfo := pool [(1, .class_ 2), (0, u "java/io/Serializable"), (0, .class_ 4), (0, u "java/lang/Object")] 2

/-- java/io/Serializable -/
def k5 : Class := { plain "java/io/Serializable" (some 0) with
  accessFlags := 1537
  interfaces := #[]
  cf := some (fileOf pool5 1 #[] #[] 1537 3 #[] #[])
  fields := #[]
  methods := #[]
  instanceTypes := #[]
  staticTypes := #[]
  resolved := Array.replicate 7 none
  statics := none }

def pool6 : Array CpInfo := pool [(2, .class_ 4), (1, u "java/lang/Enum"), (0, u "name"), (0, u "Ljava/lang/String;"), (2, u "ordinal"), (0, u "I"), (1, .class_ 14), (1, u "java/lang/Object"), (4, u "hash"), (86, .class_ 108), (1, u "java/lang/Enum$EnumDesc"), (2, .class_ 112), (0, u "java/lang/constant/Constable"), (0, .class_ 114), (0, u "java/lang/Comparable"), (0, .class_ 116), (0, u "java/io/Serializable")] 87

/-- java/lang/Enum -/
def k6 : Class := { plain "java/lang/Enum" (some 0) with
  accessFlags := 1057
  interfaces := #[3, 4, 5]
  cf := some (fileOf pool6 2 #[.nestMembers #[106]] #[] 1057 12 #[111, 113, 115] #[{ accessFlags := 18, nameIndex := 5, descriptorIndex := 6, attributes := #[] }, { accessFlags := 18, nameIndex := 9, descriptorIndex := 10, attributes := #[] }, { accessFlags := 2, nameIndex := 19, descriptorIndex := 10, attributes := #[] }])
  fields := #[{ name := "name", type := (.object "java/lang/String"), accessFlags := 18, slot := 0, constantValue := 0 }, { name := "ordinal", type := .int, accessFlags := 18, slot := 1, constantValue := 0 }, { name := "hash", type := .int, accessFlags := 2, slot := 2, constantValue := 0 }]
  methods := #[]
  instanceTypes := #[(.object "java/lang/String"), .int, .int]
  staticTypes := #[]
  resolved := Array.replicate 204 none
  statics := none }

def pool7 : Array CpInfo := pool [(1, .class_ 2), (0, u "com/example/uketsuke/uketsuke/store/IdFormat"), (2, u "BATCH"), (0, u "Lcom/example/uketsuke/uketsuke/store/IdFormat;"), (2, u "JOB"), (2, u "$VALUES"), (0, u "[Lcom/example/uketsuke/uketsuke/store/IdFormat;"), (6, .class_ 22), (1, u "java/lang/Enum"), (4, u "<init>"), (3, u "prefix"), (0, u "Ljava/lang/String;"), (2, u "noun"), (3, u "()Ljava/lang/String;"), (8, u "pattern"), (0, u "Ljava/util/regex/Pattern;"), (15, .class_ 67), (1, u "java/lang/Long"), (2, .class_ 72), (1, u "java/lang/String"), (5, .class_ 79), (0, u "java/lang/StringBuilder"), (0, .methodref 78 81), (0, .nameAndType 27 82), (0, u "()V"), (0, .methodref 78 84), (0, .nameAndType 85 86), (0, u "append"), (0, u "(Ljava/lang/String;)Ljava/lang/StringBuilder;"), (2, u "digits"), (0, u "(JI)Ljava/lang/String;"), (0, .methodref 78 92), (0, .nameAndType 93 39), (0, u "toString"), (0, .methodref 65 95), (0, .nameAndType 93 96), (0, u "(J)Ljava/lang/String;"), (0, .string 98), (0, u "0"), (0, .methodref 70 100), (0, .nameAndType 101 102), (0, u "length"), (0, u "()I"), (0, .methodref 104 105), (0, .class_ 106), (0, .nameAndType 107 108), (0, u "java/lang/Math"), (0, u "max"), (0, u "(II)I"), (0, .methodref 70 110), (0, .nameAndType 111 112), (0, u "repeat"), (0, u "(I)Ljava/lang/String;"), (41, u "LARGEST_NUMBER"), (0, u "J"), (1, u "DIGITS"), (0, u "I")] 14

def k7c0 : Code := { maxStack := 5, maxLocals := 4, code := prog_10_method_5_code, exceptionTable := #[], attributes := #[] }
def k7m0 : Method := { name := "digits", desc := "(JI)Ljava/lang/String;", sig := { parameters := [.long, .int], returnType := some (.object "java/lang/String") }, accessFlags := 9, code := some k7c0 }
/-- com/example/uketsuke/uketsuke/store/IdFormat -/
def k7 : Class := { plain "com/example/uketsuke/uketsuke/store/IdFormat" (some 6) with
  accessFlags := 16433
  interfaces := #[]
  cf := some (fileOf pool7 1 #[] #[{ accessFlags := 9, nameIndex := 89, descriptorIndex := 90, attributes := #[] }] 16433 20 #[] #[{ accessFlags := 16409, nameIndex := 5, descriptorIndex := 6, attributes := #[] }, { accessFlags := 16409, nameIndex := 9, descriptorIndex := 6, attributes := #[] }, { accessFlags := 25, nameIndex := 154, descriptorIndex := 155, attributes := #[] }, { accessFlags := 26, nameIndex := 157, descriptorIndex := 158, attributes := #[] }, { accessFlags := 18, nameIndex := 31, descriptorIndex := 32, attributes := #[] }, { accessFlags := 18, nameIndex := 35, descriptorIndex := 32, attributes := #[] }, { accessFlags := 18, nameIndex := 48, descriptorIndex := 49, attributes := #[] }, { accessFlags := 4122, nameIndex := 12, descriptorIndex := 13, attributes := #[] }])
  fields := #[{ name := "BATCH", type := (.object "com/example/uketsuke/uketsuke/store/IdFormat"), accessFlags := 16409, slot := 0, constantValue := 0 }, { name := "JOB", type := (.object "com/example/uketsuke/uketsuke/store/IdFormat"), accessFlags := 16409, slot := 1, constantValue := 0 }, { name := "LARGEST_NUMBER", type := .long, accessFlags := 25, slot := 2, constantValue := 0 }, { name := "DIGITS", type := .int, accessFlags := 26, slot := 3, constantValue := 0 }, { name := "prefix", type := (.object "java/lang/String"), accessFlags := 18, slot := 3, constantValue := 0 }, { name := "noun", type := (.object "java/lang/String"), accessFlags := 18, slot := 4, constantValue := 0 }, { name := "pattern", type := (.object "java/util/regex/Pattern"), accessFlags := 18, slot := 5, constantValue := 0 }, { name := "$VALUES", type := (.array (.object "com/example/uketsuke/uketsuke/store/IdFormat")), accessFlags := 4122, slot := 4, constantValue := 0 }]
  methods := #[k7m0]
  instanceTypes := #[(.object "java/lang/String"), .int, .int, (.object "java/lang/String"), (.object "java/lang/String"), (.object "java/util/regex/Pattern")]
  staticTypes := #[(.object "com/example/uketsuke/uketsuke/store/IdFormat"), (.object "com/example/uketsuke/uketsuke/store/IdFormat"), .long, .int, (.array (.object "com/example/uketsuke/uketsuke/store/IdFormat"))]
  resolved := Array.replicate 173 none
  statics := none }

def pool8 : Array CpInfo := pool [(2, .class_ 4), (1, u "java/lang/Object"), (0, u "<init>"), (0, u "()V"), (1, .class_ 10), (1, u "java/lang/Number"), (2, .class_ 14), (0, u "java/io/Serializable"), (0, u "serialVersionUID"), (0, u "J")] 20

def k8m0 : Method := { name := "<init>", desc := "()V", sig := { parameters := [], returnType := none }, accessFlags := 1, code := none }
/-- java/lang/Number -/
def k8 : Class := { plain "java/lang/Number" (some 0) with
  accessFlags := 1057
  interfaces := #[5]
  cf := some (fileOf pool8 8 #[] #[{ accessFlags := 1, nameIndex := 5, descriptorIndex := 6, attributes := #[] }] 1057 2 #[13] #[{ accessFlags := 26, nameIndex := 15, descriptorIndex := 16, attributes := #[] }])
  fields := #[{ name := "serialVersionUID", type := .long, accessFlags := 26, slot := 0, constantValue := 0 }]
  methods := #[k8m0]
  instanceTypes := #[]
  staticTypes := #[.long]
  resolved := Array.replicate 37 none
  statics := none }

def pool9 : Array CpInfo := pool [(1, .class_ 2), (0, u "java/lang/constant/ConstantDesc"), (0, .class_ 4), (0, u "java/lang/Object")] 32

/-- java/lang/constant/ConstantDesc -/
def k9 : Class := { plain "java/lang/constant/ConstantDesc" (some 0) with
  accessFlags := 1537
  interfaces := #[]
  cf := some (fileOf pool9 1 #[] #[] 1537 3 #[] #[])
  fields := #[]
  methods := #[]
  instanceTypes := #[]
  staticTypes := #[]
  resolved := Array.replicate 37 none
  statics := none }

def pool10 : Array CpInfo := pool [(1, .class_ 2), (0, u "java/lang/Long"), (2, .class_ 6), (0, u "java/lang/String"), (4, u "toString"), (0, u "(J)Ljava/lang/String;"), (0, .fieldref 5 14), (0, .nameAndType 15 16), (0, u "COMPACT_STRINGS"), (0, u "Z"), (1, .class_ 20), (1, u "java/lang/Integer"), (32, .long 10), (5, u "<init>"), (41, u "(J)I"), (10, .methodref 5 113), (0, .nameAndType 59 114), (0, u "([BB)V"), (3, .methodref 1 119), (0, .nameAndType 120 101), (0, u "stringSize"), (0, .methodref 1 122), (0, .nameAndType 123 124), (0, u "getChars"), (0, u "(JI[B)I"), (4, .long 18446744071562067968), (1, .long 100), (1, .fieldref 18 134), (0, .nameAndType 135 136), (0, u "DigitOnes"), (0, u "[B"), (0, .fieldref 18 138), (0, .nameAndType 139 136), (0, u "DigitTens"), (0, .long 18446744073709551606), (94, .class_ 237), (1, u "java/lang/Long$LongCache"), (33, .class_ 272), (0, u "java/lang/Number"), (2, u "value"), (0, u "J"), (84, u "TYPE"), (0, u "Ljava/lang/Class;"), (0, .class_ 364), (0, u "java/lang/Comparable"), (0, .class_ 366), (0, u "java/lang/constant/Constable"), (0, .class_ 368), (0, u "java/lang/constant/ConstantDesc"), (0, u "MIN_VALUE"), (1, u "MAX_VALUE"), (4, u "SIZE"), (0, u "I"), (1, u "BYTES"), (1, u "serialVersionUID")] 142

def k10c0 : Code := { maxStack := 4, maxLocals := 4, code := jdk_35_method_12_code, exceptionTable := #[], attributes := #[] }
def k10m0 : Method := { name := "toString", desc := "(J)Ljava/lang/String;", sig := { parameters := [.long], returnType := some (.object "java/lang/String") }, accessFlags := 9, code := some k10c0 }
def k10c1 : Code := { maxStack := 4, maxLocals := 11, code := jdk_35_method_14_code, exceptionTable := #[], attributes := #[] }
def k10m1 : Method := { name := "getChars", desc := "(JI[B)I", sig := { parameters := [.long, .int, (.array .byte)], returnType := some .int }, accessFlags := 8, code := some k10c1 }
def k10c2 : Code := { maxStack := 4, maxLocals := 6, code := jdk_35_method_15_code, exceptionTable := #[], attributes := #[] }
def k10m2 : Method := { name := "stringSize", desc := "(J)I", sig := { parameters := [.long], returnType := some .int }, accessFlags := 8, code := some k10c2 }
/-- java/lang/Long -/
def k10 : Class := { plain "java/lang/Long" (some 8) with
  accessFlags := 49
  interfaces := #[4, 3, 9]
  cf := some (fileOf pool10 1 #[.nestMembers #[235]] #[{ accessFlags := 9, nameIndex := 11, descriptorIndex := 12, attributes := #[] }, { accessFlags := 8, nameIndex := 123, descriptorIndex := 124, attributes := #[] }, { accessFlags := 8, nameIndex := 120, descriptorIndex := 101, attributes := #[] }] 49 271 #[363, 365, 367] #[{ accessFlags := 25, nameIndex := 369, descriptorIndex := 276, attributes := #[] }, { accessFlags := 25, nameIndex := 371, descriptorIndex := 276, attributes := #[] }, { accessFlags := 25, nameIndex := 361, descriptorIndex := 362, attributes := #[] }, { accessFlags := 18, nameIndex := 275, descriptorIndex := 276, attributes := #[] }, { accessFlags := 25, nameIndex := 376, descriptorIndex := 377, attributes := #[] }, { accessFlags := 25, nameIndex := 379, descriptorIndex := 377, attributes := #[] }, { accessFlags := 26, nameIndex := 381, descriptorIndex := 276, attributes := #[] }])
  fields := #[{ name := "MIN_VALUE", type := .long, accessFlags := 25, slot := 0, constantValue := 0 }, { name := "MAX_VALUE", type := .long, accessFlags := 25, slot := 1, constantValue := 0 }, { name := "TYPE", type := (.object "java/lang/Class"), accessFlags := 25, slot := 2, constantValue := 0 }, { name := "value", type := .long, accessFlags := 18, slot := 0, constantValue := 0 }, { name := "SIZE", type := .int, accessFlags := 25, slot := 3, constantValue := 0 }, { name := "BYTES", type := .int, accessFlags := 25, slot := 4, constantValue := 0 }, { name := "serialVersionUID", type := .long, accessFlags := 26, slot := 5, constantValue := 0 }]
  methods := #[k10m0, k10m1, k10m2]
  instanceTypes := #[.long]
  staticTypes := #[.long, .long, (.object "java/lang/Class"), .int, .int, .long]
  resolved := Array.replicate 524 none
  statics := none }

def pool11 : Array CpInfo := pool [(2, .class_ 4), (1, u "java/lang/CharSequence"), (42, .class_ 48), (0, u "java/lang/CharSequence$1CodePointIterator"), (10, .class_ 60), (0, u "java/lang/CharSequence$1CharIterator"), (5, .class_ 67), (0, u "java/lang/Object")] 63

/-- java/lang/CharSequence -/
def k11 : Class := { plain "java/lang/CharSequence" (some 0) with
  accessFlags := 1537
  interfaces := #[]
  cf := some (fileOf pool11 2 #[.nestMembers #[47, 59]] #[] 1537 66 #[] #[])
  fields := #[]
  methods := #[]
  instanceTypes := #[]
  staticTypes := #[]
  resolved := Array.replicate 131 none
  statics := none }

def pool12 : Array CpInfo := pool [(1, .methodref 2 3), (0, .class_ 4), (0, .nameAndType 5 6), (0, u "java/lang/Object"), (0, u "<init>"), (0, u "()V"), (0, .string 8), (0, u ""), (0, .fieldref 10 11), (0, .class_ 12), (0, .nameAndType 13 14), (0, u "java/lang/String"), (0, u "value"), (0, u "[B"), (0, .fieldref 10 16), (0, .nameAndType 17 18), (0, u "coder"), (0, u "B"), (2, u "hash"), (0, u "I"), (2, u "hashIsZero"), (0, u "Z"), (11, .fieldref 10 39), (0, .nameAndType 40 26), (0, u "COMPACT_STRINGS"), (13, .methodref 55 56), (0, .class_ 57), (0, .nameAndType 58 59), (0, u "java/util/Arrays"), (0, u "copyOfRange"), (0, u "([BII)[B"), (47, .class_ 109), (1, u "java/lang/StringLatin1"), (32, u "()Z"), (50, .class_ 195), (1, u "java/lang/System"), (13, .methodref 10 210), (0, .nameAndType 5 211), (0, u "([BB)V"), (0, .methodref 193 213), (0, .nameAndType 214 215), (0, u "arraycopy"), (0, u "(Ljava/lang/Object;ILjava/lang/Object;II)V"), (118, u "()I"), (0, .methodref 10 336), (0, .nameAndType 17 337), (0, u "()B"), (2, u "()[B"), (22, u "([BI)C"), (27, u "(II)V"), (35, u "(I)C"), (61, .methodref 10 490), (0, .nameAndType 5 491), (0, u "(Ljava/lang/AbstractStringBuilder;Ljava/lang/Void;)V"), (0, .methodref 10 493), (0, .nameAndType 494 142), (0, u "isLatin1"), (0, .methodref 107 496), (0, .nameAndType 497 363), (0, u "charAt"), (3, u "checkIndex"), (4, .nameAndType 507 334), (0, u "length"), (24, u "getBytes"), (16, .methodref 550 506), (0, .class_ 551), (0, u "java/lang/AbstractStringBuilder"), (0, .methodref 550 553), (0, .nameAndType 554 340), (0, u "getValue"), (20, .class_ 576), (0, u "java/lang/CharSequence"), (22, u "CASE_INSENSITIVE_ORDER"), (0, u "Ljava/util/Comparator;"), (220, u "([BIB)V"), (69, u "repeat"), (0, u "(I)Ljava/lang/String;"), (50, .integer 2147483647), (97, .methodref 55 1042), (0, .nameAndType 1043 211), (0, u "fill"), (3, .methodref 550 493), (5, .fieldref 1054 1055), (0, .class_ 1056), (0, .nameAndType 1057 1058), (0, u "jdk/internal/util/Preconditions"), (0, u "SIOOBE_FORMATTER"), (0, u "Ljava/util/function/BiFunction;"), (0, .methodref 1054 1060), (0, .nameAndType 501 1061), (0, u "(IILjava/util/function/BiFunction;)I"), (39, u "serialPersistentFields"), (0, u "[Ljava/io/ObjectStreamField;"), (0, .class_ 1104), (0, u "java/lang/String$CaseInsensitiveComparator"), (1, .class_ 1107), (0, u "java/io/Serializable"), (0, .class_ 1109), (0, u "java/lang/Comparable"), (0, .class_ 1111), (0, u "java/lang/constant/Constable"), (0, .class_ 1113), (0, u "java/lang/constant/ConstantDesc"), (2, u "serialVersionUID"), (0, u "J"), (3, u "REPL"), (0, u "C"), (2, u "LATIN1"), (1, u "UTF16"), (105, u "(Ljava/lang/StringBuilder;)V")] 217

def k12m0 : Method := { name := "<init>", desc := "()V", sig := { parameters := [], returnType := none }, accessFlags := 1, code := none }
def k12c1 : Code := { maxStack := 3, maxLocals := 2, code := jdk_42_method_53_code, exceptionTable := #[], attributes := #[] }
def k12m1 : Method := { name := "<init>", desc := "(Ljava/lang/StringBuilder;)V", sig := { parameters := [(.object "java/lang/StringBuilder")], returnType := none }, accessFlags := 1, code := some k12c1 }
def k12c2 : Code := { maxStack := 2, maxLocals := 1, code := jdk_42_method_54_code, exceptionTable := #[], attributes := #[] }
def k12m2 : Method := { name := "length", desc := "()I", sig := { parameters := [], returnType := some .int }, accessFlags := 1, code := some k12c2 }
def k12c3 : Code := { maxStack := 2, maxLocals := 2, code := jdk_42_method_56_code, exceptionTable := #[], attributes := #[] }
def k12m3 : Method := { name := "charAt", desc := "(I)C", sig := { parameters := [.int], returnType := some .char }, accessFlags := 1, code := some k12c3 }
def k12c4 : Code := { maxStack := 5, maxLocals := 5, code := jdk_42_method_145_code, exceptionTable := #[], attributes := #[] }
def k12m4 : Method := { name := "repeat", desc := "(I)Ljava/lang/String;", sig := { parameters := [.int], returnType := some (.object "java/lang/String") }, accessFlags := 1, code := some k12c4 }
def k12c5 : Code := { maxStack := 5, maxLocals := 4, code := jdk_42_method_147_code, exceptionTable := #[], attributes := #[] }
def k12m5 : Method := { name := "getBytes", desc := "([BIB)V", sig := { parameters := [(.array .byte), .int, .byte], returnType := none }, accessFlags := 0, code := some k12c5 }
def k12c6 : Code := { maxStack := 5, maxLocals := 5, code := jdk_42_method_150_code, exceptionTable := #[], attributes := #[] }
def k12m6 : Method := { name := "<init>", desc := "(Ljava/lang/AbstractStringBuilder;Ljava/lang/Void;)V", sig := { parameters := [(.object "java/lang/AbstractStringBuilder"), (.object "java/lang/Void")], returnType := none }, accessFlags := 0, code := some k12c6 }
def k12c7 : Code := { maxStack := 2, maxLocals := 3, code := jdk_42_method_151_code, exceptionTable := #[], attributes := #[] }
def k12m7 : Method := { name := "<init>", desc := "([BB)V", sig := { parameters := [(.array .byte), .byte], returnType := none }, accessFlags := 0, code := some k12c7 }
def k12c8 : Code := { maxStack := 1, maxLocals := 1, code := jdk_42_method_152_code, exceptionTable := #[], attributes := #[] }
def k12m8 : Method := { name := "coder", desc := "()B", sig := { parameters := [], returnType := some .byte }, accessFlags := 0, code := some k12c8 }
def k12c9 : Code := { maxStack := 1, maxLocals := 1, code := jdk_42_method_154_code, exceptionTable := #[], attributes := #[] }
def k12m9 : Method := { name := "isLatin1", desc := "()Z", sig := { parameters := [], returnType := some .boolean }, accessFlags := 0, code := some k12c9 }
def k12c10 : Code := { maxStack := 3, maxLocals := 2, code := jdk_42_method_155_code, exceptionTable := #[], attributes := #[] }
def k12m10 : Method := { name := "checkIndex", desc := "(II)V", sig := { parameters := [.int, .int], returnType := none }, accessFlags := 8, code := some k12c10 }
/-- java/lang/String -/
def k12 : Class := { plain "java/lang/String" (some 0) with
  accessFlags := 49
  interfaces := #[5, 4, 11, 3, 9]
  cf := some (fileOf pool12 10 #[.nestMembers #[1103]] #[{ accessFlags := 1, nameIndex := 5, descriptorIndex := 6, attributes := #[] }, { accessFlags := 1, nameIndex := 5, descriptorIndex := 1233, attributes := #[] }, { accessFlags := 1, nameIndex := 507, descriptorIndex := 334, attributes := #[] }, { accessFlags := 1, nameIndex := 497, descriptorIndex := 427, attributes := #[] }, { accessFlags := 1, nameIndex := 891, descriptorIndex := 892, attributes := #[] }, { accessFlags := 0, nameIndex := 532, descriptorIndex := 821, attributes := #[] }, { accessFlags := 0, nameIndex := 5, descriptorIndex := 491, attributes := #[] }, { accessFlags := 0, nameIndex := 5, descriptorIndex := 211, attributes := #[] }, { accessFlags := 0, nameIndex := 17, descriptorIndex := 337, attributes := #[] }, { accessFlags := 0, nameIndex := 494, descriptorIndex := 142, attributes := #[] }, { accessFlags := 8, nameIndex := 501, descriptorIndex := 391, attributes := #[] }] 49 2 #[1106, 1108, 575, 1110, 1112] #[{ accessFlags := 18, nameIndex := 13, descriptorIndex := 14, attributes := #[] }, { accessFlags := 18, nameIndex := 17, descriptorIndex := 18, attributes := #[] }, { accessFlags := 2, nameIndex := 21, descriptorIndex := 22, attributes := #[] }, { accessFlags := 2, nameIndex := 25, descriptorIndex := 26, attributes := #[] }, { accessFlags := 26, nameIndex := 1116, descriptorIndex := 1117, attributes := #[] }, { accessFlags := 24, nameIndex := 40, descriptorIndex := 26, attributes := #[] }, { accessFlags := 26, nameIndex := 1101, descriptorIndex := 1102, attributes := #[] }, { accessFlags := 26, nameIndex := 1121, descriptorIndex := 1122, attributes := #[] }, { accessFlags := 25, nameIndex := 599, descriptorIndex := 600, attributes := #[] }, { accessFlags := 24, nameIndex := 1125, descriptorIndex := 18, attributes := #[] }, { accessFlags := 24, nameIndex := 1127, descriptorIndex := 18, attributes := #[] }])
  fields := #[{ name := "value", type := (.array .byte), accessFlags := 18, slot := 0, constantValue := 0 }, { name := "coder", type := .byte, accessFlags := 18, slot := 1, constantValue := 0 }, { name := "hash", type := .int, accessFlags := 2, slot := 2, constantValue := 0 }, { name := "hashIsZero", type := .boolean, accessFlags := 2, slot := 3, constantValue := 0 }, { name := "serialVersionUID", type := .long, accessFlags := 26, slot := 0, constantValue := 0 }, { name := "COMPACT_STRINGS", type := .boolean, accessFlags := 24, slot := 1, constantValue := 0 }, { name := "serialPersistentFields", type := (.array (.object "java/io/ObjectStreamField")), accessFlags := 26, slot := 2, constantValue := 0 }, { name := "REPL", type := .char, accessFlags := 26, slot := 3, constantValue := 0 }, { name := "CASE_INSENSITIVE_ORDER", type := (.object "java/util/Comparator"), accessFlags := 25, slot := 4, constantValue := 0 }, { name := "LATIN1", type := .byte, accessFlags := 24, slot := 5, constantValue := 0 }, { name := "UTF16", type := .byte, accessFlags := 24, slot := 6, constantValue := 0 }]
  methods := #[k12m0, k12m1, k12m2, k12m3, k12m4, k12m5, k12m6, k12m7, k12m8, k12m9, k12m10]
  instanceTypes := #[(.array .byte), .byte, .int, .boolean]
  staticTypes := #[.long, .boolean, (.array (.object "java/io/ObjectStreamField")), .char, (.object "java/util/Comparator"), .byte, .byte]
  resolved := Array.replicate 1451 none
  statics := some 0 }

def pool13 : Array CpInfo := pool [(1, .class_ 2), (0, u "java/lang/Integer"), (16, u "digits"), (0, u "[C"), (64, u "DigitOnes"), (0, u "[B"), (2, u "DigitTens"), (99, .class_ 190), (0, u "java/lang/Integer$IntegerCache"), (3, u "I"), (8, .class_ 204), (0, u "java/lang/Number"), (2, u "value"), (94, u "TYPE"), (0, u "Ljava/lang/Class;"), (0, .class_ 305), (0, u "java/lang/Comparable"), (0, .class_ 307), (0, u "java/lang/constant/Constable"), (0, .class_ 309), (0, u "java/lang/constant/ConstantDesc"), (0, u "MIN_VALUE"), (1, u "MAX_VALUE"), (3, u "SIZE"), (1, u "BYTES"), (1, u "serialVersionUID"), (0, u "J")] 131

/-- java/lang/Integer -/
def k13 : Class := { plain "java/lang/Integer" (some 8) with
  accessFlags := 49
  interfaces := #[4, 3, 9]
  cf := some (fileOf pool13 1 #[.nestMembers #[189]] #[] 49 203 #[304, 306, 308] #[{ accessFlags := 25, nameIndex := 310, descriptorIndex := 194, attributes := #[] }, { accessFlags := 25, nameIndex := 312, descriptorIndex := 194, attributes := #[] }, { accessFlags := 25, nameIndex := 302, descriptorIndex := 303, attributes := #[] }, { accessFlags := 24, nameIndex := 19, descriptorIndex := 20, attributes := #[] }, { accessFlags := 24, nameIndex := 89, descriptorIndex := 86, attributes := #[] }, { accessFlags := 24, nameIndex := 85, descriptorIndex := 86, attributes := #[] }, { accessFlags := 18, nameIndex := 207, descriptorIndex := 194, attributes := #[] }, { accessFlags := 25, nameIndex := 316, descriptorIndex := 194, attributes := #[] }, { accessFlags := 25, nameIndex := 318, descriptorIndex := 194, attributes := #[] }, { accessFlags := 26, nameIndex := 320, descriptorIndex := 321, attributes := #[] }])
  fields := #[{ name := "MIN_VALUE", type := .int, accessFlags := 25, slot := 0, constantValue := 0 }, { name := "MAX_VALUE", type := .int, accessFlags := 25, slot := 1, constantValue := 0 }, { name := "TYPE", type := (.object "java/lang/Class"), accessFlags := 25, slot := 2, constantValue := 0 }, { name := "digits", type := (.array .char), accessFlags := 24, slot := 3, constantValue := 0 }, { name := "DigitTens", type := (.array .byte), accessFlags := 24, slot := 4, constantValue := 0 }, { name := "DigitOnes", type := (.array .byte), accessFlags := 24, slot := 5, constantValue := 0 }, { name := "value", type := .int, accessFlags := 18, slot := 0, constantValue := 0 }, { name := "SIZE", type := .int, accessFlags := 25, slot := 6, constantValue := 0 }, { name := "BYTES", type := .int, accessFlags := 25, slot := 7, constantValue := 0 }, { name := "serialVersionUID", type := .long, accessFlags := 26, slot := 8, constantValue := 0 }]
  methods := #[]
  instanceTypes := #[.int]
  staticTypes := #[.int, .int, (.object "java/lang/Class"), (.array .char), (.array .byte), (.array .byte), .int, .int, .long]
  resolved := Array.replicate 453 none
  statics := some 1 }

def pool14 : Array CpInfo := pool [(1, .class_ 2), (0, u "java/lang/Appendable"), (0, .class_ 4), (0, u "java/lang/Object")] 9

/-- java/lang/Appendable -/
def k14 : Class := { plain "java/lang/Appendable" (some 0) with
  accessFlags := 1537
  interfaces := #[]
  cf := some (fileOf pool14 1 #[] #[] 1537 3 #[] #[])
  fields := #[]
  methods := #[]
  instanceTypes := #[]
  staticTypes := #[]
  resolved := Array.replicate 14 none
  statics := none }

def pool15 : Array CpInfo := pool [(1, .class_ 2), (0, u "java/lang/String"), (0, .methodref 4 5), (0, .class_ 6), (0, .nameAndType 7 8), (0, u "java/lang/Object"), (0, u "<init>"), (0, u "()V"), (1, .class_ 12), (1, u "java/lang/AbstractStringBuilder"), (0, u "EMPTYVALUE"), (0, u "[B"), (0, .fieldref 10 16), (0, .nameAndType 17 14), (0, u "value"), (0, .fieldref 1 19), (0, .nameAndType 20 21), (0, u "COMPACT_STRINGS"), (0, u "Z"), (0, .fieldref 10 23), (0, .nameAndType 24 25), (0, u "coder"), (0, u "B"), (6, .methodref 1 33), (0, .nameAndType 34 35), (0, u "length"), (0, u "()I"), (3, .integer 2147483647), (0, .methodref 1 41), (0, .nameAndType 24 42), (0, u "()B"), (2, u "append"), (0, u "(Ljava/lang/String;)Ljava/lang/AbstractStringBuilder;"), (1, .class_ 49), (0, u "java/lang/CharSequence"), (19, u "(Ljava/lang/String;)V"), (5, u "maybeLatin1"), (3, .fieldref 10 80), (0, .nameAndType 81 82), (0, u "count"), (0, u "I"), (2, u "isLatin1"), (0, u "()Z"), (13, .methodref 10 101), (0, .nameAndType 102 103), (0, u "ensureCapacityInternal"), (0, u "(I)V"), (0, .methodref 10 105), (0, .nameAndType 106 107), (0, u "newCapacity"), (0, u "(I)I"), (0, .methodref 109 110), (0, .class_ 111), (0, .nameAndType 112 113), (0, u "java/util/Arrays"), (0, u "copyOf"), (0, u "([BI)[B"), (0, .methodref 115 116), (0, .class_ 117), (0, .nameAndType 118 119), (0, u "jdk/internal/util/ArraysSupport"), (0, u "newLength"), (0, u "(III)I"), (88, .methodref 10 209), (0, .nameAndType 210 211), (0, u "putStringAt"), (0, u "(ILjava/lang/String;)V"), (5, u "inflateIfNeededFor"), (2, .nameAndType 221 222), (0, u "getBytes"), (0, u "([BIB)V"), (174, .methodref 10 398), (0, .nameAndType 217 69), (0, .methodref 1 220), (3, u "()[B"), (40, .class_ 445), (0, u "java/lang/Appendable"), (106, u "getValue")] 56

def k15m0 : Method := { name := "<init>", desc := "()V", sig := { parameters := [], returnType := none }, accessFlags := 0, code := none }
def k15c1 : Code := { maxStack := 2, maxLocals := 2, code := jdk_68_method_2_code, exceptionTable := #[], attributes := #[] }
def k15m1 : Method := { name := "<init>", desc := "(I)V", sig := { parameters := [.int], returnType := none }, accessFlags := 0, code := some k15c1 }
def k15c2 : Code := { maxStack := 1, maxLocals := 1, code := jdk_68_method_6_code, exceptionTable := #[], attributes := #[] }
def k15m2 : Method := { name := "length", desc := "()I", sig := { parameters := [], returnType := some .int }, accessFlags := 1, code := some k15c2 }
def k15c3 : Code := { maxStack := 4, maxLocals := 3, code := jdk_68_method_9_code, exceptionTable := #[], attributes := #[] }
def k15m3 : Method := { name := "ensureCapacityInternal", desc := "(I)V", sig := { parameters := [.int], returnType := none }, accessFlags := 2, code := some k15c3 }
def k15c4 : Code := { maxStack := 5, maxLocals := 6, code := jdk_68_method_10_code, exceptionTable := #[], attributes := #[] }
def k15m4 : Method := { name := "newCapacity", desc := "(I)I", sig := { parameters := [.int], returnType := some .int }, accessFlags := 2, code := some k15c4 }
def k15c5 : Code := { maxStack := 3, maxLocals := 3, code := jdk_68_method_22_code, exceptionTable := #[], attributes := #[] }
def k15m5 : Method := { name := "append", desc := "(Ljava/lang/String;)Ljava/lang/AbstractStringBuilder;", sig := { parameters := [(.object "java/lang/String")], returnType := some (.object "java/lang/AbstractStringBuilder") }, accessFlags := 1, code := some k15c5 }
def k15c6 : Code := { maxStack := 1, maxLocals := 1, code := jdk_68_method_64_code, exceptionTable := #[], attributes := #[] }
def k15m6 : Method := { name := "getValue", desc := "()[B", sig := { parameters := [], returnType := some (.array .byte) }, accessFlags := 16, code := some k15c6 }
def k15c7 : Code := { maxStack := 1, maxLocals := 1, code := jdk_68_method_68_code, exceptionTable := #[], attributes := #[] }
def k15m7 : Method := { name := "isLatin1", desc := "()Z", sig := { parameters := [], returnType := some .boolean }, accessFlags := 16, code := some k15c7 }
def k15c8 : Code := { maxStack := 2, maxLocals := 2, code := jdk_68_method_71_code, exceptionTable := #[], attributes := #[] }
def k15m8 : Method := { name := "inflateIfNeededFor", desc := "(Ljava/lang/String;)V", sig := { parameters := [(.object "java/lang/String")], returnType := none }, accessFlags := 2, code := some k15c8 }
def k15c9 : Code := { maxStack := 4, maxLocals := 3, code := jdk_68_method_73_code, exceptionTable := #[], attributes := #[] }
def k15m9 : Method := { name := "putStringAt", desc := "(ILjava/lang/String;)V", sig := { parameters := [.int, (.object "java/lang/String")], returnType := none }, accessFlags := 2, code := some k15c9 }
/-- java/lang/AbstractStringBuilder -/
def k15 : Class := { plain "java/lang/AbstractStringBuilder" (some 0) with
  accessFlags := 1056
  interfaces := #[14, 11]
  cf := some (fileOf pool15 10 #[] #[{ accessFlags := 0, nameIndex := 7, descriptorIndex := 8, attributes := #[] }, { accessFlags := 0, nameIndex := 7, descriptorIndex := 103, attributes := #[] }, { accessFlags := 1, nameIndex := 34, descriptorIndex := 35, attributes := #[] }, { accessFlags := 2, nameIndex := 102, descriptorIndex := 103, attributes := #[] }, { accessFlags := 2, nameIndex := 106, descriptorIndex := 107, attributes := #[] }, { accessFlags := 1, nameIndex := 45, descriptorIndex := 46, attributes := #[] }, { accessFlags := 16, nameIndex := 552, descriptorIndex := 403, attributes := #[] }, { accessFlags := 16, nameIndex := 85, descriptorIndex := 86, attributes := #[] }, { accessFlags := 2, nameIndex := 217, descriptorIndex := 69, attributes := #[] }, { accessFlags := 2, nameIndex := 210, descriptorIndex := 211, attributes := #[] }] 1056 4 #[444, 48] #[{ accessFlags := 0, nameIndex := 17, descriptorIndex := 14, attributes := #[] }, { accessFlags := 0, nameIndex := 24, descriptorIndex := 25, attributes := #[] }, { accessFlags := 0, nameIndex := 75, descriptorIndex := 21, attributes := #[] }, { accessFlags := 0, nameIndex := 81, descriptorIndex := 82, attributes := #[] }, { accessFlags := 26, nameIndex := 13, descriptorIndex := 14, attributes := #[] }])
  fields := #[{ name := "value", type := (.array .byte), accessFlags := 0, slot := 0, constantValue := 0 }, { name := "coder", type := .byte, accessFlags := 0, slot := 1, constantValue := 0 }, { name := "maybeLatin1", type := .boolean, accessFlags := 0, slot := 2, constantValue := 0 }, { name := "count", type := .int, accessFlags := 0, slot := 3, constantValue := 0 }, { name := "EMPTYVALUE", type := (.array .byte), accessFlags := 26, slot := 0, constantValue := 0 }]
  methods := #[k15m0, k15m1, k15m2, k15m3, k15m4, k15m5, k15m6, k15m7, k15m8, k15m9]
  instanceTypes := #[(.array .byte), .byte, .boolean, .int]
  staticTypes := #[(.array .byte)]
  resolved := Array.replicate 609 none
  statics := none }

def pool16 : Array CpInfo := pool [(1, .methodref 2 3), (0, .class_ 4), (0, .nameAndType 5 6), (0, u "java/lang/AbstractStringBuilder"), (0, u "<init>"), (0, u "(I)V"), (11, .class_ 20), (1, u "java/lang/String"), (3, .class_ 26), (1, u "java/lang/StringBuilder"), (0, u "append"), (0, u "(Ljava/lang/String;)Ljava/lang/StringBuilder;"), (0, .methodref 2 30), (0, .nameAndType 27 31), (0, u "(Ljava/lang/String;)Ljava/lang/AbstractStringBuilder;"), (105, .methodref 18 138), (0, .nameAndType 5 139), (0, u "(Ljava/lang/StringBuilder;)V"), (5, u "()V"), (10, u "()I"), (186, .methodref 2 344), (0, .nameAndType 345 156), (0, u "length"), (3, .class_ 350), (0, u "java/lang/Appendable"), (0, .class_ 352), (0, u "java/io/Serializable"), (0, .class_ 354), (0, u "java/lang/Comparable"), (0, .class_ 356), (0, u "java/lang/CharSequence"), (0, u "serialVersionUID"), (0, u "J"), (40, u "toString"), (0, u "()Ljava/lang/String;")] 21

def k16c0 : Code := { maxStack := 2, maxLocals := 1, code := jdk_67_method_1_code, exceptionTable := #[], attributes := #[] }
def k16m0 : Method := { name := "<init>", desc := "()V", sig := { parameters := [], returnType := none }, accessFlags := 1, code := some k16c0 }
def k16c1 : Code := { maxStack := 2, maxLocals := 2, code := jdk_67_method_7_code, exceptionTable := #[], attributes := #[] }
def k16m1 : Method := { name := "append", desc := "(Ljava/lang/String;)Ljava/lang/StringBuilder;", sig := { parameters := [(.object "java/lang/String")], returnType := some (.object "java/lang/StringBuilder") }, accessFlags := 1, code := some k16c1 }
def k16c2 : Code := { maxStack := 3, maxLocals := 1, code := jdk_67_method_42_code, exceptionTable := #[], attributes := #[] }
def k16m2 : Method := { name := "toString", desc := "()Ljava/lang/String;", sig := { parameters := [], returnType := some (.object "java/lang/String") }, accessFlags := 1, code := some k16c2 }
def k16c3 : Code := { maxStack := 1, maxLocals := 1, code := jdk_67_method_93_code, exceptionTable := #[], attributes := #[] }
def k16m3 : Method := { name := "length", desc := "()I", sig := { parameters := [], returnType := some .int }, accessFlags := 4161, code := some k16c3 }
/-- java/lang/StringBuilder -/
def k16 : Class := { plain "java/lang/StringBuilder" (some 15) with
  accessFlags := 49
  interfaces := #[14, 5, 4, 11]
  cf := some (fileOf pool16 24 #[] #[{ accessFlags := 1, nameIndex := 5, descriptorIndex := 145, attributes := #[] }, { accessFlags := 1, nameIndex := 27, descriptorIndex := 28, attributes := #[] }, { accessFlags := 1, nameIndex := 399, descriptorIndex := 400, attributes := #[] }, { accessFlags := 4161, nameIndex := 345, descriptorIndex := 156, attributes := #[] }] 49 2 #[349, 351, 353, 355] #[{ accessFlags := 24, nameIndex := 357, descriptorIndex := 358, attributes := #[] }])
  fields := #[{ name := "serialVersionUID", type := .long, accessFlags := 24, slot := 0, constantValue := 0 }]
  methods := #[k16m0, k16m1, k16m2, k16m3]
  instanceTypes := #[(.array .byte), .byte, .boolean, .int]
  staticTypes := #[.long]
  resolved := Array.replicate 422 none
  statics := none }

def pool17 : Array CpInfo := pool [(2, .class_ 4), (1, u "java/lang/Object"), (0, u "<init>"), (0, u "()V"), (1, .class_ 10), (1, u "java/lang/System"), (0, u "allowSecurityManager"), (0, u "I"), (16, u "cons"), (0, u "Ljava/io/Console;"), (77, .class_ 110), (1, u "java/lang/System$CallersHolder"), (43, u "initialErrStream"), (0, u "Ljava/io/PrintStream;"), (19, u "security"), (0, u "Ljava/lang/SecurityManager;"), (31, .class_ 209), (0, u "java/lang/System$1"), (7, u "props"), (0, u "Ljava/util/Properties;"), (2, u "lineSeparator"), (0, u "Ljava/lang/String;"), (96, .class_ 321), (1, u "java/lang/System$LoggerFinder"), (5, .class_ 328), (0, u "java/lang/System$Logger"), (67, u "err"), (2, u "out"), (91, u "notSupportedJnuEncoding"), (15, u "in"), (17, u "initialIn"), (0, u "Ljava/io/InputStream;"), (35, u "bootLayer"), (0, u "Ljava/lang/ModuleLayer;"), (99, .class_ 664), (0, u "java/lang/System$2"), (9, u "NEVER"), (2, u "MAYBE"), (49, u "arraycopy"), (0, u "(Ljava/lang/Object;ILjava/lang/Object;II)V"), (72, .class_ 802), (0, u "java/lang/System$Logger$Level")] 31

def k17m0 : Method := { name := "<init>", desc := "()V", sig := { parameters := [], returnType := none }, accessFlags := 2, code := none }
def k17m1 : Method := { name := "arraycopy", desc := "(Ljava/lang/Object;ILjava/lang/Object;II)V", sig := { parameters := [(.object "java/lang/Object"), .int, (.object "java/lang/Object"), .int, .int], returnType := none }, accessFlags := 265, code := none }
/-- java/lang/System -/
def k17 : Class := { plain "java/lang/System" (some 0) with
  accessFlags := 49
  interfaces := #[]
  cf := some (fileOf pool17 8 #[.nestMembers #[319, 327, 801, 108, 663, 208]] #[{ accessFlags := 2, nameIndex := 5, descriptorIndex := 6, attributes := #[] }, { accessFlags := 265, nameIndex := 727, descriptorIndex := 728, attributes := #[] }] 49 2 #[] #[{ accessFlags := 25, nameIndex := 507, descriptorIndex := 526, attributes := #[] }, { accessFlags := 25, nameIndex := 399, descriptorIndex := 155, attributes := #[] }, { accessFlags := 25, nameIndex := 396, descriptorIndex := 155, attributes := #[] }, { accessFlags := 10, nameIndex := 525, descriptorIndex := 526, attributes := #[] }, { accessFlags := 26, nameIndex := 674, descriptorIndex := 12, attributes := #[] }, { accessFlags := 26, nameIndex := 677, descriptorIndex := 12, attributes := #[] }, { accessFlags := 10, nameIndex := 11, descriptorIndex := 12, attributes := #[] }, { accessFlags := 74, nameIndex := 175, descriptorIndex := 176, attributes := #[] }, { accessFlags := 10, nameIndex := 491, descriptorIndex := 222, attributes := #[] }, { accessFlags := 74, nameIndex := 29, descriptorIndex := 30, attributes := #[] }, { accessFlags := 74, nameIndex := 154, descriptorIndex := 155, attributes := #[] }, { accessFlags := 10, nameIndex := 217, descriptorIndex := 218, attributes := #[] }, { accessFlags := 10, nameIndex := 221, descriptorIndex := 222, attributes := #[] }, { accessFlags := 8, nameIndex := 562, descriptorIndex := 563, attributes := #[] }])
  fields := #[{ name := "in", type := (.object "java/io/InputStream"), accessFlags := 25, slot := 0, constantValue := 0 }, { name := "out", type := (.object "java/io/PrintStream"), accessFlags := 25, slot := 1, constantValue := 0 }, { name := "err", type := (.object "java/io/PrintStream"), accessFlags := 25, slot := 2, constantValue := 0 }, { name := "initialIn", type := (.object "java/io/InputStream"), accessFlags := 10, slot := 3, constantValue := 0 }, { name := "NEVER", type := .int, accessFlags := 26, slot := 4, constantValue := 0 }, { name := "MAYBE", type := .int, accessFlags := 26, slot := 5, constantValue := 0 }, { name := "allowSecurityManager", type := .int, accessFlags := 10, slot := 6, constantValue := 0 }, { name := "security", type := (.object "java/lang/SecurityManager"), accessFlags := 74, slot := 7, constantValue := 0 }, { name := "notSupportedJnuEncoding", type := (.object "java/lang/String"), accessFlags := 10, slot := 8, constantValue := 0 }, { name := "cons", type := (.object "java/io/Console"), accessFlags := 74, slot := 9, constantValue := 0 }, { name := "initialErrStream", type := (.object "java/io/PrintStream"), accessFlags := 74, slot := 10, constantValue := 0 }, { name := "props", type := (.object "java/util/Properties"), accessFlags := 10, slot := 11, constantValue := 0 }, { name := "lineSeparator", type := (.object "java/lang/String"), accessFlags := 10, slot := 12, constantValue := 0 }, { name := "bootLayer", type := (.object "java/lang/ModuleLayer"), accessFlags := 8, slot := 13, constantValue := 0 }]
  methods := #[k17m0, k17m1]
  instanceTypes := #[]
  staticTypes := #[(.object "java/io/InputStream"), (.object "java/io/PrintStream"), (.object "java/io/PrintStream"), (.object "java/io/InputStream"), .int, .int, .int, (.object "java/lang/SecurityManager"), (.object "java/lang/String"), (.object "java/io/Console"), (.object "java/io/PrintStream"), (.object "java/util/Properties"), (.object "java/lang/String"), (.object "java/lang/ModuleLayer")]
  resolved := Array.replicate 834 none
  statics := none }

def pool18 : Array CpInfo := pool [(2, .class_ 4), (1, u "java/lang/Object"), (0, u "<init>"), (0, u "()V"), (7, .class_ 16), (1, u "java/util/Arrays"), (57, .class_ 76), (1, u "java/util/Arrays$NaturalOrder"), (32, u "()Ljava/lang/Object;"), (3, .class_ 115), (1, u "java/util/Arrays$LegacyMergeSort"), (1, u "Z"), (10, .nameAndType 129 109), (0, u "clone"), (9, u "copyOfRange"), (10, .methodref 151 152), (0, .class_ 153), (0, .nameAndType 154 155), (0, u "java/lang/System"), (0, u "arraycopy"), (0, u "(Ljava/lang/Object;ILjava/lang/Object;II)V"), (146, u "copyOf"), (1, .methodref 305 306), (0, .class_ 307), (0, .nameAndType 308 309), (0, u "java/lang/Math"), (0, u "min"), (0, u "(II)I"), (0, .methodref 311 128), (0, .class_ 312), (0, u "[B"), (26, .methodref 14 340), (0, .nameAndType 341 342), (0, u "copyOfRangeByte"), (0, u "([BII)[B"), (0, .methodref 14 344), (0, .nameAndType 345 346), (0, u "checkLength"), (0, u "(II)V"), (28, .class_ 376), (0, u "java/util/Arrays$ArrayList"), (68, u "$assertionsDisabled"), (269, u "MIN_ARRAY_SORT_GRAN"), (0, u "I"), (2, u "INSERTIONSORT_THRESHOLD"), (120, u "fill"), (9, u "([BB)V"), (18, u "([BI)[B"), (105, .class_ 976), (0, u "java/util/Arrays$ArrayItr")] 52

def k18m0 : Method := { name := "<init>", desc := "()V", sig := { parameters := [], returnType := none }, accessFlags := 2, code := none }
def k18c1 : Code := { maxStack := 3, maxLocals := 4, code := jdk_65_method_109_code, exceptionTable := #[], attributes := #[] }
def k18m1 : Method := { name := "fill", desc := "([BB)V", sig := { parameters := [(.array .byte), .byte], returnType := none }, accessFlags := 9, code := some k18c1 }
def k18c2 : Code := { maxStack := 6, maxLocals := 3, code := jdk_65_method_121_code, exceptionTable := #[], attributes := #[] }
def k18m2 : Method := { name := "copyOf", desc := "([BI)[B", sig := { parameters := [(.array .byte), .int], returnType := some (.array .byte) }, accessFlags := 9, code := some k18c2 }
def k18c3 : Code := { maxStack := 4, maxLocals := 2, code := jdk_65_method_131_code, exceptionTable := #[], attributes := #[] }
def k18m3 : Method := { name := "checkLength", desc := "(II)V", sig := { parameters := [.int, .int], returnType := none }, accessFlags := 10, code := some k18c3 }
def k18c4 : Code := { maxStack := 3, maxLocals := 3, code := jdk_65_method_132_code, exceptionTable := #[], attributes := #[] }
def k18m4 : Method := { name := "copyOfRange", desc := "([BII)[B", sig := { parameters := [(.array .byte), .int, .int], returnType := some (.array .byte) }, accessFlags := 9, code := some k18c4 }
def k18c5 : Code := { maxStack := 6, maxLocals := 5, code := jdk_65_method_133_code, exceptionTable := #[], attributes := #[] }
def k18m5 : Method := { name := "copyOfRangeByte", desc := "([BII)[B", sig := { parameters := [(.array .byte), .int, .int], returnType := some (.array .byte) }, accessFlags := 10, code := some k18c5 }
/-- java/util/Arrays -/
def k18 : Class := { plain "java/util/Arrays" (some 0) with
  accessFlags := 49
  interfaces := #[]
  cf := some (fileOf pool18 14 #[.nestMembers #[975, 375, 113, 74]] #[{ accessFlags := 2, nameIndex := 5, descriptorIndex := 6, attributes := #[] }, { accessFlags := 9, nameIndex := 840, descriptorIndex := 850, attributes := #[] }, { accessFlags := 9, nameIndex := 302, descriptorIndex := 869, attributes := #[] }, { accessFlags := 10, nameIndex := 345, descriptorIndex := 346, attributes := #[] }, { accessFlags := 9, nameIndex := 139, descriptorIndex := 342, attributes := #[] }, { accessFlags := 10, nameIndex := 341, descriptorIndex := 342, attributes := #[] }] 49 2 #[] #[{ accessFlags := 26, nameIndex := 715, descriptorIndex := 716, attributes := #[] }, { accessFlags := 26, nameIndex := 719, descriptorIndex := 716, attributes := #[] }, { accessFlags := 4120, nameIndex := 445, descriptorIndex := 117, attributes := #[] }])
  fields := #[{ name := "MIN_ARRAY_SORT_GRAN", type := .int, accessFlags := 26, slot := 0, constantValue := 0 }, { name := "INSERTIONSORT_THRESHOLD", type := .int, accessFlags := 26, slot := 1, constantValue := 0 }, { name := "$assertionsDisabled", type := .boolean, accessFlags := 4120, slot := 2, constantValue := 0 }]
  methods := #[k18m0, k18m1, k18m2, k18m3, k18m4, k18m5]
  instanceTypes := #[]
  staticTypes := #[.int, .int, .boolean]
  resolved := Array.replicate 1029 none
  statics := none }

def pool19 : Array CpInfo := pool [(1, .class_ 2), (0, u "java/lang/String"), (1, .class_ 6), (1, u "java/lang/Object"), (0, u "<init>"), (0, u "()V"), (0, .methodref 1 10), (0, .nameAndType 11 12), (0, u "checkIndex"), (0, u "(II)V"), (1, .class_ 16), (1, u "java/lang/StringLatin1"), (36, u "([BI)C"), (67, u "$assertionsDisabled"), (0, u "Z"), (98, .class_ 223), (1, u "java/lang/StringLatin1$LinesSpliterator"), (28, u "charAt"), (137, .class_ 391), (0, u "java/lang/StringLatin1$CharsSpliterator")] 3

def k19m0 : Method := { name := "<init>", desc := "()V", sig := { parameters := [], returnType := none }, accessFlags := 0, code := none }
def k19c1 : Code := { maxStack := 2, maxLocals := 2, code := jdk_43_method_2_code, exceptionTable := #[], attributes := #[] }
def k19m1 : Method := { name := "charAt", desc := "([BI)C", sig := { parameters := [(.array .byte), .int], returnType := some .char }, accessFlags := 9, code := some k19c1 }
/-- java/lang/StringLatin1 -/
def k19 : Class := { plain "java/lang/StringLatin1" (some 0) with
  accessFlags := 48
  interfaces := #[]
  cf := some (fileOf pool19 14 #[.nestMembers #[390, 221]] #[{ accessFlags := 0, nameIndex := 7, descriptorIndex := 8, attributes := #[] }, { accessFlags := 9, nameIndex := 252, descriptorIndex := 53, attributes := #[] }] 48 4 #[] #[{ accessFlags := 4120, nameIndex := 121, descriptorIndex := 122, attributes := #[] }])
  fields := #[{ name := "$assertionsDisabled", type := .boolean, accessFlags := 4120, slot := 0, constantValue := 0 }]
  methods := #[k19m0, k19m1]
  instanceTypes := #[]
  staticTypes := #[.boolean]
  resolved := Array.replicate 395 none
  statics := none }

def pool20 : Array CpInfo := pool [(2, .class_ 4), (1, u "java/lang/Object"), (0, u "<init>"), (0, u "()V"), (17, .class_ 26), (1, u "jdk/internal/util/Preconditions"), (6, u "checkIndex"), (21, .class_ 56), (0, u "jdk/internal/util/Preconditions$4"), (57, .class_ 115), (0, u "jdk/internal/util/Preconditions$1"), (7, u "SIOOBE_FORMATTER"), (0, u "Ljava/util/function/BiFunction;"), (0, .class_ 126), (0, u "jdk/internal/util/Preconditions$2"), (3, u "AIOOBE_FORMATTER"), (0, .class_ 132), (0, u "jdk/internal/util/Preconditions$3"), (3, u "IOOBE_FORMATTER"), (41, u "(IILjava/util/function/BiFunction;)I")] 15

def k20m0 : Method := { name := "<init>", desc := "()V", sig := { parameters := [], returnType := none }, accessFlags := 1, code := none }
def k20c1 : Code := { maxStack := 3, maxLocals := 3, code := jdk_41_method_11_code, exceptionTable := #[], attributes := #[] }
def k20m1 : Method := { name := "checkIndex", desc := "(IILjava/util/function/BiFunction;)I", sig := { parameters := [.int, .int, (.object "java/util/function/BiFunction")], returnType := some .int }, accessFlags := 9, code := some k20c1 }
/-- jdk/internal/util/Preconditions -/
def k20 : Class := { plain "jdk/internal/util/Preconditions" (some 0) with
  accessFlags := 33
  interfaces := #[]
  cf := some (fileOf pool20 24 #[.nestMembers #[55, 131, 125, 114]] #[{ accessFlags := 1, nameIndex := 5, descriptorIndex := 6, attributes := #[] }, { accessFlags := 9, nameIndex := 33, descriptorIndex := 178, attributes := #[] }] 33 2 #[] #[{ accessFlags := 25, nameIndex := 123, descriptorIndex := 124, attributes := #[] }, { accessFlags := 25, nameIndex := 130, descriptorIndex := 124, attributes := #[] }, { accessFlags := 25, nameIndex := 136, descriptorIndex := 124, attributes := #[] }])
  fields := #[{ name := "SIOOBE_FORMATTER", type := (.object "java/util/function/BiFunction"), accessFlags := 25, slot := 0, constantValue := 0 }, { name := "AIOOBE_FORMATTER", type := (.object "java/util/function/BiFunction"), accessFlags := 25, slot := 1, constantValue := 0 }, { name := "IOOBE_FORMATTER", type := (.object "java/util/function/BiFunction"), accessFlags := 25, slot := 2, constantValue := 0 }]
  methods := #[k20m0, k20m1]
  instanceTypes := #[]
  staticTypes := #[(.object "java/util/function/BiFunction"), (.object "java/util/function/BiFunction"), (.object "java/util/function/BiFunction")]
  resolved := Array.replicate 194 none
  statics := some 2 }

def pool21 : Array CpInfo := pool [(9, u "<init>"), (6, .class_ 18), (1, u "java/lang/Object"), (0, u "()V"), (1, .class_ 23), (1, u "jdk/internal/util/ArraysSupport"), (0, u "LOG2_ARRAY_LONG_INDEX_SCALE"), (0, u "I"), (2, u "U"), (0, u "Ljdk/internal/misc/Unsafe;"), (8, u "BIG_ENDIAN"), (0, u "Z"), (8, u "LOG2_BYTE_BIT_SIZE"), (4, u "LOG2_ARRAY_INT_INDEX_SCALE"), (54, u "JLA"), (0, u "Ljdk/internal/access/JavaLangAccess;"), (11, u "LOG2_ARRAY_BOOLEAN_INDEX_SCALE"), (9, u "LOG2_ARRAY_BYTE_INDEX_SCALE"), (5, u "LOG2_ARRAY_CHAR_INDEX_SCALE"), (5, u "LOG2_ARRAY_SHORT_INDEX_SCALE"), (18, u "LOG2_ARRAY_FLOAT_INDEX_SCALE"), (24, u "LOG2_ARRAY_DOUBLE_INDEX_SCALE"), (6, .methodref 195 196), (0, .class_ 197), (0, .nameAndType 198 199), (0, u "java/lang/Math"), (0, u "max"), (0, u "(II)I"), (0, .integer 2147483639), (76, u "T_BOOLEAN"), (2, u "T_CHAR"), (1, u "T_FLOAT"), (1, u "T_DOUBLE"), (1, u "T_BYTE"), (1, u "T_SHORT"), (1, u "T_INT"), (1, u "T_LONG"), (1, u "SOFT_MAX_ARRAY_LENGTH"), (56, u "newLength"), (0, u "(III)I")] 25

def k21m0 : Method := { name := "<init>", desc := "()V", sig := { parameters := [], returnType := none }, accessFlags := 2, code := none }
def k21c1 : Code := { maxStack := 3, maxLocals := 4, code := jdk_48_method_27_code, exceptionTable := #[], attributes := #[] }
def k21m1 : Method := { name := "newLength", desc := "(III)I", sig := { parameters := [.int, .int, .int], returnType := some .int }, accessFlags := 9, code := some k21c1 }
/-- jdk/internal/util/ArraysSupport -/
def k21 : Class := { plain "jdk/internal/util/ArraysSupport" (some 0) with
  accessFlags := 33
  interfaces := #[]
  cf := some (fileOf pool21 21 #[] #[{ accessFlags := 2, nameIndex := 9, descriptorIndex := 19, attributes := #[] }, { accessFlags := 9, nameIndex := 351, descriptorIndex := 352, attributes := #[] }] 33 16 #[] #[{ accessFlags := 24, nameIndex := 28, descriptorIndex := 29, attributes := #[] }, { accessFlags := 26, nameIndex := 38, descriptorIndex := 39, attributes := #[] }, { accessFlags := 25, nameIndex := 121, descriptorIndex := 25, attributes := #[] }, { accessFlags := 25, nameIndex := 131, descriptorIndex := 25, attributes := #[] }, { accessFlags := 25, nameIndex := 137, descriptorIndex := 25, attributes := #[] }, { accessFlags := 25, nameIndex := 143, descriptorIndex := 25, attributes := #[] }, { accessFlags := 25, nameIndex := 53, descriptorIndex := 25, attributes := #[] }, { accessFlags := 25, nameIndex := 24, descriptorIndex := 25, attributes := #[] }, { accessFlags := 25, nameIndex := 162, descriptorIndex := 25, attributes := #[] }, { accessFlags := 25, nameIndex := 187, descriptorIndex := 25, attributes := #[] }, { accessFlags := 26, nameIndex := 48, descriptorIndex := 25, attributes := #[] }, { accessFlags := 25, nameIndex := 277, descriptorIndex := 25, attributes := #[] }, { accessFlags := 25, nameIndex := 280, descriptorIndex := 25, attributes := #[] }, { accessFlags := 25, nameIndex := 282, descriptorIndex := 25, attributes := #[] }, { accessFlags := 25, nameIndex := 284, descriptorIndex := 25, attributes := #[] }, { accessFlags := 25, nameIndex := 286, descriptorIndex := 25, attributes := #[] }, { accessFlags := 25, nameIndex := 288, descriptorIndex := 25, attributes := #[] }, { accessFlags := 25, nameIndex := 290, descriptorIndex := 25, attributes := #[] }, { accessFlags := 25, nameIndex := 292, descriptorIndex := 25, attributes := #[] }, { accessFlags := 26, nameIndex := 108, descriptorIndex := 109, attributes := #[] }, { accessFlags := 25, nameIndex := 294, descriptorIndex := 25, attributes := #[] }])
  fields := #[{ name := "U", type := (.object "jdk/internal/misc/Unsafe"), accessFlags := 24, slot := 0, constantValue := 0 }, { name := "BIG_ENDIAN", type := .boolean, accessFlags := 26, slot := 1, constantValue := 0 }, { name := "LOG2_ARRAY_BOOLEAN_INDEX_SCALE", type := .int, accessFlags := 25, slot := 2, constantValue := 0 }, { name := "LOG2_ARRAY_BYTE_INDEX_SCALE", type := .int, accessFlags := 25, slot := 3, constantValue := 0 }, { name := "LOG2_ARRAY_CHAR_INDEX_SCALE", type := .int, accessFlags := 25, slot := 4, constantValue := 0 }, { name := "LOG2_ARRAY_SHORT_INDEX_SCALE", type := .int, accessFlags := 25, slot := 5, constantValue := 0 }, { name := "LOG2_ARRAY_INT_INDEX_SCALE", type := .int, accessFlags := 25, slot := 6, constantValue := 0 }, { name := "LOG2_ARRAY_LONG_INDEX_SCALE", type := .int, accessFlags := 25, slot := 7, constantValue := 0 }, { name := "LOG2_ARRAY_FLOAT_INDEX_SCALE", type := .int, accessFlags := 25, slot := 8, constantValue := 0 }, { name := "LOG2_ARRAY_DOUBLE_INDEX_SCALE", type := .int, accessFlags := 25, slot := 9, constantValue := 0 }, { name := "LOG2_BYTE_BIT_SIZE", type := .int, accessFlags := 26, slot := 10, constantValue := 0 }, { name := "T_BOOLEAN", type := .int, accessFlags := 25, slot := 11, constantValue := 0 }, { name := "T_CHAR", type := .int, accessFlags := 25, slot := 12, constantValue := 0 }, { name := "T_FLOAT", type := .int, accessFlags := 25, slot := 13, constantValue := 0 }, { name := "T_DOUBLE", type := .int, accessFlags := 25, slot := 14, constantValue := 0 }, { name := "T_BYTE", type := .int, accessFlags := 25, slot := 15, constantValue := 0 }, { name := "T_SHORT", type := .int, accessFlags := 25, slot := 16, constantValue := 0 }, { name := "T_INT", type := .int, accessFlags := 25, slot := 17, constantValue := 0 }, { name := "T_LONG", type := .int, accessFlags := 25, slot := 18, constantValue := 0 }, { name := "JLA", type := (.object "jdk/internal/access/JavaLangAccess"), accessFlags := 26, slot := 19, constantValue := 0 }, { name := "SOFT_MAX_ARRAY_LENGTH", type := .int, accessFlags := 25, slot := 20, constantValue := 0 }]
  methods := #[k21m0, k21m1]
  instanceTypes := #[]
  staticTypes := #[(.object "jdk/internal/misc/Unsafe"), .boolean, .int, .int, .int, .int, .int, .int, .int, .int, .int, .int, .int, .int, .int, .int, .int, .int, .int, (.object "jdk/internal/access/JavaLangAccess"), .int]
  resolved := Array.replicate 378 none
  statics := none }

def pool22 : Array CpInfo := pool [(1, .class_ 2), (0, u "java/lang/Cloneable"), (0, .class_ 4), (0, u "java/lang/Object")] 2

/-- java/lang/Cloneable -/
def k22 : Class := { plain "java/lang/Cloneable" (some 0) with
  accessFlags := 1537
  interfaces := #[]
  cf := some (fileOf pool22 1 #[] #[] 1537 3 #[] #[])
  fields := #[]
  methods := #[]
  instanceTypes := #[]
  staticTypes := #[]
  resolved := Array.replicate 7 none
  statics := none }

/-- the primitive byte -/
def k23 : Class := { plain "byte" none with kind := .primitive 'B', accessFlags := 0x411 }
/-- [B -/
def k24 : Class := { plain "[B" (some 0) with kind := .array 23 .byte, interfaces := #[22, 5], accessFlags := 1041 }

/-- the primitive int -/
def k25 : Class := { plain "int" none with kind := .primitive 'I', accessFlags := 0x411 }
/-- [I -/
def k26 : Class := { plain "[I" (some 0) with kind := .array 25 .int, interfaces := #[22, 5], accessFlags := 1041 }

/-- the primitive long -/
def k27 : Class := { plain "long" none with kind := .primitive 'J', accessFlags := 0x411 }
/-- [J -/
def k28 : Class := { plain "[J" (some 0) with kind := .array 27 .long, interfaces := #[22, 5], accessFlags := 1041 }

def heap : Heap := #[{ cls := 12, slots := #[.long 0, .int 1, .null, .int 0, .null, .int 0, .int 0], vm := .statics 12 },
  { cls := 13, slots := #[.int 0, .int 0, .null, .null, .ref 4, .ref 3, .int 0, .int 0, .long 0], vm := .statics 13 },
  { cls := 20, slots := #[.null, .null, .null], vm := .statics 20 },
  { cls := 24, slots := #[.int 48, .int 49, .int 50, .int 51, .int 52, .int 53, .int 54, .int 55, .int 56, .int 57, .int 48, .int 49, .int 50, .int 51, .int 52, .int 53, .int 54, .int 55, .int 56, .int 57, .int 48, .int 49, .int 50, .int 51, .int 52, .int 53, .int 54, .int 55, .int 56, .int 57, .int 48, .int 49, .int 50, .int 51, .int 52, .int 53, .int 54, .int 55, .int 56, .int 57, .int 48, .int 49, .int 50, .int 51, .int 52, .int 53, .int 54, .int 55, .int 56, .int 57, .int 48, .int 49, .int 50, .int 51, .int 52, .int 53, .int 54, .int 55, .int 56, .int 57, .int 48, .int 49, .int 50, .int 51, .int 52, .int 53, .int 54, .int 55, .int 56, .int 57, .int 48, .int 49, .int 50, .int 51, .int 52, .int 53, .int 54, .int 55, .int 56, .int 57, .int 48, .int 49, .int 50, .int 51, .int 52, .int 53, .int 54, .int 55, .int 56, .int 57, .int 48, .int 49, .int 50, .int 51, .int 52, .int 53, .int 54, .int 55, .int 56, .int 57], vm := .none },
  { cls := 24, slots := #[.int 48, .int 48, .int 48, .int 48, .int 48, .int 48, .int 48, .int 48, .int 48, .int 48, .int 49, .int 49, .int 49, .int 49, .int 49, .int 49, .int 49, .int 49, .int 49, .int 49, .int 50, .int 50, .int 50, .int 50, .int 50, .int 50, .int 50, .int 50, .int 50, .int 50, .int 51, .int 51, .int 51, .int 51, .int 51, .int 51, .int 51, .int 51, .int 51, .int 51, .int 52, .int 52, .int 52, .int 52, .int 52, .int 52, .int 52, .int 52, .int 52, .int 52, .int 53, .int 53, .int 53, .int 53, .int 53, .int 53, .int 53, .int 53, .int 53, .int 53, .int 54, .int 54, .int 54, .int 54, .int 54, .int 54, .int 54, .int 54, .int 54, .int 54, .int 55, .int 55, .int 55, .int 55, .int 55, .int 55, .int 55, .int 55, .int 55, .int 55, .int 56, .int 56, .int 56, .int 56, .int 56, .int 56, .int 56, .int 56, .int 56, .int 56, .int 57, .int 57, .int 57, .int 57, .int 57, .int 57, .int 57, .int 57, .int 57, .int 57], vm := .none }]
def classes : Array Class := #[k0, k1, k2, k3, k4, k5, k6, k7, k8, k9, k10, k11, k12, k13, k14, k15, k16, k17, k18, k19, k20, k21, k22, k23, k24, k25, k26, k27, k28]
def interned : List (Array UInt16 × Addr) := []
def slotsUsed : Nat := 219
def theMethod : MethodId := ⟨1, 2⟩
def args0 : Array Value := #[.long 5, .int 5, .int 5]
def aboutOver (below : List Frame) : State where
  vm := { classes := classes, interned := interned.toArray }
  heap := heap
  slotsUsed := slotsUsed
  threads := #[{ frames := .invoking theMethod args0 :: below }]
def below0 : List Frame := [.native { method := ⟨0, 0⟩, args := #[] }]
def about1 : State := aboutOver below0
def p0 : Program := .bare "" "" ""
def e0 : Env := launch0.env 0 0 0
theorem w_frames : about1.frames = Frame.invoking theMethod args0 :: below0 := rfl
set_option maxRecDepth 65536 in
theorem w_args : argsFit about1.vm theMethod args0 = true := by decide +kernel
set_option maxRecDepth 65536 in
theorem w_heap : heapFits about1 = true := by decide +kernel
set_option maxRecDepth 65536 in
theorem w_runnable : about1.curStatus? = some .runnable := by decide +kernel
set_option maxRecDepth 65536 in
theorem w_alone : about1.alone = true := by decide +kernel
set_option maxRecDepth 65536 in
theorem w_named : about1.methodNamed? x = some theMethod := by decide +kernel
set_option maxRecDepth 65536 in
theorem w_hears : about1.hears theMethod below0 = true := by decide +kernel
set_option maxRecDepth 65536 in
theorem w_ripe : about1.ripe theMethod args0 below0 = true := by decide +kernel
theorem w_running : about1.status = .running := rfl
set_option maxRecDepth 65536 in
theorem w_room : about1.hasRoom e0.platform room_1 = true :=
  launch0.hasRoom_least _ room_1 (by decide +kernel) (by decide +kernel) (by decide +kernel) (by decide +kernel) (by decide +kernel) (by decide +kernel)
theorem allAtoms_all (ts : List Jvm.Cond) (a : Array Jvm.Value) (st : Jvm.State) : (allAtoms ts).before a st = ts.all (fun c => c.before a st) := by
  induction ts with
  | nil => rfl
  | cons c t ih =>
    show (Jvm.Cond.and c (allAtoms t)).before a st = _
    rw [Jvm.Cond.before_and, ih, List.all_cons]
def words1 : List Jvm.Cond := Jvm.Cond.code x code maxLocals ret :: tables_1
/-- a 'code' word, met by the world's own term for the bytes: nothing is compared byte by byte -/
theorem code_word {y : MethodName} {bytes : ByteArray} {mx : Nat} {rt : Option FieldType} {a : Array Value} {s : State} {m : MethodId} {meth : Method} {c : Code} (h1 : s.methodNamed? y = some m) (h2 : s.vm.method? m = some meth) (h3 : meth.code = some c) (h4 : c.code = bytes)
    (h5 : (c.maxLocals == mx && c.exceptionTable.isEmpty && decide (c.maxStack ≤ mostOperands) && decide (meth.sig.returnType = rt) && !meth.locks && decide (parseMethodDescriptor y.desc = some meth.sig)) = true) : (Jvm.Cond.code y bytes mx rt).before a s = true := by
  simp only [Bool.and_eq_true, beq_iff_eq, Bool.not_eq_true', decide_eq_true_eq] at h5
  obtain ⟨⟨⟨⟨⟨g1, g2⟩, g3⟩, g4⟩, g5⟩, g6⟩ := h5
  simp [Cond.before, Cond.holds, Cond.value, h1, h2, h3, h4, g1, g2, g3, g4, g5, g6]
def isCode : Jvm.Cond → Bool
  | .code _ _ _ _ => true
  | _ => false
theorem all_split {L : List Jvm.Cond} {P : Jvm.Cond → Bool} (h1 : L.all (fun c => isCode c || P c) = true) (h2 : ∀ c ∈ L.filter isCode, P c = true) : L.all P = true := by
  refine List.all_eq_true.mpr fun c hc => ?_
  have h := List.all_eq_true.mp h1 c hc
  rcases Bool.eq_false_or_eq_true (isCode c) with hi | hi
  · exact h2 c (List.mem_filter.mpr ⟨hc, hi⟩)
  · simpa [hi] using h
set_option maxRecDepth 65536 in
theorem w_c0 : (Jvm.Cond.code x code maxLocals ret).before args0 about1 = true := code_word (m := ⟨1, 2⟩) (meth := k1m2) (c := k1c2) (by decide +kernel) rfl rfl rfl (by decide +kernel)
set_option maxRecDepth 65536 in
theorem w_c1 : (Jvm.Cond.code ({ cls := "com/example/uketsuke/uketsuke/store/IdFormatDigitsPinLaw", name := "ge", desc := "(JJ)I" } : Jvm.MethodName) method_2_code (4 : Nat) (Option.some Jvm.ClassFile.FieldType.int)).before args0 about1 = true := code_word (m := ⟨1, 1⟩) (meth := k1m1) (c := k1c1) (by decide +kernel) rfl rfl rfl (by decide +kernel)
set_option maxRecDepth 65536 in
theorem w_c2 : (Jvm.Cond.code ({ cls := "java/lang/Math", name := "max", desc := "(II)I" } : Jvm.MethodName) jdk_29_method_65_code (2 : Nat) (Option.some Jvm.ClassFile.FieldType.int)).before args0 about1 = true := code_word (m := ⟨2, 1⟩) (meth := k2m1) (c := k2c1) (by decide +kernel) rfl rfl rfl (by decide +kernel)
set_option maxRecDepth 65536 in
theorem w_c3 : (Jvm.Cond.code ({ cls := "com/example/uketsuke/uketsuke/store/IdFormat", name := "digits", desc := "(JI)Ljava/lang/String;" } : Jvm.MethodName) prog_10_method_5_code (4 : Nat) (Option.some (Jvm.ClassFile.FieldType.object "java/lang/String"))).before args0 about1 = true := code_word (m := ⟨7, 0⟩) (meth := k7m0) (c := k7c0) (by decide +kernel) rfl rfl rfl (by decide +kernel)
set_option maxRecDepth 65536 in
theorem w_c4 : (Jvm.Cond.code ({ cls := "java/lang/Long", name := "toString", desc := "(J)Ljava/lang/String;" } : Jvm.MethodName) jdk_35_method_12_code (4 : Nat) (Option.some (Jvm.ClassFile.FieldType.object "java/lang/String"))).before args0 about1 = true := code_word (m := ⟨10, 0⟩) (meth := k10m0) (c := k10c0) (by decide +kernel) rfl rfl rfl (by decide +kernel)
set_option maxRecDepth 65536 in
theorem w_c5 : (Jvm.Cond.code ({ cls := "java/lang/Long", name := "stringSize", desc := "(J)I" } : Jvm.MethodName) jdk_35_method_15_code (6 : Nat) (Option.some Jvm.ClassFile.FieldType.int)).before args0 about1 = true := code_word (m := ⟨10, 2⟩) (meth := k10m2) (c := k10c2) (by decide +kernel) rfl rfl rfl (by decide +kernel)
set_option maxRecDepth 65536 in
theorem w_c6 : (Jvm.Cond.code ({ cls := "java/lang/Long", name := "getChars", desc := "(JI[B)I" } : Jvm.MethodName) jdk_35_method_14_code (11 : Nat) (Option.some Jvm.ClassFile.FieldType.int)).before args0 about1 = true := code_word (m := ⟨10, 1⟩) (meth := k10m1) (c := k10c1) (by decide +kernel) rfl rfl rfl (by decide +kernel)
set_option maxRecDepth 65536 in
theorem w_c7 : (Jvm.Cond.code ({ cls := "java/lang/String", name := "<init>", desc := "([BB)V" } : Jvm.MethodName) jdk_42_method_151_code (3 : Nat) (Option.none : Option Jvm.ClassFile.FieldType)).before args0 about1 = true := code_word (m := ⟨12, 7⟩) (meth := k12m7) (c := k12c7) (by decide +kernel) rfl rfl rfl (by decide +kernel)
set_option maxRecDepth 65536 in
theorem w_c8 : (Jvm.Cond.code ({ cls := "java/lang/Object", name := "<init>", desc := "()V" } : Jvm.MethodName) object_method_1_code (1 : Nat) (Option.none : Option Jvm.ClassFile.FieldType)).before args0 about1 = true := code_word (m := ⟨0, 0⟩) (meth := k0m0) (c := k0c0) (by decide +kernel) rfl rfl rfl (by decide +kernel)
set_option maxRecDepth 65536 in
theorem w_c9 : (Jvm.Cond.code ({ cls := "java/lang/StringBuilder", name := "<init>", desc := "()V" } : Jvm.MethodName) jdk_67_method_1_code (1 : Nat) (Option.none : Option Jvm.ClassFile.FieldType)).before args0 about1 = true := code_word (m := ⟨16, 0⟩) (meth := k16m0) (c := k16c0) (by decide +kernel) rfl rfl rfl (by decide +kernel)
set_option maxRecDepth 65536 in
theorem w_c10 : (Jvm.Cond.code ({ cls := "java/lang/AbstractStringBuilder", name := "<init>", desc := "(I)V" } : Jvm.MethodName) jdk_68_method_2_code (2 : Nat) (Option.none : Option Jvm.ClassFile.FieldType)).before args0 about1 = true := code_word (m := ⟨15, 1⟩) (meth := k15m1) (c := k15c1) (by decide +kernel) rfl rfl rfl (by decide +kernel)
set_option maxRecDepth 65536 in
theorem w_c11 : (Jvm.Cond.code ({ cls := "java/lang/String", name := "length", desc := "()I" } : Jvm.MethodName) jdk_42_method_54_code (1 : Nat) (Option.some Jvm.ClassFile.FieldType.int)).before args0 about1 = true := code_word (m := ⟨12, 2⟩) (meth := k12m2) (c := k12c2) (by decide +kernel) rfl rfl rfl (by decide +kernel)
set_option maxRecDepth 65536 in
theorem w_c12 : (Jvm.Cond.code ({ cls := "java/lang/String", name := "coder", desc := "()B" } : Jvm.MethodName) jdk_42_method_152_code (1 : Nat) (Option.some Jvm.ClassFile.FieldType.byte)).before args0 about1 = true := code_word (m := ⟨12, 8⟩) (meth := k12m8) (c := k12c8) (by decide +kernel) rfl rfl rfl (by decide +kernel)
set_option maxRecDepth 65536 in
theorem w_c13 : (Jvm.Cond.code ({ cls := "java/lang/String", name := "repeat", desc := "(I)Ljava/lang/String;" } : Jvm.MethodName) jdk_42_method_145_code (5 : Nat) (Option.some (Jvm.ClassFile.FieldType.object "java/lang/String"))).before args0 about1 = true := code_word (m := ⟨12, 4⟩) (meth := k12m4) (c := k12c4) (by decide +kernel) rfl rfl rfl (by decide +kernel)
set_option maxRecDepth 65536 in
theorem w_c14 : (Jvm.Cond.code ({ cls := "java/lang/StringBuilder", name := "append", desc := "(Ljava/lang/String;)Ljava/lang/StringBuilder;" } : Jvm.MethodName) jdk_67_method_7_code (2 : Nat) (Option.some (Jvm.ClassFile.FieldType.object "java/lang/StringBuilder"))).before args0 about1 = true := code_word (m := ⟨16, 1⟩) (meth := k16m1) (c := k16c1) (by decide +kernel) rfl rfl rfl (by decide +kernel)
set_option maxRecDepth 65536 in
theorem w_c15 : (Jvm.Cond.code ({ cls := "java/lang/AbstractStringBuilder", name := "append", desc := "(Ljava/lang/String;)Ljava/lang/AbstractStringBuilder;" } : Jvm.MethodName) jdk_68_method_22_code (3 : Nat) (Option.some (Jvm.ClassFile.FieldType.object "java/lang/AbstractStringBuilder"))).before args0 about1 = true := code_word (m := ⟨15, 5⟩) (meth := k15m5) (c := k15c5) (by decide +kernel) rfl rfl rfl (by decide +kernel)
set_option maxRecDepth 65536 in
theorem w_c16 : (Jvm.Cond.code ({ cls := "java/lang/AbstractStringBuilder", name := "ensureCapacityInternal", desc := "(I)V" } : Jvm.MethodName) jdk_68_method_9_code (3 : Nat) (Option.none : Option Jvm.ClassFile.FieldType)).before args0 about1 = true := code_word (m := ⟨15, 3⟩) (meth := k15m3) (c := k15c3) (by decide +kernel) rfl rfl rfl (by decide +kernel)
set_option maxRecDepth 65536 in
theorem w_c17 : (Jvm.Cond.code ({ cls := "java/lang/AbstractStringBuilder", name := "putStringAt", desc := "(ILjava/lang/String;)V" } : Jvm.MethodName) jdk_68_method_73_code (3 : Nat) (Option.none : Option Jvm.ClassFile.FieldType)).before args0 about1 = true := code_word (m := ⟨15, 9⟩) (meth := k15m9) (c := k15c9) (by decide +kernel) rfl rfl rfl (by decide +kernel)
set_option maxRecDepth 65536 in
theorem w_c18 : (Jvm.Cond.code ({ cls := "java/lang/AbstractStringBuilder", name := "inflateIfNeededFor", desc := "(Ljava/lang/String;)V" } : Jvm.MethodName) jdk_68_method_71_code (2 : Nat) (Option.none : Option Jvm.ClassFile.FieldType)).before args0 about1 = true := code_word (m := ⟨15, 8⟩) (meth := k15m8) (c := k15c8) (by decide +kernel) rfl rfl rfl (by decide +kernel)
set_option maxRecDepth 65536 in
theorem w_c19 : (Jvm.Cond.code ({ cls := "java/lang/String", name := "getBytes", desc := "([BIB)V" } : Jvm.MethodName) jdk_42_method_147_code (4 : Nat) (Option.none : Option Jvm.ClassFile.FieldType)).before args0 about1 = true := code_word (m := ⟨12, 5⟩) (meth := k12m5) (c := k12c5) (by decide +kernel) rfl rfl rfl (by decide +kernel)
set_option maxRecDepth 65536 in
theorem w_c20 : (Jvm.Cond.code ({ cls := "java/lang/StringBuilder", name := "toString", desc := "()Ljava/lang/String;" } : Jvm.MethodName) jdk_67_method_42_code (1 : Nat) (Option.some (Jvm.ClassFile.FieldType.object "java/lang/String"))).before args0 about1 = true := code_word (m := ⟨16, 2⟩) (meth := k16m2) (c := k16c2) (by decide +kernel) rfl rfl rfl (by decide +kernel)
set_option maxRecDepth 65536 in
theorem w_c21 : (Jvm.Cond.code ({ cls := "java/lang/String", name := "<init>", desc := "(Ljava/lang/StringBuilder;)V" } : Jvm.MethodName) jdk_42_method_53_code (2 : Nat) (Option.none : Option Jvm.ClassFile.FieldType)).before args0 about1 = true := code_word (m := ⟨12, 1⟩) (meth := k12m1) (c := k12c1) (by decide +kernel) rfl rfl rfl (by decide +kernel)
set_option maxRecDepth 65536 in
theorem w_c22 : (Jvm.Cond.code ({ cls := "java/lang/String", name := "<init>", desc := "(Ljava/lang/AbstractStringBuilder;Ljava/lang/Void;)V" } : Jvm.MethodName) jdk_42_method_150_code (5 : Nat) (Option.none : Option Jvm.ClassFile.FieldType)).before args0 about1 = true := code_word (m := ⟨12, 6⟩) (meth := k12m6) (c := k12c6) (by decide +kernel) rfl rfl rfl (by decide +kernel)
set_option maxRecDepth 65536 in
theorem w_c23 : (Jvm.Cond.code ({ cls := "java/lang/AbstractStringBuilder", name := "getValue", desc := "()[B" } : Jvm.MethodName) jdk_68_method_64_code (1 : Nat) (Option.some (Jvm.ClassFile.FieldType.array Jvm.ClassFile.FieldType.byte))).before args0 about1 = true := code_word (m := ⟨15, 6⟩) (meth := k15m6) (c := k15c6) (by decide +kernel) rfl rfl rfl (by decide +kernel)
set_option maxRecDepth 65536 in
theorem w_c24 : (Jvm.Cond.code ({ cls := "java/lang/StringBuilder", name := "length", desc := "()I" } : Jvm.MethodName) jdk_67_method_93_code (1 : Nat) (Option.some Jvm.ClassFile.FieldType.int)).before args0 about1 = true := code_word (m := ⟨16, 3⟩) (meth := k16m3) (c := k16c3) (by decide +kernel) rfl rfl rfl (by decide +kernel)
set_option maxRecDepth 65536 in
theorem w_c25 : (Jvm.Cond.code ({ cls := "java/lang/AbstractStringBuilder", name := "length", desc := "()I" } : Jvm.MethodName) jdk_68_method_6_code (1 : Nat) (Option.some Jvm.ClassFile.FieldType.int)).before args0 about1 = true := code_word (m := ⟨15, 2⟩) (meth := k15m2) (c := k15c2) (by decide +kernel) rfl rfl rfl (by decide +kernel)
set_option maxRecDepth 65536 in
theorem w_c26 : (Jvm.Cond.code ({ cls := "java/lang/AbstractStringBuilder", name := "isLatin1", desc := "()Z" } : Jvm.MethodName) jdk_68_method_68_code (1 : Nat) (Option.some Jvm.ClassFile.FieldType.boolean)).before args0 about1 = true := code_word (m := ⟨15, 7⟩) (meth := k15m7) (c := k15c7) (by decide +kernel) rfl rfl rfl (by decide +kernel)
set_option maxRecDepth 65536 in
theorem w_c27 : (Jvm.Cond.code ({ cls := "java/util/Arrays", name := "copyOfRange", desc := "([BII)[B" } : Jvm.MethodName) jdk_65_method_132_code (3 : Nat) (Option.some (Jvm.ClassFile.FieldType.array Jvm.ClassFile.FieldType.byte))).before args0 about1 = true := code_word (m := ⟨18, 4⟩) (meth := k18m4) (c := k18c4) (by decide +kernel) rfl rfl rfl (by decide +kernel)
set_option maxRecDepth 65536 in
theorem w_c28 : (Jvm.Cond.code ({ cls := "java/util/Arrays", name := "copyOfRangeByte", desc := "([BII)[B" } : Jvm.MethodName) jdk_65_method_133_code (5 : Nat) (Option.some (Jvm.ClassFile.FieldType.array Jvm.ClassFile.FieldType.byte))).before args0 about1 = true := code_word (m := ⟨18, 5⟩) (meth := k18m5) (c := k18c5) (by decide +kernel) rfl rfl rfl (by decide +kernel)
set_option maxRecDepth 65536 in
theorem w_c29 : (Jvm.Cond.code ({ cls := "java/util/Arrays", name := "checkLength", desc := "(II)V" } : Jvm.MethodName) jdk_65_method_131_code (2 : Nat) (Option.none : Option Jvm.ClassFile.FieldType)).before args0 about1 = true := code_word (m := ⟨18, 3⟩) (meth := k18m3) (c := k18c3) (by decide +kernel) rfl rfl rfl (by decide +kernel)
set_option maxRecDepth 65536 in
theorem w_c30 : (Jvm.Cond.code ({ cls := "java/lang/Math", name := "min", desc := "(II)I" } : Jvm.MethodName) jdk_29_method_69_code (2 : Nat) (Option.some Jvm.ClassFile.FieldType.int)).before args0 about1 = true := code_word (m := ⟨2, 2⟩) (meth := k2m2) (c := k2c2) (by decide +kernel) rfl rfl rfl (by decide +kernel)
set_option maxRecDepth 65536 in
theorem w_c31 : (Jvm.Cond.code ({ cls := "java/lang/String", name := "charAt", desc := "(I)C" } : Jvm.MethodName) jdk_42_method_56_code (2 : Nat) (Option.some Jvm.ClassFile.FieldType.char)).before args0 about1 = true := code_word (m := ⟨12, 3⟩) (meth := k12m3) (c := k12c3) (by decide +kernel) rfl rfl rfl (by decide +kernel)
set_option maxRecDepth 65536 in
theorem w_c32 : (Jvm.Cond.code ({ cls := "java/lang/String", name := "isLatin1", desc := "()Z" } : Jvm.MethodName) jdk_42_method_154_code (1 : Nat) (Option.some Jvm.ClassFile.FieldType.boolean)).before args0 about1 = true := code_word (m := ⟨12, 9⟩) (meth := k12m9) (c := k12c9) (by decide +kernel) rfl rfl rfl (by decide +kernel)
set_option maxRecDepth 65536 in
theorem w_c33 : (Jvm.Cond.code ({ cls := "java/lang/StringLatin1", name := "charAt", desc := "([BI)C" } : Jvm.MethodName) jdk_43_method_2_code (2 : Nat) (Option.some Jvm.ClassFile.FieldType.char)).before args0 about1 = true := code_word (m := ⟨19, 1⟩) (meth := k19m1) (c := k19c1) (by decide +kernel) rfl rfl rfl (by decide +kernel)
set_option maxRecDepth 65536 in
theorem w_c34 : (Jvm.Cond.code ({ cls := "java/lang/String", name := "checkIndex", desc := "(II)V" } : Jvm.MethodName) jdk_42_method_155_code (2 : Nat) (Option.none : Option Jvm.ClassFile.FieldType)).before args0 about1 = true := code_word (m := ⟨12, 10⟩) (meth := k12m10) (c := k12c10) (by decide +kernel) rfl rfl rfl (by decide +kernel)
set_option maxRecDepth 65536 in
theorem w_c35 : (Jvm.Cond.code ({ cls := "jdk/internal/util/Preconditions", name := "checkIndex", desc := "(IILjava/util/function/BiFunction;)I" } : Jvm.MethodName) jdk_41_method_11_code (3 : Nat) (Option.some Jvm.ClassFile.FieldType.int)).before args0 about1 = true := code_word (m := ⟨20, 1⟩) (meth := k20m1) (c := k20c1) (by decide +kernel) rfl rfl rfl (by decide +kernel)
set_option maxRecDepth 65536 in
theorem w_c36 : (Jvm.Cond.code ({ cls := "java/lang/AbstractStringBuilder", name := "newCapacity", desc := "(I)I" } : Jvm.MethodName) jdk_68_method_10_code (6 : Nat) (Option.some Jvm.ClassFile.FieldType.int)).before args0 about1 = true := code_word (m := ⟨15, 4⟩) (meth := k15m4) (c := k15c4) (by decide +kernel) rfl rfl rfl (by decide +kernel)
set_option maxRecDepth 65536 in
theorem w_c37 : (Jvm.Cond.code ({ cls := "jdk/internal/util/ArraysSupport", name := "newLength", desc := "(III)I" } : Jvm.MethodName) jdk_48_method_27_code (4 : Nat) (Option.some Jvm.ClassFile.FieldType.int)).before args0 about1 = true := code_word (m := ⟨21, 1⟩) (meth := k21m1) (c := k21c1) (by decide +kernel) rfl rfl rfl (by decide +kernel)
set_option maxRecDepth 65536 in
theorem w_c38 : (Jvm.Cond.code ({ cls := "java/util/Arrays", name := "copyOf", desc := "([BI)[B" } : Jvm.MethodName) jdk_65_method_121_code (3 : Nat) (Option.some (Jvm.ClassFile.FieldType.array Jvm.ClassFile.FieldType.byte))).before args0 about1 = true := code_word (m := ⟨18, 2⟩) (meth := k18m2) (c := k18c2) (by decide +kernel) rfl rfl rfl (by decide +kernel)
set_option maxRecDepth 65536 in
theorem w_c39 : (Jvm.Cond.code ({ cls := "java/util/Arrays", name := "fill", desc := "([BB)V" } : Jvm.MethodName) jdk_65_method_109_code (4 : Nat) (Option.none : Option Jvm.ClassFile.FieldType)).before args0 about1 = true := code_word (m := ⟨18, 1⟩) (meth := k18m1) (c := k18c1) (by decide +kernel) rfl rfl rfl (by decide +kernel)
def codes1 : List Jvm.Cond := [Jvm.Cond.code x code maxLocals ret, Jvm.Cond.code ({ cls := "com/example/uketsuke/uketsuke/store/IdFormatDigitsPinLaw", name := "ge", desc := "(JJ)I" } : Jvm.MethodName) method_2_code (4 : Nat) (Option.some Jvm.ClassFile.FieldType.int), Jvm.Cond.code ({ cls := "java/lang/Math", name := "max", desc := "(II)I" } : Jvm.MethodName) jdk_29_method_65_code (2 : Nat) (Option.some Jvm.ClassFile.FieldType.int), Jvm.Cond.code ({ cls := "com/example/uketsuke/uketsuke/store/IdFormat", name := "digits", desc := "(JI)Ljava/lang/String;" } : Jvm.MethodName) prog_10_method_5_code (4 : Nat) (Option.some (Jvm.ClassFile.FieldType.object "java/lang/String")), Jvm.Cond.code ({ cls := "java/lang/Long", name := "toString", desc := "(J)Ljava/lang/String;" } : Jvm.MethodName) jdk_35_method_12_code (4 : Nat) (Option.some (Jvm.ClassFile.FieldType.object "java/lang/String")), Jvm.Cond.code ({ cls := "java/lang/Long", name := "stringSize", desc := "(J)I" } : Jvm.MethodName) jdk_35_method_15_code (6 : Nat) (Option.some Jvm.ClassFile.FieldType.int), Jvm.Cond.code ({ cls := "java/lang/Long", name := "getChars", desc := "(JI[B)I" } : Jvm.MethodName) jdk_35_method_14_code (11 : Nat) (Option.some Jvm.ClassFile.FieldType.int), Jvm.Cond.code ({ cls := "java/lang/String", name := "<init>", desc := "([BB)V" } : Jvm.MethodName) jdk_42_method_151_code (3 : Nat) (Option.none : Option Jvm.ClassFile.FieldType), Jvm.Cond.code ({ cls := "java/lang/Object", name := "<init>", desc := "()V" } : Jvm.MethodName) object_method_1_code (1 : Nat) (Option.none : Option Jvm.ClassFile.FieldType), Jvm.Cond.code ({ cls := "java/lang/StringBuilder", name := "<init>", desc := "()V" } : Jvm.MethodName) jdk_67_method_1_code (1 : Nat) (Option.none : Option Jvm.ClassFile.FieldType), Jvm.Cond.code ({ cls := "java/lang/AbstractStringBuilder", name := "<init>", desc := "(I)V" } : Jvm.MethodName) jdk_68_method_2_code (2 : Nat) (Option.none : Option Jvm.ClassFile.FieldType), Jvm.Cond.code ({ cls := "java/lang/String", name := "length", desc := "()I" } : Jvm.MethodName) jdk_42_method_54_code (1 : Nat) (Option.some Jvm.ClassFile.FieldType.int), Jvm.Cond.code ({ cls := "java/lang/String", name := "coder", desc := "()B" } : Jvm.MethodName) jdk_42_method_152_code (1 : Nat) (Option.some Jvm.ClassFile.FieldType.byte), Jvm.Cond.code ({ cls := "java/lang/String", name := "repeat", desc := "(I)Ljava/lang/String;" } : Jvm.MethodName) jdk_42_method_145_code (5 : Nat) (Option.some (Jvm.ClassFile.FieldType.object "java/lang/String")), Jvm.Cond.code ({ cls := "java/lang/StringBuilder", name := "append", desc := "(Ljava/lang/String;)Ljava/lang/StringBuilder;" } : Jvm.MethodName) jdk_67_method_7_code (2 : Nat) (Option.some (Jvm.ClassFile.FieldType.object "java/lang/StringBuilder")), Jvm.Cond.code ({ cls := "java/lang/AbstractStringBuilder", name := "append", desc := "(Ljava/lang/String;)Ljava/lang/AbstractStringBuilder;" } : Jvm.MethodName) jdk_68_method_22_code (3 : Nat) (Option.some (Jvm.ClassFile.FieldType.object "java/lang/AbstractStringBuilder")), Jvm.Cond.code ({ cls := "java/lang/AbstractStringBuilder", name := "ensureCapacityInternal", desc := "(I)V" } : Jvm.MethodName) jdk_68_method_9_code (3 : Nat) (Option.none : Option Jvm.ClassFile.FieldType), Jvm.Cond.code ({ cls := "java/lang/AbstractStringBuilder", name := "putStringAt", desc := "(ILjava/lang/String;)V" } : Jvm.MethodName) jdk_68_method_73_code (3 : Nat) (Option.none : Option Jvm.ClassFile.FieldType), Jvm.Cond.code ({ cls := "java/lang/AbstractStringBuilder", name := "inflateIfNeededFor", desc := "(Ljava/lang/String;)V" } : Jvm.MethodName) jdk_68_method_71_code (2 : Nat) (Option.none : Option Jvm.ClassFile.FieldType), Jvm.Cond.code ({ cls := "java/lang/String", name := "getBytes", desc := "([BIB)V" } : Jvm.MethodName) jdk_42_method_147_code (4 : Nat) (Option.none : Option Jvm.ClassFile.FieldType), Jvm.Cond.code ({ cls := "java/lang/StringBuilder", name := "toString", desc := "()Ljava/lang/String;" } : Jvm.MethodName) jdk_67_method_42_code (1 : Nat) (Option.some (Jvm.ClassFile.FieldType.object "java/lang/String")), Jvm.Cond.code ({ cls := "java/lang/String", name := "<init>", desc := "(Ljava/lang/StringBuilder;)V" } : Jvm.MethodName) jdk_42_method_53_code (2 : Nat) (Option.none : Option Jvm.ClassFile.FieldType), Jvm.Cond.code ({ cls := "java/lang/String", name := "<init>", desc := "(Ljava/lang/AbstractStringBuilder;Ljava/lang/Void;)V" } : Jvm.MethodName) jdk_42_method_150_code (5 : Nat) (Option.none : Option Jvm.ClassFile.FieldType), Jvm.Cond.code ({ cls := "java/lang/AbstractStringBuilder", name := "getValue", desc := "()[B" } : Jvm.MethodName) jdk_68_method_64_code (1 : Nat) (Option.some (Jvm.ClassFile.FieldType.array Jvm.ClassFile.FieldType.byte)), Jvm.Cond.code ({ cls := "java/lang/StringBuilder", name := "length", desc := "()I" } : Jvm.MethodName) jdk_67_method_93_code (1 : Nat) (Option.some Jvm.ClassFile.FieldType.int), Jvm.Cond.code ({ cls := "java/lang/AbstractStringBuilder", name := "length", desc := "()I" } : Jvm.MethodName) jdk_68_method_6_code (1 : Nat) (Option.some Jvm.ClassFile.FieldType.int), Jvm.Cond.code ({ cls := "java/lang/AbstractStringBuilder", name := "isLatin1", desc := "()Z" } : Jvm.MethodName) jdk_68_method_68_code (1 : Nat) (Option.some Jvm.ClassFile.FieldType.boolean), Jvm.Cond.code ({ cls := "java/util/Arrays", name := "copyOfRange", desc := "([BII)[B" } : Jvm.MethodName) jdk_65_method_132_code (3 : Nat) (Option.some (Jvm.ClassFile.FieldType.array Jvm.ClassFile.FieldType.byte)), Jvm.Cond.code ({ cls := "java/util/Arrays", name := "copyOfRangeByte", desc := "([BII)[B" } : Jvm.MethodName) jdk_65_method_133_code (5 : Nat) (Option.some (Jvm.ClassFile.FieldType.array Jvm.ClassFile.FieldType.byte)), Jvm.Cond.code ({ cls := "java/util/Arrays", name := "checkLength", desc := "(II)V" } : Jvm.MethodName) jdk_65_method_131_code (2 : Nat) (Option.none : Option Jvm.ClassFile.FieldType), Jvm.Cond.code ({ cls := "java/lang/Math", name := "min", desc := "(II)I" } : Jvm.MethodName) jdk_29_method_69_code (2 : Nat) (Option.some Jvm.ClassFile.FieldType.int), Jvm.Cond.code ({ cls := "java/lang/String", name := "charAt", desc := "(I)C" } : Jvm.MethodName) jdk_42_method_56_code (2 : Nat) (Option.some Jvm.ClassFile.FieldType.char), Jvm.Cond.code ({ cls := "java/lang/String", name := "isLatin1", desc := "()Z" } : Jvm.MethodName) jdk_42_method_154_code (1 : Nat) (Option.some Jvm.ClassFile.FieldType.boolean), Jvm.Cond.code ({ cls := "java/lang/StringLatin1", name := "charAt", desc := "([BI)C" } : Jvm.MethodName) jdk_43_method_2_code (2 : Nat) (Option.some Jvm.ClassFile.FieldType.char), Jvm.Cond.code ({ cls := "java/lang/String", name := "checkIndex", desc := "(II)V" } : Jvm.MethodName) jdk_42_method_155_code (2 : Nat) (Option.none : Option Jvm.ClassFile.FieldType), Jvm.Cond.code ({ cls := "jdk/internal/util/Preconditions", name := "checkIndex", desc := "(IILjava/util/function/BiFunction;)I" } : Jvm.MethodName) jdk_41_method_11_code (3 : Nat) (Option.some Jvm.ClassFile.FieldType.int), Jvm.Cond.code ({ cls := "java/lang/AbstractStringBuilder", name := "newCapacity", desc := "(I)I" } : Jvm.MethodName) jdk_68_method_10_code (6 : Nat) (Option.some Jvm.ClassFile.FieldType.int), Jvm.Cond.code ({ cls := "jdk/internal/util/ArraysSupport", name := "newLength", desc := "(III)I" } : Jvm.MethodName) jdk_48_method_27_code (4 : Nat) (Option.some Jvm.ClassFile.FieldType.int), Jvm.Cond.code ({ cls := "java/util/Arrays", name := "copyOf", desc := "([BI)[B" } : Jvm.MethodName) jdk_65_method_121_code (3 : Nat) (Option.some (Jvm.ClassFile.FieldType.array Jvm.ClassFile.FieldType.byte)), Jvm.Cond.code ({ cls := "java/util/Arrays", name := "fill", desc := "([BB)V" } : Jvm.MethodName) jdk_65_method_109_code (4 : Nat) (Option.none : Option Jvm.ClassFile.FieldType)]
set_option maxRecDepth 65536 in
theorem codes_eq : words1.filter isCode = codes1 := rfl
theorem w_codes : ∀ c ∈ words1.filter isCode, c.before args0 about1 = true := by
  rw [codes_eq]
  intro c hc
  simp only [codes1, List.mem_cons, List.not_mem_nil, or_false] at hc
  rcases hc with rfl | rfl | rfl | rfl | rfl | rfl | rfl | rfl | rfl | rfl | rfl | rfl | rfl | rfl | rfl | rfl | rfl | rfl | rfl | rfl | rfl | rfl | rfl | rfl | rfl | rfl | rfl | rfl | rfl | rfl | rfl | rfl | rfl | rfl | rfl | rfl | rfl | rfl | rfl | rfl
  · exact w_c0
  · exact w_c1
  · exact w_c2
  · exact w_c3
  · exact w_c4
  · exact w_c5
  · exact w_c6
  · exact w_c7
  · exact w_c8
  · exact w_c9
  · exact w_c10
  · exact w_c11
  · exact w_c12
  · exact w_c13
  · exact w_c14
  · exact w_c15
  · exact w_c16
  · exact w_c17
  · exact w_c18
  · exact w_c19
  · exact w_c20
  · exact w_c21
  · exact w_c22
  · exact w_c23
  · exact w_c24
  · exact w_c25
  · exact w_c26
  · exact w_c27
  · exact w_c28
  · exact w_c29
  · exact w_c30
  · exact w_c31
  · exact w_c32
  · exact w_c33
  · exact w_c34
  · exact w_c35
  · exact w_c36
  · exact w_c37
  · exact w_c38
  · exact w_c39
set_option maxRecDepth 65536 in
theorem w_t1 : (words1.take 24).all (fun c => isCode c || c.before args0 about1) = true := by decide +kernel
set_option maxRecDepth 65536 in
theorem w_t2 : ((words1.drop 24).take 24).all (fun c => isCode c || c.before args0 about1) = true := by decide +kernel
set_option maxRecDepth 65536 in
theorem w_t3 : (((words1.drop 24).drop 24).take 24).all (fun c => isCode c || c.before args0 about1) = true := by decide +kernel
set_option maxRecDepth 65536 in
theorem w_t4 : ((((words1.drop 24).drop 24).drop 24).take 24).all (fun c => isCode c || c.before args0 about1) = true := by decide +kernel
set_option maxRecDepth 65536 in
theorem w_t5 : (((((words1.drop 24).drop 24).drop 24).drop 24).take 24).all (fun c => isCode c || c.before args0 about1) = true := by decide +kernel
set_option maxRecDepth 65536 in
theorem w_t6 : ((((((words1.drop 24).drop 24).drop 24).drop 24).drop 24).take 24).all (fun c => isCode c || c.before args0 about1) = true := by decide +kernel
set_option maxRecDepth 65536 in
theorem w_t7 : (((((((words1.drop 24).drop 24).drop 24).drop 24).drop 24).drop 24).take 24).all (fun c => isCode c || c.before args0 about1) = true := by decide +kernel
set_option maxRecDepth 65536 in
theorem w_t8 : ((((((((words1.drop 24).drop 24).drop 24).drop 24).drop 24).drop 24).drop 24).take 24).all (fun c => isCode c || c.before args0 about1) = true := by decide +kernel
set_option maxRecDepth 65536 in
theorem w_t9 : (((((((((words1.drop 24).drop 24).drop 24).drop 24).drop 24).drop 24).drop 24).drop 24).take 24).all (fun c => isCode c || c.before args0 about1) = true := by decide +kernel
set_option maxRecDepth 65536 in
theorem w_t10 : ((((((((((words1.drop 24).drop 24).drop 24).drop 24).drop 24).drop 24).drop 24).drop 24).drop 24).take 24).all (fun c => isCode c || c.before args0 about1) = true := by decide +kernel
set_option maxRecDepth 65536 in
theorem w_t11 : ((((((((((words1.drop 24).drop 24).drop 24).drop 24).drop 24).drop 24).drop 24).drop 24).drop 24).drop 24).all (fun c => isCode c || c.before args0 about1) = true := by decide +kernel
theorem w_tables : (allAtoms (Jvm.Cond.code x code maxLocals ret :: tables_1)).before args0 about1 = true := by
  rw [allAtoms_all]
  show words1.all (fun c => c.before args0 about1) = true
  refine all_split ?_ w_codes
  rw [← List.take_append_drop 24 words1, List.all_append, w_t1, ← List.take_append_drop 24 (words1.drop 24), List.all_append, w_t2, ← List.take_append_drop 24 ((words1.drop 24).drop 24), List.all_append, w_t3, ← List.take_append_drop 24 (((words1.drop 24).drop 24).drop 24), List.all_append, w_t4, ← List.take_append_drop 24 ((((words1.drop 24).drop 24).drop 24).drop 24), List.all_append, w_t5, ← List.take_append_drop 24 (((((words1.drop 24).drop 24).drop 24).drop 24).drop 24), List.all_append, w_t6, ← List.take_append_drop 24 ((((((words1.drop 24).drop 24).drop 24).drop 24).drop 24).drop 24), List.all_append, w_t7, ← List.take_append_drop 24 (((((((words1.drop 24).drop 24).drop 24).drop 24).drop 24).drop 24).drop 24), List.all_append, w_t8, ← List.take_append_drop 24 ((((((((words1.drop 24).drop 24).drop 24).drop 24).drop 24).drop 24).drop 24).drop 24), List.all_append, w_t9, ← List.take_append_drop 24 (((((((((words1.drop 24).drop 24).drop 24).drop 24).drop 24).drop 24).drop 24).drop 24).drop 24), List.all_append, w_t10, w_t11]
  rfl
set_option maxRecDepth 65536 in
theorem w_rest : rest_1_c.before args0 about1 = true := by decide +kernel
set_option maxRecDepth 65536 in
theorem w_case : (Jvm.Cond.and given_1 narrow_1).before args0 about1 = true := by decide +kernel
set_option maxRecDepth 65536 in
theorem w_consts : constsHeld consts_1 about1 := Jvm.Lit.constsHeldB_iff.mp (by decide +kernel)
theorem w_applies : (headSpec (Jvm.Cond.code x code maxLocals ret :: tables_1) room_1).applies x e0.platform about1 = true :=
  (Spec.applies_iff w_frames).mpr ⟨w_running, w_runnable, w_alone, w_named, w_hears, w_ripe, w_room, w_tables⟩
theorem atStart : AtStart classFile x code maxLocals ret World_1 tables_1 room_1 Calls_1 rest_1 Pre_1 launch0 p0 e0 about1 theMethod args0 below0 :=
  ⟨lists_1, trivial, launch0.admits_env _ _ _, launch0.least_env, fairChoices_fair.cas, fairChoices_fair.clock, w_frames, w_args, w_heap, w_applies, ⟨w_consts, trivial⟩, w_rest, w_case⟩
end start1
theorem witness_1 : WitnessClaimed_1 := ⟨start1.p0, start1.e0, start1.about1, start1.theMethod, start1.args0, start1.below0, start1.atStart⟩
end Jvm.Pilot.@@N@@

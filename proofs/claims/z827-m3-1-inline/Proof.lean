import JvmDerived
import JvmDerived.Pilot.@@N@@Statement
import JvmDerived.Pilot.@@N@@Code
set_option linter.unusedVariables false
set_option linter.unusedSimpArgs false
@@BLOCK:NumsL.lean.txt@@
@@BLOCK:SetKit.lean.txt@@
namespace Jvm.RoadKit
open Sem ClassFile Op Lib Jvm.Stand Jvm.Free Jvm.LawKit
section New
variable {p : Program} {l : Launch} {e : Env} {R : Room} {s : State} {m : MethodId} {args : Array Value} {below : List Frame} {meth : Method} {c : Code} {T : State} {locs : List Loc} {cells slots : Nat}
theorem retI (X : Stand p l e R s m args below meth c T locs cells slots) (hx : p.tables.exec = Jvm.exec) {pc : Nat} {Ls : Array Slot} {z : Int32} {rest : List Value} (hret : meth.sig.returnType = some .int) (hd : decode c.code pc = .ok (.ireturn, 1)) {fs : List Frame}
    (hl : ∀ (f : JFrame) (acts : List Action), f.method = m → f.locked = none → f.entered = [] → (doReturn e (T.setTop f) acts (some (.int z))).1 = T.setFrames fs) : Steps p.tables e below (T.setTop (mkF m pc Ls (.int z :: rest))) (T.setFrames fs) := by
  have hm' : T.vm.method? m = some meth := X.method'
  have hn : narrow .int (.int z) = .int z := rfl
  show Steps p.tables e below (T.setTop { method := m, pc := pc, locals := Ls, stack := _ :: rest, locked := none }) _
  jvm_step X.here [X.here.top, hx, hd, hm', hret, hn]
  first | (intro acts; rw [hl _ acts rfl rfl rfl]) | rw [hl _ _ rfl rfl rfl]
  exact Steps.refl _
end New
end Jvm.RoadKit
namespace Jvm.Pilot.@@N@@
open Jvm Jvm.ClassFile Sem Op Lib Jvm.Free Jvm.Stand Jvm.LawKit Jvm.RoadKit Bundle Jvm.Pilot.@@N@@.Jvm.D
/-- every run from the state T with the frame f on top is a run from s0 with f0 -/
def GoTo (tb : Tables) (e : Env) (below : List Frame) (s0 : State) (f0 : JFrame) (T : State) (f : JFrame) : Prop := ∀ t, Steps tb e below (T.setTop f) t → Steps tb e below (s0.setTop f0) t
theorem own_cI (x : Int32) : (Value.int x).category = 1 := rfl
theorem own_cJ (x : Int64) : (Value.long x).category = 2 := rfl
theorem own_cR (x : Addr) : (Value.ref x).category = 1 := rfl
theorem own_cN : Value.null.category = 1 := rfl
theorem own_zlt {Z : State} {n0 : Nat} {h : Heap} {a : Addr} (O : Old Z n0 h) (q : a < Z.heap.size) : a < n0 := O.1 ▸ q
theorem own_selfSel {s : State} {args : Array Value} {C : String} {y : MethodName} (hsel : (Cond.selects C y y).before args s = true) (hpriv : s.PrivateAt y) (hinst : (Cond.instanceMethod y).before args s = true) (hy : y.cls ≠ "java/lang/invoke/MethodHandle" ∧ y.cls ≠ "java/lang/invoke/VarHandle") : (Cond.selects y.cls y y).before args s = true := by
  obtain ⟨c2, r2, m2, -, -, q3, -, kP, hkP, hkPi⟩ := Cond.selects_spec hsel
  exact selects_self_of_private (findClass_of_methodNamed q3) hkP hkPi hpriv hinst hy
theorem own_sameSelf {s : State} {args : Array Value} {C : String} {y z : MethodName} (hsel : (Cond.selects C z z).before args s = true) (hzy : z.cls = y.cls) (hinst : (Cond.instanceMethod y).before args s = true) (hy : y.cls ≠ "java/lang/invoke/MethodHandle" ∧ y.cls ≠ "java/lang/invoke/VarHandle") : (Cond.sameMethod y.cls y.cls y.name y.desc).before args s = true := by
  obtain ⟨c2, r2, m2, -, -, q3, -, kP, hkP, hkPi⟩ := Cond.selects_spec hsel
  obtain ⟨mk, methM, hnamed, hmethM, -, -⟩ := Cond.instanceMethod_spec hinst
  have h1 := findClass_of_methodNamed q3
  have h2 := findClass_of_methodNamed hnamed
  rw [hzy] at h1
  have hcls : mk.cls = m2.cls := Option.some.inj (h2.symm.trans h1)
  have hf := State.methodFound?_of_named hnamed hy
  obtain ⟨yc, yn, yd⟩ := y
  dsimp only at h1 h2 hf ⊢
  simp only [Cond.before, Cond.holds, Cond.value, h2, hf, hnamed, hcls, hkP]
  simp [hkPi]
theorem own_notFace {s : State} {args : Array Value} {C : String} {x y z : MethodName} (hsel : (Cond.selects C x z).before args s = true) (hzy : z.cls = y.cls) : NotFace s y := fun r0 h0 => by
  obtain ⟨c2, r2, m2, -, -, q3, -, kP, hkP, hkPi⟩ := Cond.selects_spec hsel
  have h1 := findClass_of_methodNamed q3
  rw [hzy] at h1
  have h2 := findClass_of_methodNamed h0
  have e : m2.cls = r0.cls := Option.some.inj (h1.symm.trans h2)
  exact ⟨kP, e ▸ hkP, hkPi⟩
theorem own_le {Z : State} {n0 : Nat} {h : Heap} (O : Old Z n0 h) : n0 ≤ h.size := O.1 ▸ O.2.1
theorem own_mono {p : Program} {l : Launch} {e : Env} {R : Room} {s : State} {m : MethodId} {args : Array Value} {below : List Frame} {meth : Method} {c : Code} {T : State} {locs : List Loc} {cells slots cells' slots' : Nat} (X : Stand p l e R s m args below meth c T locs cells slots) (h1 : cells ≤ cells') (h2 : slots ≤ slots') : Stand p l e R s m args below meth c T locs cells' slots' := { X with same := X.same.mono h1 h2 }
theorem own_NSroot {Z : State} {a0 : Array Value} {O K : String} {n : Nat} (w : (Jvm.Cond.noSuperclass O).before a0 Z = true) (wk : (Jvm.Cond.instantiable K n).before a0 Z = true) (hn : O ≠ K) : NS Z O K := by
  obtain ⟨c, k, h1, h2, h3, -, -⟩ := Cond.noSuperclass_spec w
  obtain ⟨t, k2, g1, -⟩ := Cond.instantiable_spec wk
  have ne := ids_ne h1 g1 hn
  refine ⟨c, t, h1, g1, fun fuel => ?_⟩
  cases fuel with
  | zero => rfl
  | succ f => simp [Vm.isSubclassAux, ne, h2, h3]
theorem own_NSno {Z : State} {a0 : Array Value} {C S K : String} {n : Nat} (w : (Jvm.Cond.superclass C S).before a0 Z = true) (wk : (Jvm.Cond.instantiable K n).before a0 Z = true) (nn : NS Z C K) (hn : C ≠ K) : ∃ c t, Z.vm.findClass C = some c ∧ Z.vm.findClass K = some t ∧ Z.vm.assignable c t = false := by
  obtain ⟨c, t, h0, g0, n3⟩ := nn
  obtain ⟨p, k, kp, h1, h2, h3, h4, h5, -, h7⟩ := Cond.superclass_spec h0 w
  obtain ⟨t', k', g1, g2, g5, g7, -⟩ := Cond.instantiable_spec wk
  cases g0.symm.trans g1
  have ne := ids_ne h0 g0 hn
  refine ⟨c, t, h0, g0, ?_⟩
  show Z.vm.assignableAux (255 + 1) c t = false
  have g8 : k'.isInterface = false := (Bool.or_eq_false_iff.mp g7).1
  simp [Vm.assignableAux, ne, h2, g2, h5, g5, g8, Vm.isSubclass, n3]
def own_Mir (Z : State) (C : String) (m : Addr) : Prop := ∃ (c : ClassId) (k : Class), Z.vm.findClass C = some c ∧ Z.vm.classes[c]? = some k ∧ k.mirror = some m
theorem own_mir {Z s : State} {C : String} {mr : Addr} {args : Array Value} (hZ : Z.Warmed39 s.vm) (M : own_Mir Z C mr) : (Term.mirror C).eval args s none [] s = some (.ref mr) := by
  obtain ⟨c, k, m1, m2, m3⟩ := M
  obtain ⟨k', q, ek⟩ := hZ.alike.2.2 _ _ m2
  have h1 : s.vm.findClass C = some c := by rw [hZ.alike.findClass]; exact m1
  have h2 : k'.mirror = some mr := by rw [ek]; exact m3
  simp [Term.eval, h1, q, h2]
theorem own_gcls {p : Program} {l : Launch} {e : Env} {R : Room} {s : State} {m : MethodId} {args : Array Value} {below : List Frame} {meth : Method} {c : Code} {T : State} {locs : List Loc} {cells slots : Nat} {Z : State} {h : Heap} {a : Addr} (X : Stand p l e R s m args below meth c T locs cells slots) (hx : p.tables.exec = Jvm.exec) (hZ : Z.Warmed39 s.vm) {a0 : Array Value} {own C : String} {index : Nat} (hown : s.vm.findClass own = some m.cls)
    (w1 : (Jvm.Cond.methodLink own index ⟨"java/lang/Object", "getClass", "()Ljava/lang/Class;"⟩).before a0 Z = true) (w2 : (Jvm.Cond.declares ⟨"java/lang/Object", "getClass", "()Ljava/lang/Class;"⟩).before a0 Z = true) (w3 : (Jvm.Cond.noSuperclass "java/lang/Object").before a0 Z = true) (w4 : (Jvm.Cond.selects C ⟨"java/lang/Object", "getClass", "()Ljava/lang/Class;"⟩ ⟨"java/lang/Object", "getClass", "()Ljava/lang/Class;"⟩).before a0 Z = true)
    (w5 : (Jvm.Cond.instanceMethod ⟨"java/lang/Object", "getClass", "()Ljava/lang/Class;"⟩).before a0 Z = true) (w6 : (Jvm.Cond.native ⟨"java/lang/Object", "getClass", "()Ljava/lang/Class;"⟩).before a0 Z = true) (eT : T.heap = h) (E : Exa Z h a C) {mr : Addr} (M : own_Mir Z C mr)
    {g : JFrame} (hg : g.method = m) (hsize : g.locals.size = c.maxLocals) {rest : List Value} (hs : g.stack = .ref a :: rest) (hd : decode c.code g.pc = .ok (.invokevirtual index, 3)) (hf : 1 ≤ R.frames) {W : Nat} (hW : 2 * g.monitorRoom + (rest.map fun v => v.category).sum ≤ W) (hl : W + (nativeFrameWords "java/lang/Object" "getClass" 1 + 11) ≤ R.locals) :
    ∃ T', Stand p l e R s m args below meth c T' locs cells slots ∧ T'.heap = h ∧ ∀ target, Steps p.tables e below (T'.setTop { g with pc := g.pc + 3, stack := .ref mr :: rest }) target → Steps p.tables e below (T.setTop g) target := by
  obtain ⟨cB, kB, i1, i2, i3⟩ := isOf hZ eT E
  obtain ⟨cc, kc, m1, m2, m3⟩ := M
  have j1 : s.vm.findClass C = some cc := by rw [hZ.alike.findClass]; exact m1
  obtain rfl : cc = cB := Option.some.inj (j1.symm.trans i1)
  obtain ⟨k', q, ek⟩ := hZ.alike.2.2 _ _ m2
  obtain ⟨vm', X', st⟩ := X.getClassOf hx hown (mvT hZ w1) (mvT hZ w2) (nf_top (args := #[]) (mvT hZ w3)) (mvT hZ w4) (mvT hZ w5) (mvT hZ w6) j1 i3 q (by rw [ek]; exact m3) hg hsize hs hd hf (by omega)
  exact ⟨_, X', eT, st⟩
theorem own_cat {v : Value} (h : v.isRef = true) : v.category = 1 := by cases v <;> simp_all [Value.isRef, Value.category]
theorem own_fits_ref {ty : FieldType} {v : Value} (ht : refKind ty = true) (h : v.isRef = true) : fits ty v = true := by cases ty <;> cases v <;> simp_all [refKind, fits, Value.isRef]
theorem own_all0 : ∀ c ∈ ([] : List Int32), ¬ c < 0 ∧ ¬ (255 : Int32) < c := fun _ q => nomatch q
theorem own_allC {a : Int32} {L : List Int32} (h : ¬ a < 0 ∧ ¬ (255 : Int32) < a) (r : ∀ c ∈ L, ¬ c < 0 ∧ ¬ (255 : Int32) < c) : ∀ c ∈ a :: L, ¬ c < 0 ∧ ¬ (255 : Int32) < c := fun x z => (List.mem_cons.mp z).elim (fun u => u ▸ h) (r x)
theorem own_up {cs : List Int32} (h : ∀ c ∈ cs, ¬ c < 0 ∧ ¬ (255 : Int32) < c) : ∀ c ∈ cs, ¬ c < 0 ∧ ¬ (65535 : Int32) < c := fun c hc => ⟨(h c hc).1, fun q => (h c hc).2 (by rw [Int32.lt_iff_toInt_lt] at q ⊢; have e1 : (65535 : Int32).toInt = 65535 := rfl; have e2 : (255 : Int32).toInt = 255 := rfl; omega)⟩
theorem own_chr (x : Int32) {z : Int32} (h : z = ((x &&& (255 : Int32)).toUInt32.toUInt16.toUInt32.toInt32)) : (¬ z < 0 ∧ ¬ (255 : Int32) < z) ∧ nar .char z = z := by
  subst h
  rw [i2c_mask]
  have h1 : (x &&& (255 : Int32)).toInt = x.toInt % 2 ^ 8 := Jvm.Kit.i32_mask x 255 (k := 8) (by decide) (by decide)
  have e0 : (0 : Int32).toInt = 0 := by decide
  have e1 : (255 : Int32).toInt = 255 := by decide
  refine ⟨⟨?_, ?_⟩, i2c_mask x⟩ <;> rw [Int32.lt_iff_toInt_lt] <;> omega
theorem own_eqv {v : Option Value} {cs ds : List Int32} (h : (v = some (.int 1) ∧ cs = ds) ∨ (v = some (.int 0) ∧ ¬ cs = ds)) : v = some (.int (if cs = ds then (1 : Int32) else 0)) := by
  rcases h with ⟨rfl, h⟩ | ⟨rfl, h⟩
  · rw [if_pos h]
  · rw [if_neg h]
section OwnStr
variable {Z : State} {h h' : Heap} {x t a : Addr} {kb : ClassId} {cs : List Int32} {sl : Nat} {v : Value} {ws : List Addr}
/-- the String at x, her byte[] at t, spells cs -/
def own_Str (Z : State) (h : Heap) (x t : Addr) (kb : ClassId) (cs : List Int32) : Prop :=
  Exa Z h x "java/lang/String" ∧ Fld Z h x "java/lang/String" "value" "[B" (.ref t) ∧ Fld Z h x "java/lang/String" "coder" "B" (.int 0) ∧ Arv Z h t kb .byte (Int32.ofNat cs.length) ((cs.map fun c => c.toInt8.toInt32).map Value.int) (.int 0) ∧ (∀ c ∈ cs, ¬ c < 0 ∧ ¬ (255 : Int32) < c) ∧ cs.length ≤ 4000
theorem own_Str.ext (F : own_Str Z h x t kb cs) (E : Ext h h') : own_Str Z h' x t kb cs := ⟨F.1.ext E, F.2.1.ext E, F.2.2.1.ext E, F.2.2.2.1.ext E, F.2.2.2.2⟩
theorem own_Str.keep (F : own_Str Z h x t kb cs) (K : Keep h h' ws) (q : x ∉ ws) (r : t ∉ ws) : own_Str Z h' x t kb cs := ⟨F.1.keep K, F.2.1.keep K q, F.2.2.1.keep K q, F.2.2.2.1.keep K r, F.2.2.2.2⟩
theorem own_Str.other (F : own_Str Z h x t kb cs) (W : Wr h h' a sl v) (q : x ≠ a) (r : t ≠ a) : own_Str Z h' x t kb cs := ⟨F.1.wr W, F.2.1.other W (Or.inl q), F.2.2.1.other W (Or.inl q), F.2.2.2.1.other W r, F.2.2.2.2⟩
/-- null, or a String -/
def own_NS (Z : State) (h : Heap) (v : Value) : Prop := v = .null ∨ ∃ a, v = .ref a ∧ Exa Z h a "java/lang/String"
theorem own_NS.ref (F : own_NS Z h v) : v.isRef = true := by rcases F with rfl | ⟨a, rfl, -⟩ <;> rfl
theorem own_NS.ext (F : own_NS Z h v) (E : Ext h h') : own_NS Z h' v := F.imp id fun ⟨a, e, X⟩ => ⟨a, e, X.ext E⟩
theorem own_NS.wr {w : Value} (F : own_NS Z h v) (W : Wr h h' a sl w) : own_NS Z h' v := F.imp id fun ⟨a, e, X⟩ => ⟨a, e, X.wr W⟩
theorem own_NS.keep (F : own_NS Z h v) (K : Keep h h' ws) : own_NS Z h' v := F.imp id fun ⟨a, e, X⟩ => ⟨a, e, X.keep K⟩
end OwnStr
theorem own_nat {n : Nat} (h : n ≤ 1000000) : (Int32.ofNat n).toInt = n := Int32.toInt_ofNat_small (by omega)
theorem own_ofint {x : Int32} {n : Nat} (hn : n ≤ 1000000) (h : x.toInt = n) : x = Int32.ofNat n := Int32.toInt_inj.mp (by rw [h, own_nat hn])
theorem own_addN {a b : Nat} : Int32.ofNat a + Int32.ofNat b = Int32.ofNat (a + b) := (Int32.ofNat_add a b).symm
theorem own_subN {a b : Nat} (h : b ≤ a) : Int32.ofNat a - Int32.ofNat b = Int32.ofNat (a - b) := (Int32.ofNat_sub a b h).symm
theorem own_ltN {a b : Nat} (ha : a ≤ 1000000) (hb : b ≤ 1000000) : Int32.ofNat a < Int32.ofNat b ↔ a < b := by rw [Int32.lt_iff_toInt_lt, own_nat ha, own_nat hb]; omega
theorem own_eqN {a b : Nat} (ha : a ≤ 1000000) (hb : b ≤ 1000000) : Int32.ofNat a = Int32.ofNat b ↔ a = b := ⟨fun h => by have := congrArg Int32.toInt h; rw [own_nat ha, own_nat hb] at this; omega, fun h => by rw [h]⟩
theorem own_posN {a b : Nat} (ha : a ≤ 1000000) (hb : b ≤ 1000000) : (0 : Int32) < Int32.ofNat a - Int32.ofNat b ↔ b < a := by
  rw [Int32.lt_iff_toInt_lt, Int32.toInt_sub, own_nat ha, own_nat hb, Int.bmod_eq_of_le (by omega) (by omega), show (0 : Int32).toInt = 0 from rfl]; omega
theorem own_negN {a : Nat} (ha : a ≤ 1000000) : ¬ Int32.ofNat a < 0 := by rw [Int32.lt_iff_toInt_lt, own_nat ha, show (0 : Int32).toInt = 0 from rfl]; omega
theorem own_clamp {a : Nat} (ha : a ≤ 1000000) : (Int32.ofNat a).toNatClampNeg = a := by
  have h := own_nat ha
  unfold Int32.toNatClampNeg; rw [h]; rfl
theorem own_shr0 (x : Int32) : (x >>> ((0 : Int32) &&& 31)) = x := by
  apply Int32.toBitVec_inj.mp
  simp
theorem own_shl0 (x : Int32) : (x <<< ((0 : Int32) &&& 31)) = x := by
  apply Int32.toBitVec_inj.mp
  simp
theorem own_maxT {x y : Nat} (h : x < y) : some (Value.int (Int32.ofNat y)) = some (.int (Int32.ofNat (max x y))) := by rw [Nat.max_eq_right (Nat.le_of_lt h)]
theorem own_maxF {x y : Nat} (h : ¬ x < y) : some (Value.int (Int32.ofNat x)) = some (.int (Int32.ofNat (max x y))) := by rw [Nat.max_eq_left (Nat.le_of_not_lt h)]
theorem own_minT {x y : Nat} (h : y < x) : some (Value.int (Int32.ofNat y)) = some (.int (Int32.ofNat (min x y))) := by rw [Nat.min_eq_right (Nat.le_of_lt h)]
theorem own_minF {x y : Nat} (h : ¬ y < x) : some (Value.int (Int32.ofNat x)) = some (.int (Int32.ofNat (min x y))) := by rw [Nat.min_eq_left (Nat.le_of_not_lt h)]
section OwnSB
variable {Z : State} {h h' : Heap} {b d a : Addr} {kd : ClassId} {N M : Nat} {cs ds : List Int32} {sl : Nat} {v : Value} {ws : List Addr}
/-- the byte[] at d, of N places, begins with the bytes of cs -/
def own_By (Z : State) (h : Heap) (d : Addr) (kd : ClassId) (N : Nat) (cs : List Int32) : Prop :=
  Exa Z h d "[B" ∧ cs.length ≤ N ∧ N ≤ 1000000 ∧ ∃ vs : List Value, vs.length = N ∧ Arv Z h d kd .byte (Int32.ofNat N) vs (.int 0) ∧ ∀ i, i < cs.length → vs.getD i (.int 0) = .int ((cs.getD i 0).toInt8.toInt32)
theorem own_By.ext (F : own_By Z h d kd N cs) (E : Ext h h') : own_By Z h' d kd N cs := by obtain ⟨h1, h2, h3, vs, h4, h5, h6⟩ := F; exact ⟨h1.ext E, h2, h3, vs, h4, h5.ext E, h6⟩
theorem own_By.keep (F : own_By Z h d kd N cs) (K : Keep h h' ws) (q : d ∉ ws) : own_By Z h' d kd N cs := by obtain ⟨h1, h2, h3, vs, h4, h5, h6⟩ := F; exact ⟨h1.keep K, h2, h3, vs, h4, h5.keep K q, h6⟩
theorem own_By.other (F : own_By Z h d kd N cs) (W : Wr h h' a sl v) (q : d ≠ a) : own_By Z h' d kd N cs := by obtain ⟨h1, h2, h3, vs, h4, h5, h6⟩ := F; exact ⟨h1.wr W, h2, h3, vs, h4, h5.other W q, h6⟩
theorem own_By.lt (F : own_By Z h d kd N cs) : d < h.size := F.1.lt
theorem own_By.arv (F : own_By Z h d kd N cs) : ∃ vs : List Value, vs.length = N ∧ Arv Z h d kd .byte (Int32.ofNat N) vs (.int 0) ∧ ∀ i, i < cs.length → vs.getD i (.int 0) = .int ((cs.getD i 0).toInt8.toInt32) := F.2.2.2
/-- the StringBuilder at b, her byte[] at d of N places, holds cs -/
def own_SB (Z : State) (h : Heap) (b d : Addr) (kd : ClassId) (N : Nat) (cs : List Int32) : Prop :=
  Exa Z h b "java/lang/StringBuilder" ∧ Fld Z h b "java/lang/AbstractStringBuilder" "value" "[B" (.ref d) ∧ Fld Z h b "java/lang/AbstractStringBuilder" "coder" "B" (.int 0) ∧ Fld Z h b "java/lang/AbstractStringBuilder" "count" "I" (.int (Int32.ofNat cs.length)) ∧ own_By Z h d kd N cs ∧ (∀ c ∈ cs, ¬ c < 0 ∧ ¬ (255 : Int32) < c)
theorem own_SB.ext (F : own_SB Z h b d kd N cs) (E : Ext h h') : own_SB Z h' b d kd N cs := ⟨F.1.ext E, F.2.1.ext E, F.2.2.1.ext E, F.2.2.2.1.ext E, F.2.2.2.2.1.ext E, F.2.2.2.2.2⟩
theorem own_SB.keep (F : own_SB Z h b d kd N cs) (K : Keep h h' ws) (q : b ∉ ws) (r : d ∉ ws) : own_SB Z h' b d kd N cs := ⟨F.1.keep K, F.2.1.keep K q, F.2.2.1.keep K q, F.2.2.2.1.keep K q, F.2.2.2.2.1.keep K r, F.2.2.2.2.2⟩
theorem own_SB.other (F : own_SB Z h b d kd N cs) (W : Wr h h' a sl v) (q : b ≠ a) (r : d ≠ a) : own_SB Z h' b d kd N cs := ⟨F.1.wr W, F.2.1.other W (Or.inl q), F.2.2.1.other W (Or.inl q), F.2.2.2.1.other W (Or.inl q), F.2.2.2.2.1.other W r, F.2.2.2.2.2⟩
theorem own_SB.by_ (F : own_SB Z h b d kd N cs) : own_By Z h d kd N cs := F.2.2.2.2.1
theorem own_orle {d d' B n : Nat} (q : d' = d ∨ n ≤ d') (h1 : B ≤ d) (h2 : B ≤ n) : B ≤ d' := by rcases q with rfl | q; exact h1; exact Nat.le_trans h2 q
theorem own_orne {d d' x n : Nat} (q : d' = d ∨ n ≤ d') (h1 : x ≠ d) (h2 : x < n) : x ≠ d' := by rcases q with rfl | q; exact h1; omega
theorem own_getD_rep (n i : Nat) : (List.replicate n (Value.int 0)).getD i (.int 0) = .int 0 := by
  rw [List.getD_eq_getElem?_getD, List.getElem?_replicate]; split <;> rfl
/-- a new byte[] -/
theorem own_By.new (E : Exa Z h d "[B") (hN : N ≤ 1000000) (V : Arv Z h d kd .byte (Int32.ofNat N) [] (.int 0)) : own_By Z h d kd N [] :=
  ⟨E, Nat.zero_le _, hN, List.replicate N (.int 0), by simp, V.pad (fun i => by rw [own_getD_rep]; simp), fun i hi => absurd hi (by simp)⟩
/-- the first n places of vs laid at place p of vd -/
theorem own_lay_getD {vd us : List Value} {p i : Nat} (hp : p + us.length ≤ vd.length) : (vd.take p ++ us ++ vd.drop (p + us.length)).getD i (.int 0) = if i < p then vd.getD i (.int 0) else if i < p + us.length then us.getD (i - p) (.int 0) else vd.getD i (.int 0) := by
  have ht : (vd.take p).length = p := by rw [List.length_take]; omega
  simp only [List.getD_eq_getElem?_getD]
  by_cases h1 : i < p
  · rw [if_pos h1, List.append_assoc, List.getElem?_append_left (by omega), List.getElem?_take_of_lt h1]
  · rw [if_neg h1]
    by_cases h2 : i < p + us.length
    · rw [if_pos h2, List.getElem?_append_left (by rw [List.length_append]; omega), List.getElem?_append_right (by omega), ht]
    · rw [if_neg h2, List.getElem?_append_right (by rw [List.length_append]; omega), List.length_append, ht, List.getElem?_drop]
      congr 2; omega
theorem own_us_getD {vs us : List Value} {k n i : Nat} (hus : us = (List.range n).map fun i => vs.getD (k + i) (.int 0)) (hi : i < n) : us.getD i (.int 0) = vs.getD (k + i) (.int 0) := by
  subst hus
  simp [List.getD_eq_getElem?_getD, hi]
/-- a copy of the first n places into a new array of M places -/
theorem own_By.cp {us vs : List Value} {n : Nat} (E : Exa Z h d "[B") (hM : M ≤ 1000000) (hn : cs.length ≤ n) (hnM : n ≤ M) (hus : us = (List.range n).map fun i => vs.getD (0 + i) (.int 0)) (hc : ∀ i, i < cs.length → vs.getD i (.int 0) = .int ((cs.getD i 0).toInt8.toInt32))
    (V : Arv Z h d kd .byte (Int32.ofNat M) ((List.replicate M (Value.int 0)).take 0 ++ us ++ (List.replicate M (Value.int 0)).drop (0 + n)) (.int 0)) : own_By Z h d kd M cs := by
  have hl : us.length = n := by rw [hus]; simp
  refine ⟨E, Nat.le_trans hn hnM, hM, _, ?_, V, fun i hi => ?_⟩
  · simp [hl]; omega
  · have := own_lay_getD (vd := List.replicate M (Value.int 0)) (us := us) (p := 0) (i := i) (by simp [hl]; omega)
    rw [hl] at this
    rw [this, if_neg (by omega), if_pos (by omega), Nat.sub_zero, own_us_getD hus (by omega), Nat.zero_add]
    exact hc i hi
/-- the bytes of ds laid behind cs -/
theorem own_By.app {us vs ws' : List Value} {n : Nat} (E : Exa Z h d "[B") (hN : N ≤ 1000000) (hl : vs.length = N) (hn : cs.length + n ≤ N) (hd : ds.length = n) (hus : us = (List.range n).map fun i => ws'.getD (0 + i) (.int 0))
    (hc : ∀ i, i < cs.length → vs.getD i (.int 0) = .int ((cs.getD i 0).toInt8.toInt32)) (hw : ∀ i, i < ds.length → ws'.getD i (.int 0) = .int ((ds.getD i 0).toInt8.toInt32))
    (V : Arv Z h d kd .byte (Int32.ofNat N) (vs.take cs.length ++ us ++ vs.drop (cs.length + n)) (.int 0)) : own_By Z h d kd N (cs ++ ds) := by
  have hul : us.length = n := by rw [hus]; simp
  refine ⟨E, by rw [List.length_append]; omega, hN, _, ?_, V, fun i hi => ?_⟩
  · simp [hul, hl]; omega
  · rw [List.length_append] at hi
    have := own_lay_getD (vd := vs) (us := us) (p := cs.length) (i := i) (by omega)
    rw [hul] at this
    rw [this]
    by_cases h1 : i < cs.length
    · rw [if_pos h1, hc i h1]; simp [List.getD_eq_getElem?_getD, List.getElem?_append_left h1]
    · rw [if_neg h1, if_pos (by omega), own_us_getD hus (by omega), Nat.zero_add, hw _ (by omega)]
      simp [List.getD_eq_getElem?_getD, List.getElem?_append_right (Nat.le_of_not_lt h1)]
/-- a String's bytes -/
theorem own_map_getD (ds : List Int32) (i : Nat) (hi : i < ds.length) : ((ds.map fun c => c.toInt8.toInt32).map Value.int).getD i (.int 0) = .int ((ds.getD i 0).toInt8.toInt32) := by
  simp [List.getD_eq_getElem?_getD, hi]
theorem own_rngApp (h1 : ∀ c ∈ cs, ¬ c < 0 ∧ ¬ (255 : Int32) < c) (h2 : ∀ c ∈ ds, ¬ c < 0 ∧ ¬ (255 : Int32) < c) : ∀ c ∈ cs ++ ds, ¬ c < 0 ∧ ¬ (255 : Int32) < c := fun c hc => (List.mem_append.mp hc).elim (h1 c) (h2 c)
/-- the decimal digits of n, the highest first -/
def own_dec (n : Nat) : List Int32 := (List.range (Jvm.Free.SBG.digits n)).map fun t => Int32.ofNat (48 + n / 10 ^ (Jvm.Free.SBG.digits n - 1 - t) % 10)
theorem own_dec_len (n : Nat) : (own_dec n).length = Jvm.Free.SBG.digits n := by simp [own_dec]
theorem own_dec_rng (n : Nat) : ∀ c ∈ own_dec n, ¬ c < 0 ∧ ¬ (255 : Int32) < c := fun c hc => by
  obtain ⟨t, -, rfl⟩ := List.mem_map.mp hc
  have h1 : 48 + n / 10 ^ (Jvm.Free.SBG.digits n - 1 - t) % 10 ≤ 1000000 := by omega
  rw [Int32.lt_iff_toInt_lt, Int32.lt_iff_toInt_lt, own_nat h1, show (0 : Int32).toInt = 0 from rfl, show (255 : Int32).toInt = 255 from by decide]
  omega
theorem own_dec_at (n t : Nat) (ht : t < Jvm.Free.SBG.digits n) : (own_dec n).getD t 0 = Int32.ofNat (48 + n / 10 ^ (Jvm.Free.SBG.digits n - 1 - t) % 10) := by
  simp [own_dec, List.getD_eq_getElem?_getD, ht]
theorem own_gc {cl : Cell} (F : own_By Z h d kd N cs) (hcl : h[d]? = some cl) {v : Int32} {nn : Nat} {ist d1 d2 : Addr} {cD1 cD2 : Cell} (hO : Jvm.Free.SBG.Ones cD1) (hT : Jvm.Free.SBG.Tens cD2) (hv : ¬ v < 0) (hn : nn ≤ 2 ^ 31) (hN : cs.length + Jvm.Free.SBG.digits nn ≤ N)
    (h1 : h'[d]? = some (Jvm.Free.SBG.GetChars.outCell ⟨v, nn, cs.length + Jvm.Free.SBG.digits nn, d, cl, ist, d1, cD1, d2, cD2⟩)) (h2 : h'.size = h.size) (h3 : ∀ (y : Addr) (cy : Cell), y ≠ d → h[y]? = some cy → h'[y]? = some cy) : Keep h h' [d] ∧ own_By Z h' d kd N (cs ++ own_dec nn) := by
  obtain ⟨E, hl, hN6, vs, hvl, ⟨c2, Ar, q1, S, q3, Hh, G⟩, hc⟩ := F
  obtain rfl : cl = c2 := Option.some.inj (hcl.symm.trans Ar.1)
  rw [own_clamp hN6] at S
  have sg : Jvm.Free.SBG.GetChars.sgn v = 0 := if_neg hv
  have hby : ∀ i, i < cl.slots.size → fits .byte (cl.slots.getD i .null) = true := fun i hi => by
    have e1 := Hh i hi; have e2 := G i hi
    rw [Array.getD_eq_getD_getElem?, e1]; exact e2
  obtain ⟨o1, o2, o3, o4, -⟩ := Jvm.Free.SBG.GetChars.outCell_facts ⟨v, nn, cs.length + Jvm.Free.SBG.digits nn, d, cl, ist, d1, cD1, d2, cD2⟩ hn (by show Jvm.Free.SBG.digits nn + Jvm.Free.SBG.GetChars.sgn v ≤ _; rw [sg]; exact Nat.le_add_left _ _) hby
  obtain ⟨-, fD, fB⟩ := Jvm.Free.SBG.outCell_fwd ⟨v, nn, cs.length + Jvm.Free.SBG.digits nn, d, cl, ist, d1, cD1, d2, cD2⟩ hO hT hn (n0 := cs.length) (by show _ = cs.length + (Jvm.Free.SBG.digits nn + Jvm.Free.SBG.GetChars.sgn v); rw [sg]; rfl) (by show cs.length + _ ≤ cl.slots.size; omega)
  generalize Jvm.Free.SBG.GetChars.outCell ⟨v, nn, cs.length + Jvm.Free.SBG.digits nn, d, cl, ist, d1, cD1, d2, cD2⟩ = oc at *
  have o1 : oc.cls = cl.cls := o1
  have o2 : oc.vm = cl.vm := o2
  have o3 : oc.slots.size = cl.slots.size := o3
  have fD : ∀ t, t < Jvm.Free.SBG.digits nn → oc.slots[cs.length + t]? = some (.int (Int32.ofNat (48 + nn / 10 ^ (Jvm.Free.SBG.digits nn - 1 - t) % 10))) := fun t ht => by
    have := fD t ht
    rw [show Jvm.Free.SBG.GetChars.sgn _ = 0 from sg, Nat.add_zero] at this; exact this
  have fB : ∀ j, j < cs.length → oc.slots[j]? = cl.slots[j]? := fB
  have hK : Keep h h' [d] := ⟨Nat.le_of_eq h2.symm, fun x c q r => h3 x c (fun e => r (by rw [e]; exact List.mem_cons_self ..)) q, fun x c q => by
    by_cases e : x = d
    · subst e
      obtain rfl : cl = c := Option.some.inj (hcl.symm.trans q)
      exact ⟨oc, h1, o1, o2, o3⟩
    · exact ⟨c, h3 x c e q, rfl, rfl, rfl⟩⟩
  have hA : Arr Z h' d oc .byte := ⟨h1, by
    obtain ⟨a1, kA, a2, comp, a3⟩ := Ar.2.1
    exact ⟨by rw [o2]; exact a1, kA, by rw [o1]; exact a2, comp, a3⟩, by rw [o2]; exact Ar.2.2⟩
  have hget : ∀ i, i < oc.slots.size → oc.slots[i]? = some (oc.slots.toList.getD i (.int 0)) := fun i hi => by
    rw [List.getD_eq_getElem?_getD, Array.getElem?_toList, Array.getElem?_eq_getElem hi]; rfl
  refine ⟨hK, E.keep hK, by rw [List.length_append, own_dec_len]; omega, hN6, oc.slots.toList, by rw [Array.length_toList]; omega, ⟨oc, hA, by rw [o1]; exact q1, by rw [own_clamp hN6]; omega, q3, hget, fun i hi => ?_⟩, fun i hi => ?_⟩
  · have e1 := o4 i hi
    rw [Array.getD_eq_getD_getElem?, hget i hi] at e1; exact e1
  · rw [List.length_append, own_dec_len] at hi
    have hi2 : i < oc.slots.size := by omega
    apply Option.some.inj
    rw [← hget i hi2]
    by_cases c1 : i < cs.length
    · rw [fB i c1, Hh i (by omega), hc i c1]; simp [List.getD_eq_getElem?_getD, List.getElem?_append_left c1]
    · obtain ⟨t, rfl⟩ : ∃ t, i = cs.length + t := ⟨i - cs.length, by omega⟩
      rw [fD t (by omega)]
      have e2 : (cs ++ own_dec nn).getD (cs.length + t) 0 = (own_dec nn).getD t 0 := by simp [List.getD_eq_getElem?_getD, List.getElem?_append_right]
      rw [e2, own_dec_at _ _ (by omega), Jvm.Free.SBG.dgNarrow _ (by omega)]
/-- an exact copy makes a String's array -/
theorem own_arvStr {vs : List Value} (hl : vs.length = cs.length) (hc : ∀ i, i < cs.length → vs.getD i (.int 0) = .int ((cs.getD i 0).toInt8.toInt32)) (V : Arv Z h d kd .byte (Int32.ofNat cs.length) vs (.int 0)) : Arv Z h d kd .byte (Int32.ofNat cs.length) ((cs.map fun c => c.toInt8.toInt32).map Value.int) (.int 0) :=
  V.pad fun i => by
    by_cases hi : i < cs.length
    · rw [own_map_getD _ _ hi, hc i hi]
    · simp [List.getD_eq_getElem?_getD, List.getElem?_eq_none (Nat.le_of_not_lt hi), List.getElem?_eq_none (hl ▸ Nat.le_of_not_lt hi)]
end OwnSB
theorem own_chb0 : ∀ n, n < 256 → (((Int32.ofNat n).toInt8.toInt32 &&& (255 : Int32)).toUInt32.toUInt16.toUInt32.toInt32) = Int32.ofNat n ∧ nar .char (Int32.ofNat n) = Int32.ofNat n := by decide +kernel
theorem own_chb {x : Int32} (h : ¬ x < 0 ∧ ¬ (255 : Int32) < x) : ((x.toInt8.toInt32 &&& (255 : Int32)).toUInt32.toUInt16.toUInt32.toInt32) = x ∧ nar .char x = x := by
  obtain ⟨h1, h2⟩ := h
  rw [Int32.lt_iff_toInt_lt, show (0 : Int32).toInt = 0 from rfl] at h1
  rw [Int32.lt_iff_toInt_lt, show (255 : Int32).toInt = 255 from by decide] at h2
  have e : x = Int32.ofNat x.toInt.toNat := own_ofint (by omega) (by omega)
  have q := own_chb0 x.toInt.toNat (by omega)
  rw [← e] at q
  exact q
theorem own_rngAt {cs : List Int32} (h : ∀ c ∈ cs, ¬ c < 0 ∧ ¬ (255 : Int32) < c) {i : Nat} (hi : i < cs.length) : ¬ cs.getD i 0 < 0 ∧ ¬ (255 : Int32) < cs.getD i 0 := by
  apply h
  rw [List.getD_eq_getElem?_getD, List.getElem?_eq_getElem hi]
  exact List.getElem_mem hi
section OwnLong
variable {Z : State} {h h' : Heap} {b d a : Addr} {kd : ClassId} {N M : Nat} {cs ds : List Int32} {sl : Nat} {v : Value} {ws : List Addr}
/-- the decimal digits of n, the highest first -/
def own_decL (n : Nat) : List Int32 := (List.range (Jvm.Free.SBG.digitsL n)).map fun t => Int32.ofNat (48 + n / 10 ^ (Jvm.Free.SBG.digitsL n - 1 - t) % 10)
theorem own_decL_len (n : Nat) : (own_decL n).length = Jvm.Free.SBG.digitsL n := by simp [own_decL]
theorem own_decL_rng (n : Nat) : ∀ c ∈ own_decL n, ¬ c < 0 ∧ ¬ (255 : Int32) < c := fun c hc => by
  obtain ⟨t, -, rfl⟩ := List.mem_map.mp hc
  have h1 : 48 + n / 10 ^ (Jvm.Free.SBG.digitsL n - 1 - t) % 10 ≤ 1000000 := by omega
  rw [Int32.lt_iff_toInt_lt, Int32.lt_iff_toInt_lt, own_nat h1, show (0 : Int32).toInt = 0 from rfl, show (255 : Int32).toInt = 255 from by decide]
  omega
theorem own_decL_at (n t : Nat) (ht : t < Jvm.Free.SBG.digitsL n) : (own_decL n).getD t 0 = Int32.ofNat (48 + n / 10 ^ (Jvm.Free.SBG.digitsL n - 1 - t) % 10) := by
  simp [own_decL, List.getD_eq_getElem?_getD, ht]
theorem own_gcL {cl : Cell} (F : own_By Z h d kd N cs) (hcl : h[d]? = some cl) {v : Int64} {nn : Nat} {ist d1 d2 : Addr} {cD1 cD2 : Cell} (hO : Jvm.Free.SBG.Ones cD1) (hT : Jvm.Free.SBG.Tens cD2) (hv : ¬ v < 0) (hn : nn ≤ 2 ^ 63) (hN : cs.length + Jvm.Free.SBG.digitsL nn ≤ N)
    (h1 : h'[d]? = some (Jvm.Free.SBG.GetCharsL.outCell ⟨v, nn, cs.length + Jvm.Free.SBG.digitsL nn, d, cl, ist, d1, cD1, d2, cD2⟩)) (h2 : h'.size = h.size) (h3 : ∀ (y : Addr) (cy : Cell), y ≠ d → h[y]? = some cy → h'[y]? = some cy) : Keep h h' [d] ∧ own_By Z h' d kd N (cs ++ own_decL nn) := by
  obtain ⟨E, hl, hN6, vs, hvl, ⟨c2, Ar, q1, S, q3, Hh, G⟩, hc⟩ := F
  obtain rfl : cl = c2 := Option.some.inj (hcl.symm.trans Ar.1)
  rw [own_clamp hN6] at S
  have sg : Jvm.Free.SBG.GetCharsL.sgnL v = 0 := if_neg hv
  have hby : ∀ i, i < cl.slots.size → fits .byte (cl.slots.getD i .null) = true := fun i hi => by
    have e1 := Hh i hi; have e2 := G i hi
    rw [Array.getD_eq_getD_getElem?, e1]; exact e2
  obtain ⟨o1, o2, o3, o4, -⟩ := Jvm.Free.SBG.GetCharsL.outCell_facts ⟨v, nn, cs.length + Jvm.Free.SBG.digitsL nn, d, cl, ist, d1, cD1, d2, cD2⟩ hn (by show Jvm.Free.SBG.digitsL nn + Jvm.Free.SBG.GetCharsL.sgnL v ≤ _; rw [sg]; exact Nat.le_add_left _ _) hby
  obtain ⟨-, fD, fB⟩ := Jvm.Free.SBG.outCellL_fwd ⟨v, nn, cs.length + Jvm.Free.SBG.digitsL nn, d, cl, ist, d1, cD1, d2, cD2⟩ hO hT hn (n0 := cs.length) (by show _ = cs.length + (Jvm.Free.SBG.digitsL nn + Jvm.Free.SBG.GetCharsL.sgnL v); rw [sg]; rfl) (by show cs.length + _ ≤ cl.slots.size; omega)
  generalize Jvm.Free.SBG.GetCharsL.outCell ⟨v, nn, cs.length + Jvm.Free.SBG.digitsL nn, d, cl, ist, d1, cD1, d2, cD2⟩ = oc at *
  have o1 : oc.cls = cl.cls := o1
  have o2 : oc.vm = cl.vm := o2
  have o3 : oc.slots.size = cl.slots.size := o3
  have fD : ∀ t, t < Jvm.Free.SBG.digitsL nn → oc.slots[cs.length + t]? = some (.int (Int32.ofNat (48 + nn / 10 ^ (Jvm.Free.SBG.digitsL nn - 1 - t) % 10))) := fun t ht => by
    have := fD t ht
    rw [show Jvm.Free.SBG.GetCharsL.sgnL _ = 0 from sg, Nat.add_zero] at this; exact this
  have fB : ∀ j, j < cs.length → oc.slots[j]? = cl.slots[j]? := fB
  have hK : Keep h h' [d] := ⟨Nat.le_of_eq h2.symm, fun x c q r => h3 x c (fun e => r (by rw [e]; exact List.mem_cons_self ..)) q, fun x c q => by
    by_cases e : x = d
    · subst e
      obtain rfl : cl = c := Option.some.inj (hcl.symm.trans q)
      exact ⟨oc, h1, o1, o2, o3⟩
    · exact ⟨c, h3 x c e q, rfl, rfl, rfl⟩⟩
  have hA : Arr Z h' d oc .byte := ⟨h1, by
    obtain ⟨a1, kA, a2, comp, a3⟩ := Ar.2.1
    exact ⟨by rw [o2]; exact a1, kA, by rw [o1]; exact a2, comp, a3⟩, by rw [o2]; exact Ar.2.2⟩
  have hget : ∀ i, i < oc.slots.size → oc.slots[i]? = some (oc.slots.toList.getD i (.int 0)) := fun i hi => by
    rw [List.getD_eq_getElem?_getD, Array.getElem?_toList, Array.getElem?_eq_getElem hi]; rfl
  refine ⟨hK, E.keep hK, by rw [List.length_append, own_decL_len]; omega, hN6, oc.slots.toList, by rw [Array.length_toList]; omega, ⟨oc, hA, by rw [o1]; exact q1, by rw [own_clamp hN6]; omega, q3, hget, fun i hi => ?_⟩, fun i hi => ?_⟩
  · have e1 := o4 i hi
    rw [Array.getD_eq_getD_getElem?, hget i hi] at e1; exact e1
  · rw [List.length_append, own_decL_len] at hi
    have hi2 : i < oc.slots.size := by omega
    apply Option.some.inj
    rw [← hget i hi2]
    by_cases c1 : i < cs.length
    · rw [fB i c1, Hh i (by omega), hc i c1]; simp [List.getD_eq_getElem?_getD, List.getElem?_append_left c1]
    · obtain ⟨t, rfl⟩ : ∃ t, i = cs.length + t := ⟨i - cs.length, by omega⟩
      rw [fD t (by omega)]
      have e2 : (cs ++ own_decL nn).getD (cs.length + t) 0 = (own_decL nn).getD t 0 := by simp [List.getD_eq_getElem?_getD, List.getElem?_append_right]
      rw [e2, own_decL_at _ _ (by omega), Jvm.Free.SBG.dgNarrow _ (by omega)]
theorem own_fil {cl A' : Cell} {z x : Int32} {vs : List Value} (F : Arv Z h d kd .byte z vs (.int 0)) (hcl : h[d]? = some cl) (h1 : h'[d]? = some A') (c1 : A'.cls = cl.cls) (c2 : A'.vm = cl.vm) (c3 : A'.slots.size = cl.slots.size) (c4 : ∀ i, i < cl.slots.size → A'.slots[i]? = some (.int x))
    (c5 : ∀ y : Addr, y ≠ d → h'[y]? = h[y]?) (c6 : h'.size = h.size) (hv : fits .byte (.int x) = true) {n : Nat} (hn : z.toNatClampNeg = n) : Keep h h' [d] ∧ Arv Z h' d kd .byte z (List.replicate n (.int x)) (.int 0) := by
  obtain ⟨c2', Ar, q1, S, q3, Hh, G⟩ := F
  obtain rfl : cl = c2' := Option.some.inj (hcl.symm.trans Ar.1)
  have hK : Keep h h' [d] := ⟨Nat.le_of_eq c6.symm, fun y c q r => by rw [c5 y (fun e => r (by rw [e]; exact List.mem_cons_self ..))]; exact q, fun y c q => by
    by_cases e : y = d
    · subst e
      obtain rfl : cl = c := Option.some.inj (hcl.symm.trans q)
      exact ⟨A', h1, c1, c2, c3⟩
    · exact ⟨c, by rw [c5 y e]; exact q, rfl, rfl, rfl⟩⟩
  have hA : Arr Z h' d A' .byte := ⟨h1, by
    obtain ⟨a1, kA, a2, comp, a3⟩ := Ar.2.1
    exact ⟨by rw [c2]; exact a1, kA, by rw [c1]; exact a2, comp, a3⟩, by rw [c2]; exact Ar.2.2⟩
  have hg : ∀ i, i < A'.slots.size → (List.replicate n (Value.int x)).getD i (.int 0) = .int x := fun i hi => by
    rw [List.getD_eq_getElem?_getD, List.getElem?_replicate, if_pos (by omega)]; rfl
  exact ⟨hK, A', hA, by rw [c1]; exact q1, by rw [c3]; exact S, q3, fun i hi => by rw [c4 i (by omega), hg i hi], fun i hi => by rw [hg i hi]; exact hv⟩
theorem own_neLen {t : Addr} {k1 k2 : ClassId} {z1 z2 : Int32} {vs us : List Value} (A : Arv Z h t k1 .byte z1 vs (.int 0)) (B : Arv Z h d k2 .byte z2 us (.int 0)) (hz : z1.toNatClampNeg ≠ z2.toNatClampNeg) : t ≠ d := fun e => by
  subst e
  obtain ⟨c1, Ar, -, S1, -⟩ := A
  obtain ⟨c2, Br, -, S2, -⟩ := B
  obtain rfl : c1 = c2 := Option.some.inj (Ar.1.symm.trans Br.1)
  exact hz (S1.symm.trans S2)
theorem own_bigdiv {n : Nat} (h1 : 0 < n) (h2 : n ≤ 60) : ¬ (2147483647 : Int32) / Int32.ofNat n < (1 : Int32) := by
  have hn : (Int32.ofNat n).toInt = n := own_nat (by omega)
  have hd : ((2147483647 : Int32) / Int32.ofNat n).toInt = 2147483647 / (n : Int) := by
    rw [Int32.toInt_div, hn, show (2147483647 : Int32).toInt = 2147483647 from by decide, Int.tdiv_eq_ediv_of_nonneg (by omega)]
    have b1 : (0 : Int) ≤ 2147483647 / (n : Int) := Int.ediv_nonneg (by omega) (by omega)
    have b2 : 2147483647 / (n : Int) ≤ 2147483647 := Int.ediv_le_self _ (by omega)
    exact Int.bmod_eq_of_le (by omega) (by omega)
  rw [Int32.lt_iff_toInt_lt, hd, show (1 : Int32).toInt = 1 from rfl]
  have : (1 : Int) ≤ 2147483647 / (n : Int) := (Int.le_ediv_iff_mul_le (by omega)).mpr (by omega)
  omega
theorem own_cpb {a : Addr} {n : Nat} (y : Loc) (hy : y ∈ copyLocs a 0 n) : y.base = a := by
  simp only [copyLocs, List.mem_map, List.mem_range] at hy
  obtain ⟨i, -, rfl⟩ := hy; rfl
theorem own_repRng (n : Nat) : ∀ c ∈ List.replicate n (48 : Int32), ¬ c < 0 ∧ ¬ (255 : Int32) < c := fun c hc => by
  obtain rfl := (List.mem_replicate.mp hc).2
  decide
theorem own_repArv {n : Nat} (V : Arv Z h d kd .byte (Int32.ofNat n) (List.replicate n (.int (48 : Int32))) (.int 0)) : Arv Z h d kd .byte (Int32.ofNat (List.replicate n (48 : Int32)).length) (((List.replicate n (48 : Int32)).map fun c => c.toInt8.toInt32).map Value.int) (.int 0) := by
  rw [List.length_replicate, List.map_replicate, List.map_replicate, show (48 : Int32).toInt8.toInt32 = 48 from by decide]; exact V
end OwnLong
theorem own_lrem {p : Program} {l : Launch} {e : Env} {R : Room} {s : State} {m : MethodId} {args : Array Value} {below : List Frame} {meth : Method} {c : Code} {T : State} {locs : List Loc} {cells slots : Nat} {g : JFrame} {target : State} (X : Stand p l e R s m args below meth c T locs cells slots) (hx : p.tables.exec = Jvm.exec) (hg : g.method = m) {x y : Int64} {rest : List Value} (hd : decode c.code g.pc = .ok (.lrem, 1)) (hs : g.stack = .long y :: .long x :: rest) (hy : y ≠ 0)
    (hr : Steps p.tables e below (T.setTop { g with pc := g.pc + 1, stack := .long (x % y) :: rest }) target) : Steps p.tables e below (T.setTop g) target := by
  have q : x - x / y * y = x % y := by
    apply Int64.toInt_inj.mp
    have h1 := Int.mul_tdiv_add_tmod x.toInt y.toInt
    have h2 : (x % y).toInt = x.toInt.tmod y.toInt := Int64.toInt_mod x y
    rw [Int64.toInt_sub, Int64.toInt_mul, Int64.toInt_div, h2]
    have h3 : x.toInt - (x.toInt.tdiv y.toInt) * y.toInt = x.toInt.tmod y.toInt := by rw [Int.mul_comm]; omega
    rw [← h3]
    have b1 := x.toInt_lt; have b2 := Int64.le_toInt x
    have hb : (x.toInt - (x.toInt.tdiv y.toInt) * y.toInt).bmod (2 ^ 64) = x.toInt - (x.toInt.tdiv y.toInt) * y.toInt := by rw [h3, ← h2]; exact Int.bmod_eq_of_le (by have := Int64.le_toInt (x % y); omega) (by have := (x % y).toInt_lt; omega)
    rw [Int.bmod_mul_bmod, Int.sub_bmod_bmod, hb]
  exact XS.lrem X.here hx hg hd hs hy (by rw [q]; exact hr)
theorem own_wN10 : ∀ (f n : Nat), n < 100 ^ f → n < 10 ^ Jvm.Free.SBG.wN f n ∧ (0 < n → 10 ^ (Jvm.Free.SBG.wN f n - 1) ≤ n)
  | 0, n, h => by
    have : n = 0 := by simpa using h
    subst this
    exact ⟨by simp [Jvm.Free.SBG.wN], fun q => absurd q (by omega)⟩
  | f + 1, n, h => by
    have e : Jvm.Free.SBG.wN (f + 1) n = if 100 ≤ n then 2 + Jvm.Free.SBG.wN f (n / 100) else if 9 < n then 2 else 1 := rfl
    rw [e]
    by_cases h1 : 100 ≤ n
    · rw [if_pos h1]
      have hlt : n / 100 < 100 ^ f := by rw [Nat.pow_succ] at h; exact Nat.div_lt_of_lt_mul (by rw [Nat.mul_comm]; exact h)
      obtain ⟨i1, i2⟩ := own_wN10 f (n / 100) hlt
      have hp : 0 < n / 100 := by omega
      have i3 := i2 hp
      refine ⟨?_, fun _ => ?_⟩
      · rw [Nat.pow_add]; have : (10 : Nat) ^ 2 = 100 := by decide
        rw [this]; omega
      · cases hw : Jvm.Free.SBG.wN f (n / 100) with
        | zero => rw [hw] at i1; simp at i1; omega
        | succ k =>
          rw [hw] at i3
          have e2 : 2 + (k + 1) - 1 = k + 2 := by omega
          have e3 : k + 1 - 1 = k := by omega
          rw [e3] at i3
          rw [e2, Nat.pow_add]; have : (10 : Nat) ^ 2 = 100 := by decide
          rw [this]; omega
    · rw [if_neg h1]
      by_cases h2 : 9 < n
      · rw [if_pos h2]; exact ⟨by omega, fun _ => by show 10 ^ 1 ≤ n; omega⟩
      · rw [if_neg h2]; exact ⟨by omega, fun q => by show 10 ^ 0 ≤ n; omega⟩
theorem own_h10 {n : Nat} (h : n < 2 ^ 63) : n < 100 ^ 10 := by
  have e : (100 : Nat) ^ 10 = 100000000000000000000 := by decide
  omega
theorem own_dLlt {n : Nat} (h : n < 2 ^ 63) : n < 10 ^ Jvm.Free.SBG.digitsL n := (own_wN10 10 n (own_h10 h)).1
theorem own_dLge {n : Nat} (h : n < 2 ^ 63) (hp : 0 < n) : 10 ^ (Jvm.Free.SBG.digitsL n - 1) ≤ n := (own_wN10 10 n (own_h10 h)).2 hp
/-- the digits, padded with zeros to any length -/
theorem own_padAt {n k i : Nat} (h : n < 2 ^ 63) (hi : i < k + Jvm.Free.SBG.digitsL n) : (([] ++ List.replicate k (48 : Int32)) ++ own_decL n).getD i 0 = Int32.ofNat (48 + n / 10 ^ (k + Jvm.Free.SBG.digitsL n - 1 - i) % 10) := by
  rw [List.nil_append, List.getD_eq_getElem?_getD]
  by_cases h1 : i < k
  · rw [List.getElem?_append_left (by rw [List.length_replicate]; exact h1), List.getElem?_replicate, if_pos h1]
    have h2 : n / 10 ^ (k + Jvm.Free.SBG.digitsL n - 1 - i) = 0 := Nat.div_eq_of_lt (Nat.lt_of_lt_of_le (own_dLlt h) (Nat.pow_le_pow_right (by decide) (by omega)))
    rw [h2]; rfl
  · rw [List.getElem?_append_right (by rw [List.length_replicate]; omega), List.length_replicate, ← List.getD_eq_getElem?_getD, own_decL_at _ _ (by omega)]
    have e : Jvm.Free.SBG.digitsL n - 1 - (i - k) = k + Jvm.Free.SBG.digitsL n - 1 - i := by omega
    rw [e]
theorem own_padLen (n k : Nat) : (([] ++ List.replicate k (48 : Int32)) ++ own_decL n).length = k + Jvm.Free.SBG.digitsL n := by
  rw [List.nil_append, List.length_append, List.length_replicate, own_decL_len]
theorem own_lnat {n : Nat} (h : n < 2 ^ 63) : (Int64.ofNat n).toInt = n := Int64.toInt_ofNat_of_lt h
theorem own_bm64 {q : Nat} (h : q < 2 ^ 63) : ((q : Nat) : Int).bmod (2 ^ 64) = q := Int.bmod_eq_of_le (by omega) (by omega)
theorem own_ldiv {v : Int64} {n k : Nat} (h : v.toInt = n) (hk : k < 2 ^ 63) (hp : 0 < k) : v / Int64.ofNat k = Int64.ofNat (n / k) := by
  have hn : n < 2 ^ 63 := by have := v.toInt_lt; omega
  have hle : n / k ≤ n := Nat.div_le_self n k
  apply Int64.toInt_inj.mp
  have hq : n / k < 2 ^ 63 := Nat.lt_of_le_of_lt hle hn
  rw [Int64.toInt_div, h, own_lnat hk, own_lnat hq, Int.tdiv_eq_ediv_of_nonneg (by omega)]
  rw [show (n : Int) / (k : Int) = ((n / k : Nat) : Int) from (Int.natCast_ediv n k).symm]
  exact own_bm64 hq
theorem own_lmod {n k : Nat} (hn : n < 2 ^ 63) (hk : k < 2 ^ 63) : Int64.ofNat n % Int64.ofNat k = Int64.ofNat (n % k) := by
  have hle : n % k ≤ n := Nat.mod_le n k
  apply Int64.toInt_inj.mp
  rw [Int64.toInt_mod, own_lnat hn, own_lnat hk, own_lnat (by omega), Int.tmod_eq_emod_of_nonneg (by omega)]
  exact (Int.natCast_emod n k).symm
theorem own_l2i {n : Nat} (hn : n ≤ 1000000) : (Int64.ofNat n).toInt32 = Int32.ofNat n := by
  apply Int32.toInt_inj.mp
  rw [Int64.toInt_toInt32, own_lnat (by omega), own_nat hn]
  exact Int.bmod_eq_of_le (by omega) (by omega)
theorem own_lnz {n : Nat} (hp : 0 < n) (hn : n < 2 ^ 63) : Int64.ofNat n ≠ 0 := fun q => by
  have := congrArg Int64.toInt q
  rw [own_lnat hn, show (0 : Int64).toInt = 0 from rfl] at this; omega
theorem own_land (x : Int64) : ∃ n : Nat, (x &&& (9223372036854775807 : Int64)).toInt = n := by
  have h : (x &&& (9223372036854775807 : Int64)).toInt = x.toInt % 2 ^ 63 := Jvm.Kit.i64_mask x 9223372036854775807 (k := 63) (by decide) (by decide)
  exact ⟨(x.toInt % 2 ^ 63).toNat, by rw [h]; omega⟩
theorem own_eqI {t : Term} {args : Array Value} {s : State} {k : Int32} (h : (Jvm.Cond.eq t (Jvm.Term.int k)).value args s none s [] = some true) : t.eval args s none [] s = some (.int k) := by
  obtain ⟨x, y, h1, h2, h3, h4⟩ := cmp_v (Or.inl h)
  have h5 : (Jvm.Term.int k).eval args s none [] s = some (.int k) := Term.int_eval k
  rw [h5] at h2
  obtain rfl : (Value.int k) = y := Option.some.inj h2
  obtain ⟨z, rfl⟩ := h4
  have h6 : (Jvm.Cond.eq t (Jvm.Term.int k)).value args s none s [] = some (decide (z = k)) := by simp [Cond.value, h1, h5]
  rw [h6] at h
  have h7 : z = k := of_decide_eq_true (Option.some.inj h)
  rw [h1, h7]
theorem own_ord {s : State} {args : Array Value} {t t' : Term} {a b : Addr} {C n d : String} {i j : Int32} (ha : t.eval args s none [] s = some (.ref a)) (hb : t'.eval args s none [] s = some (.ref b))
    (h1 : (Jvm.Cond.eq (Jvm.Term.field t C n d) (Jvm.Term.int i)).value args s none s [] = some true) (h2 : (Jvm.Cond.eq (Jvm.Term.field t' C n d) (Jvm.Term.int j)).value args s none s [] = some true) (hij : i ≠ j) : a ≠ b := fun e => by
  subst e
  have e1 := own_eqI h1; have e2 := own_eqI h2
  rw [fld_at ha] at e1; rw [fld_at hb] at e2
  rw [e1] at e2
  exact hij (Value.int.inj (Option.some.inj e2))
theorem own_str3 {s : State} {args : Array Value} (hfit : Fit s) {t : Term} {y : Addr} {c0 c1 c2 : Int32} (hr : ∀ c ∈ [c0, c1, c2], ¬ c < 0 ∧ ¬ (255 : Int32) < c) (hb : [c0, c1, c2].map (fun c => c.toInt8.toInt32) = [c0, c1, c2]) (ey : t.eval args s none [] s = some (.ref y)) (n1 : (Jvm.Cond.exactly t "java/lang/String").value args s none s [] = some true)
    (n2 : (Jvm.Cond.arrayOf (Jvm.Term.field t "java/lang/String" "value" "[B") .byte).value args s none s [] = some true) (n4 : (Jvm.Cond.eq (Jvm.Term.length (Jvm.Term.field t "java/lang/String" "value" "[B")) (Jvm.Term.int (3 : Int32))).value args s none s [] = some true) (n5 : (Jvm.Cond.eq (Jvm.Term.field t "java/lang/String" "coder" "B") (Jvm.Term.int (0 : Int32))).value args s none s [] = some true)
    (n6 : (Jvm.Cond.eq (Jvm.Term.elem (Jvm.Term.field t "java/lang/String" "value" "[B") (Jvm.Term.int (0 : Int32))) (Jvm.Term.int c0)).value args s none s [] = some true) (n7 : (Jvm.Cond.eq (Jvm.Term.elem (Jvm.Term.field t "java/lang/String" "value" "[B") (Jvm.Term.int (1 : Int32))) (Jvm.Term.int c1)).value args s none s [] = some true) (n8 : (Jvm.Cond.eq (Jvm.Term.elem (Jvm.Term.field t "java/lang/String" "value" "[B") (Jvm.Term.int (2 : Int32))) (Jvm.Term.int c2)).value args s none s [] = some true) :
    ∃ (tt : Addr) (k : ClassId), own_Str s s.heap y tt k [c0, c1, c2] := by
  obtain ⟨tt, et⟩ := arr_v n2
  obtain ⟨cl, A⟩ := Arr.start et n2
  have e3 := own_eqI n4
  obtain ⟨x, cl2, e4, e5, e6⟩ := Term.length_spec e3
  rw [et] at e4
  obtain rfl : tt = x := Value.ref.inj (Option.some.inj e4)
  have e7 : s.arrayAt? tt = some cl := Arr.fin (U := s) (Vm.Alike.refl _) A
  have h31 := Jvm.Free.SBG.length_lt et e7 e3
  rw [e7] at e5
  obtain rfl : cl = cl2 := Option.some.inj e5
  have e6 : cl.slots.size.toInt32 = 3 := (Value.int.inj e6).symm
  have g0 := (elem_in (own_eqI n6) et (Term.int_eval (0 : Int32)) A.1).2
  have g1 := (elem_in (own_eqI n7) et (Term.int_eval (1 : Int32)) A.1).2
  have g2 := (elem_in (own_eqI n8) et (Term.int_eval (2 : Int32)) A.1).2
  have V : Arv s s.heap tt cl.cls .byte (3 : Int32) [.int c0, .int c1, .int c2] (.int 0) := Arv.start hfit A h31 e6 (by decide) rfl ⟨g0, g1, g2, trivial⟩
  refine ⟨tt, cl.cls, Exa.start ey n1, Fld.start ((fld_at ey).symm.trans et), Fld.start ((fld_at ey).symm.trans (own_eqI n5)), ?_, hr, by simp⟩
  rw [hb]; exact V
theorem own_pad10 {n k : Nat} (h : k + Jvm.Free.SBG.digitsL n = 10) : (if (0 : Int32) < (10 : Int32) - Int32.ofNat (Jvm.Free.SBG.digitsL n) then (10 : Int32) - Int32.ofNat (Jvm.Free.SBG.digitsL n) else (0 : Int32)) = Int32.ofNat k := by
  have e : (10 : Int32) - Int32.ofNat (Jvm.Free.SBG.digitsL n) = Int32.ofNat k := by
    rw [show (10 : Int32) = Int32.ofNat 10 from rfl, own_subN (by omega)]; congr 1; omega
  rw [e]
  by_cases h0 : k = 0
  · subst h0; decide
  · rw [if_pos (show (0 : Int32) < Int32.ofNat k from (own_ltN (a := 0) (b := k) (by decide) (by omega)).mpr (by omega))]
theorem own_d10 {n : Nat} (h : n ≤ 9999999999) : ∃ k, k + Jvm.Free.SBG.digitsL n = 10 := by
  have h1 := Jvm.Free.SBG.digitsL_pos n
  have h2 : Jvm.Free.SBG.digitsL n ≤ 10 := by
    by_cases h0 : 0 < n
    · have h3 := own_dLge (n := n) (by omega) h0
      have h4 : ¬ 11 ≤ Jvm.Free.SBG.digitsL n := fun q => by
        have h5 : (10 : Nat) ^ 10 ≤ 10 ^ (Jvm.Free.SBG.digitsL n - 1) := Nat.pow_le_pow_right (by decide) (by omega)
        have e : (10 : Nat) ^ 10 = 10000000000 := by decide
        omega
      omega
    · have : n = 0 := by omega
      subst this; decide
  exact ⟨10 - Jvm.Free.SBG.digitsL n, by omega⟩
theorem own_val10 (x : Int64) : ∃ n : Nat, ((x &&& (9223372036854775807 : Int64)) % (10000000000 : Int64)).toInt = n ∧ n ≤ 9999999999 := by
  have h : (x &&& (9223372036854775807 : Int64)).toInt = x.toInt % 2 ^ 63 := Jvm.Kit.i64_mask x 9223372036854775807 (k := 63) (by decide) (by decide)
  have h2 : ((x &&& (9223372036854775807 : Int64)) % (10000000000 : Int64)).toInt = (x.toInt % 2 ^ 63) % 10000000000 := by
    rw [Int64.toInt_mod, h, show (10000000000 : Int64).toInt = 10000000000 from by decide, Int.tmod_eq_emod_of_nonneg (by omega)]
  exact ⟨((x.toInt % 2 ^ 63) % 10000000000).toNat, by rw [h2]; omega, by omega⟩
theorem own_fmtAt {ds : List Int32} {n k i : Nat} (h3 : ds.length = 3) (h : n < 2 ^ 63) (hk : k + Jvm.Free.SBG.digitsL n = 10) (hi : i < 10) : ((([] ++ ds) ++ (([] ++ List.replicate k (48 : Int32)) ++ own_decL n)) : List Int32).getD (3 + i) 0 = Int32.ofNat (48 + n / 10 ^ (9 - i) % 10) := by
  have e : (([] ++ ds) : List Int32).length = 3 := by rw [List.nil_append, h3]
  have q := own_padAt (n := n) (k := k) (i := i) h (by omega)
  rw [List.getD_eq_getElem?_getD] at q ⊢
  rw [List.getElem?_append_right (by omega), e, show 3 + i - 3 = i from by omega, q, hk]
theorem own_fmt0 {c0 c1 c2 : Int32} {B : List Int32} {i : Nat} (hi : i < 3) : ((([] ++ [c0, c1, c2]) ++ B) : List Int32).getD i 0 = ([c0, c1, c2] : List Int32).getD i 0 := by
  rw [List.nil_append, List.getD_eq_getElem?_getD, List.getElem?_append_left (by simpa using hi), ← List.getD_eq_getElem?_getD]
theorem own_d_jdk_29_method_65_code_0 : decode jdk_29_method_65_code 0 = .ok (.iload_n 0, 1) := by decide +kernel
theorem own_d_jdk_29_method_65_code_1 : decode jdk_29_method_65_code 1 = .ok (.iload_n 1, 1) := by decide +kernel
theorem own_d_jdk_29_method_65_code_2 : decode jdk_29_method_65_code 2 = .ok (.if_icmp .lt 7, 3) := by decide +kernel
theorem own_d_jdk_29_method_65_code_9 : decode jdk_29_method_65_code 9 = .ok (.iload_n 1, 1) := by decide +kernel
theorem own_d_jdk_29_method_65_code_10 : decode jdk_29_method_65_code 10 = .ok (.ireturn, 1) := by decide +kernel
theorem own_d_jdk_29_method_65_code_5 : decode jdk_29_method_65_code 5 = .ok (.iload_n 0, 1) := by decide +kernel
theorem own_d_jdk_29_method_65_code_6 : decode jdk_29_method_65_code 6 = .ok (.goto 4, 3) := by decide +kernel
theorem own_d_jdk_29_method_69_code_0 : decode jdk_29_method_69_code 0 = .ok (.iload_n 0, 1) := by decide +kernel
theorem own_d_jdk_29_method_69_code_1 : decode jdk_29_method_69_code 1 = .ok (.iload_n 1, 1) := by decide +kernel
theorem own_d_jdk_29_method_69_code_2 : decode jdk_29_method_69_code 2 = .ok (.if_icmp .gt 7, 3) := by decide +kernel
theorem own_d_jdk_29_method_69_code_9 : decode jdk_29_method_69_code 9 = .ok (.iload_n 1, 1) := by decide +kernel
theorem own_d_jdk_29_method_69_code_10 : decode jdk_29_method_69_code 10 = .ok (.ireturn, 1) := by decide +kernel
theorem own_d_jdk_29_method_69_code_5 : decode jdk_29_method_69_code 5 = .ok (.iload_n 0, 1) := by decide +kernel
theorem own_d_jdk_29_method_69_code_6 : decode jdk_29_method_69_code 6 = .ok (.goto 4, 3) := by decide +kernel
theorem own_d_jdk_68_method_2_code_0 : decode jdk_68_method_2_code 0 = .ok (.aload_n 0, 1) := by decide +kernel
theorem own_d_jdk_68_method_2_code_1 : decode jdk_68_method_2_code 1 = .ok (.invokespecial 3, 3) := by decide +kernel
theorem own_d_jdk_68_method_2_code_4 : decode jdk_68_method_2_code 4 = .ok (.getstatic 18, 3) := by decide +kernel
theorem own_d_jdk_68_method_2_code_7 : decode jdk_68_method_2_code 7 = .ok (.ifCond .eq 18, 3) := by decide +kernel
theorem own_d_jdk_68_method_2_code_10 : decode jdk_68_method_2_code 10 = .ok (.aload_n 0, 1) := by decide +kernel
theorem own_d_jdk_68_method_2_code_11 : decode jdk_68_method_2_code 11 = .ok (.iload_n 1, 1) := by decide +kernel
theorem own_d_jdk_68_method_2_code_12 : decode jdk_68_method_2_code 12 = .ok (.newarray .byte, 2) := by decide +kernel
theorem own_d_jdk_68_method_2_code_14 : decode jdk_68_method_2_code 14 = .ok (.putfield 15, 3) := by decide +kernel
theorem own_d_jdk_68_method_2_code_17 : decode jdk_68_method_2_code 17 = .ok (.aload_n 0, 1) := by decide +kernel
theorem own_d_jdk_68_method_2_code_18 : decode jdk_68_method_2_code 18 = .ok (.iconst 0, 1) := by decide +kernel
theorem own_d_jdk_68_method_2_code_19 : decode jdk_68_method_2_code 19 = .ok (.putfield 22, 3) := by decide +kernel
theorem own_d_jdk_68_method_2_code_22 : decode jdk_68_method_2_code 22 = .ok (.goto 16, 3) := by decide +kernel
theorem own_d_jdk_68_method_2_code_38 : decode jdk_68_method_2_code 38 = .ok (.return_, 1) := by decide +kernel
theorem own_d_jdk_67_method_1_code_0 : decode jdk_67_method_1_code 0 = .ok (.aload_n 0, 1) := by decide +kernel
theorem own_d_jdk_67_method_1_code_1 : decode jdk_67_method_1_code 1 = .ok (.bipush 16, 2) := by decide +kernel
theorem own_d_jdk_67_method_1_code_3 : decode jdk_67_method_1_code 3 = .ok (.invokespecial 1, 3) := by decide +kernel
theorem own_pd0 : parseMethodDescriptor "(I)V" = some ⟨[.int], none⟩ := by decide +kernel
theorem own_d_jdk_67_method_1_code_6 : decode jdk_67_method_1_code 6 = .ok (.return_, 1) := by decide +kernel
theorem own_d_jdk_68_method_68_code_0 : decode jdk_68_method_68_code 0 = .ok (.getstatic 18, 3) := by decide +kernel
theorem own_d_jdk_68_method_68_code_3 : decode jdk_68_method_68_code 3 = .ok (.ifCond .eq 14, 3) := by decide +kernel
theorem own_d_jdk_68_method_68_code_6 : decode jdk_68_method_68_code 6 = .ok (.aload_n 0, 1) := by decide +kernel
theorem own_d_jdk_68_method_68_code_7 : decode jdk_68_method_68_code 7 = .ok (.getfield 22, 3) := by decide +kernel
theorem own_d_jdk_68_method_68_code_10 : decode jdk_68_method_68_code 10 = .ok (.ifCond .ne 7, 3) := by decide +kernel
theorem own_d_jdk_68_method_68_code_13 : decode jdk_68_method_68_code 13 = .ok (.iconst 1, 1) := by decide +kernel
theorem own_d_jdk_68_method_68_code_14 : decode jdk_68_method_68_code 14 = .ok (.goto 4, 3) := by decide +kernel
theorem own_d_jdk_68_method_68_code_18 : decode jdk_68_method_68_code 18 = .ok (.ireturn, 1) := by decide +kernel
theorem own_d_jdk_68_method_9_code_0 : decode jdk_68_method_9_code 0 = .ok (.aload_n 0, 1) := by decide +kernel
theorem own_d_jdk_68_method_9_code_1 : decode jdk_68_method_9_code 1 = .ok (.getfield 15, 3) := by decide +kernel
theorem own_d_jdk_68_method_9_code_4 : decode jdk_68_method_9_code 4 = .ok (.arraylength, 1) := by decide +kernel
theorem own_d_jdk_68_method_9_code_5 : decode jdk_68_method_9_code 5 = .ok (.aload_n 0, 1) := by decide +kernel
theorem own_d_jdk_68_method_9_code_6 : decode jdk_68_method_9_code 6 = .ok (.getfield 22, 3) := by decide +kernel
theorem own_d_jdk_68_method_9_code_9 : decode jdk_68_method_9_code 9 = .ok (.ishr, 1) := by decide +kernel
theorem own_d_jdk_68_method_9_code_10 : decode jdk_68_method_9_code 10 = .ok (.istore_n 2, 1) := by decide +kernel
theorem own_d_jdk_68_method_9_code_11 : decode jdk_68_method_9_code 11 = .ok (.iload_n 1, 1) := by decide +kernel
theorem own_d_jdk_68_method_9_code_12 : decode jdk_68_method_9_code 12 = .ok (.iload_n 2, 1) := by decide +kernel
theorem own_d_jdk_68_method_9_code_13 : decode jdk_68_method_9_code 13 = .ok (.isub, 1) := by decide +kernel
theorem own_d_jdk_68_method_9_code_14 : decode jdk_68_method_9_code 14 = .ok (.ifCond .le 24, 3) := by decide +kernel
theorem own_d_jdk_68_method_9_code_38 : decode jdk_68_method_9_code 38 = .ok (.return_, 1) := by decide +kernel
theorem own_d_jdk_42_method_152_code_0 : decode jdk_42_method_152_code 0 = .ok (.getstatic 38, 3) := by decide +kernel
theorem own_d_jdk_42_method_152_code_3 : decode jdk_42_method_152_code 3 = .ok (.ifCond .eq 10, 3) := by decide +kernel
theorem own_d_jdk_42_method_152_code_6 : decode jdk_42_method_152_code 6 = .ok (.aload_n 0, 1) := by decide +kernel
theorem own_d_jdk_42_method_152_code_7 : decode jdk_42_method_152_code 7 = .ok (.getfield 15, 3) := by decide +kernel
theorem own_d_jdk_42_method_152_code_10 : decode jdk_42_method_152_code 10 = .ok (.goto 4, 3) := by decide +kernel
theorem own_d_jdk_42_method_152_code_14 : decode jdk_42_method_152_code 14 = .ok (.ireturn, 1) := by decide +kernel
theorem own_d_jdk_42_method_54_code_0 : decode jdk_42_method_54_code 0 = .ok (.aload_n 0, 1) := by decide +kernel
theorem own_d_jdk_42_method_54_code_1 : decode jdk_42_method_54_code 1 = .ok (.getfield 9, 3) := by decide +kernel
theorem own_d_jdk_42_method_54_code_4 : decode jdk_42_method_54_code 4 = .ok (.arraylength, 1) := by decide +kernel
theorem own_d_jdk_42_method_54_code_5 : decode jdk_42_method_54_code 5 = .ok (.aload_n 0, 1) := by decide +kernel
theorem own_d_jdk_42_method_54_code_6 : decode jdk_42_method_54_code 6 = .ok (.invokevirtual 335, 3) := by decide +kernel
theorem own_pd1 : parseMethodDescriptor "()B" = some ⟨[], some .byte⟩ := by decide +kernel
theorem own_d_jdk_42_method_54_code_9 : decode jdk_42_method_54_code 9 = .ok (.ishr, 1) := by decide +kernel
theorem own_d_jdk_42_method_54_code_10 : decode jdk_42_method_54_code 10 = .ok (.ireturn, 1) := by decide +kernel
theorem own_d_jdk_42_method_154_code_0 : decode jdk_42_method_154_code 0 = .ok (.getstatic 38, 3) := by decide +kernel
theorem own_d_jdk_42_method_154_code_3 : decode jdk_42_method_154_code 3 = .ok (.ifCond .eq 14, 3) := by decide +kernel
theorem own_d_jdk_42_method_154_code_6 : decode jdk_42_method_154_code 6 = .ok (.aload_n 0, 1) := by decide +kernel
theorem own_d_jdk_42_method_154_code_7 : decode jdk_42_method_154_code 7 = .ok (.getfield 15, 3) := by decide +kernel
theorem own_d_jdk_42_method_154_code_10 : decode jdk_42_method_154_code 10 = .ok (.ifCond .ne 7, 3) := by decide +kernel
theorem own_d_jdk_42_method_154_code_13 : decode jdk_42_method_154_code 13 = .ok (.iconst 1, 1) := by decide +kernel
theorem own_d_jdk_42_method_154_code_14 : decode jdk_42_method_154_code 14 = .ok (.goto 4, 3) := by decide +kernel
theorem own_d_jdk_42_method_154_code_18 : decode jdk_42_method_154_code 18 = .ok (.ireturn, 1) := by decide +kernel
theorem own_d_jdk_41_method_11_code_0 : decode jdk_41_method_11_code 0 = .ok (.iload_n 0, 1) := by decide +kernel
theorem own_d_jdk_41_method_11_code_1 : decode jdk_41_method_11_code 1 = .ok (.ifCond .lt 8, 3) := by decide +kernel
theorem own_d_jdk_41_method_11_code_4 : decode jdk_41_method_11_code 4 = .ok (.iload_n 0, 1) := by decide +kernel
theorem own_d_jdk_41_method_11_code_5 : decode jdk_41_method_11_code 5 = .ok (.iload_n 1, 1) := by decide +kernel
theorem own_d_jdk_41_method_11_code_6 : decode jdk_41_method_11_code 6 = .ok (.if_icmp .lt 10, 3) := by decide +kernel
theorem own_d_jdk_41_method_11_code_16 : decode jdk_41_method_11_code 16 = .ok (.iload_n 0, 1) := by decide +kernel
theorem own_d_jdk_41_method_11_code_17 : decode jdk_41_method_11_code 17 = .ok (.ireturn, 1) := by decide +kernel
theorem own_d_jdk_42_method_155_code_0 : decode jdk_42_method_155_code 0 = .ok (.iload_n 0, 1) := by decide +kernel
theorem own_d_jdk_42_method_155_code_1 : decode jdk_42_method_155_code 1 = .ok (.iload_n 1, 1) := by decide +kernel
theorem own_d_jdk_42_method_155_code_2 : decode jdk_42_method_155_code 2 = .ok (.getstatic 1053, 3) := by decide +kernel
theorem own_d_jdk_42_method_155_code_5 : decode jdk_42_method_155_code 5 = .ok (.invokestatic 1059, 3) := by decide +kernel
theorem own_pd2 : parseMethodDescriptor "(IILjava/util/function/BiFunction;)I" = some ⟨[.int, .int, (.object "java/util/function/BiFunction")], some .int⟩ := by decide +kernel
theorem own_d_jdk_42_method_155_code_8 : decode jdk_42_method_155_code 8 = .ok (.pop, 1) := by decide +kernel
theorem own_d_jdk_42_method_155_code_9 : decode jdk_42_method_155_code 9 = .ok (.return_, 1) := by decide +kernel
theorem own_d_jdk_43_method_2_code_0 : decode jdk_43_method_2_code 0 = .ok (.iload_n 1, 1) := by decide +kernel
theorem own_d_jdk_43_method_2_code_1 : decode jdk_43_method_2_code 1 = .ok (.aload_n 0, 1) := by decide +kernel
theorem own_d_jdk_43_method_2_code_2 : decode jdk_43_method_2_code 2 = .ok (.arraylength, 1) := by decide +kernel
theorem own_d_jdk_43_method_2_code_3 : decode jdk_43_method_2_code 3 = .ok (.invokestatic 9, 3) := by decide +kernel
theorem own_pd3 : parseMethodDescriptor "(II)V" = some ⟨[.int, .int], none⟩ := by decide +kernel
theorem own_d_jdk_43_method_2_code_6 : decode jdk_43_method_2_code 6 = .ok (.aload_n 0, 1) := by decide +kernel
theorem own_d_jdk_43_method_2_code_7 : decode jdk_43_method_2_code 7 = .ok (.iload_n 1, 1) := by decide +kernel
theorem own_d_jdk_43_method_2_code_8 : decode jdk_43_method_2_code 8 = .ok (.baload, 1) := by decide +kernel
theorem own_d_jdk_43_method_2_code_9 : decode jdk_43_method_2_code 9 = .ok (.sipush 255, 3) := by decide +kernel
theorem own_d_jdk_43_method_2_code_12 : decode jdk_43_method_2_code 12 = .ok (.iand, 1) := by decide +kernel
theorem own_d_jdk_43_method_2_code_13 : decode jdk_43_method_2_code 13 = .ok (.i2c, 1) := by decide +kernel
theorem own_d_jdk_43_method_2_code_14 : decode jdk_43_method_2_code 14 = .ok (.ireturn, 1) := by decide +kernel
theorem own_d_jdk_42_method_56_code_0 : decode jdk_42_method_56_code 0 = .ok (.aload_n 0, 1) := by decide +kernel
theorem own_d_jdk_42_method_56_code_1 : decode jdk_42_method_56_code 1 = .ok (.invokevirtual 492, 3) := by decide +kernel
theorem own_pd4 : parseMethodDescriptor "()Z" = some ⟨[], some .boolean⟩ := by decide +kernel
theorem own_d_jdk_42_method_56_code_4 : decode jdk_42_method_56_code 4 = .ok (.ifCond .eq 12, 3) := by decide +kernel
theorem own_d_jdk_42_method_56_code_7 : decode jdk_42_method_56_code 7 = .ok (.aload_n 0, 1) := by decide +kernel
theorem own_d_jdk_42_method_56_code_8 : decode jdk_42_method_56_code 8 = .ok (.getfield 9, 3) := by decide +kernel
theorem own_d_jdk_42_method_56_code_11 : decode jdk_42_method_56_code 11 = .ok (.iload_n 1, 1) := by decide +kernel
theorem own_d_jdk_42_method_56_code_12 : decode jdk_42_method_56_code 12 = .ok (.invokestatic 495, 3) := by decide +kernel
theorem own_pd5 : parseMethodDescriptor "([BI)C" = some ⟨[(.array .byte), .int], some .char⟩ := by decide +kernel
theorem own_d_jdk_42_method_56_code_15 : decode jdk_42_method_56_code 15 = .ok (.ireturn, 1) := by decide +kernel
theorem own_d_jdk_68_method_71_code_0 : decode jdk_68_method_71_code 0 = .ok (.getstatic 18, 3) := by decide +kernel
theorem own_d_jdk_68_method_71_code_3 : decode jdk_68_method_71_code 3 = .ok (.ifCond .eq 18, 3) := by decide +kernel
theorem own_d_jdk_68_method_71_code_6 : decode jdk_68_method_71_code 6 = .ok (.aload_n 0, 1) := by decide +kernel
theorem own_d_jdk_68_method_71_code_7 : decode jdk_68_method_71_code 7 = .ok (.getfield 22, 3) := by decide +kernel
theorem own_d_jdk_68_method_71_code_10 : decode jdk_68_method_71_code 10 = .ok (.aload_n 1, 1) := by decide +kernel
theorem own_d_jdk_68_method_71_code_11 : decode jdk_68_method_71_code 11 = .ok (.invokevirtual 40, 3) := by decide +kernel
theorem own_d_jdk_68_method_71_code_14 : decode jdk_68_method_71_code 14 = .ok (.if_icmp .eq 7, 3) := by decide +kernel
theorem own_d_jdk_68_method_71_code_21 : decode jdk_68_method_71_code 21 = .ok (.return_, 1) := by decide +kernel
theorem own_d_jdk_42_method_147_code_0 : decode jdk_42_method_147_code 0 = .ok (.aload_n 0, 1) := by decide +kernel
theorem own_d_jdk_42_method_147_code_1 : decode jdk_42_method_147_code 1 = .ok (.invokevirtual 335, 3) := by decide +kernel
theorem own_d_jdk_42_method_147_code_4 : decode jdk_42_method_147_code 4 = .ok (.iload_n 3, 1) := by decide +kernel
theorem own_d_jdk_42_method_147_code_5 : decode jdk_42_method_147_code 5 = .ok (.if_icmp .ne 23, 3) := by decide +kernel
theorem own_d_jdk_42_method_147_code_8 : decode jdk_42_method_147_code 8 = .ok (.aload_n 0, 1) := by decide +kernel
theorem own_d_jdk_42_method_147_code_9 : decode jdk_42_method_147_code 9 = .ok (.getfield 9, 3) := by decide +kernel
theorem own_d_jdk_42_method_147_code_12 : decode jdk_42_method_147_code 12 = .ok (.iconst 0, 1) := by decide +kernel
theorem own_d_jdk_42_method_147_code_13 : decode jdk_42_method_147_code 13 = .ok (.aload_n 1, 1) := by decide +kernel
theorem own_d_jdk_42_method_147_code_14 : decode jdk_42_method_147_code 14 = .ok (.iload_n 2, 1) := by decide +kernel
theorem own_d_jdk_42_method_147_code_15 : decode jdk_42_method_147_code 15 = .ok (.iload_n 3, 1) := by decide +kernel
theorem own_d_jdk_42_method_147_code_16 : decode jdk_42_method_147_code 16 = .ok (.ishl, 1) := by decide +kernel
theorem own_d_jdk_42_method_147_code_17 : decode jdk_42_method_147_code 17 = .ok (.aload_n 0, 1) := by decide +kernel
theorem own_d_jdk_42_method_147_code_18 : decode jdk_42_method_147_code 18 = .ok (.getfield 9, 3) := by decide +kernel
theorem own_d_jdk_42_method_147_code_21 : decode jdk_42_method_147_code 21 = .ok (.arraylength, 1) := by decide +kernel
theorem own_d_jdk_42_method_147_code_22 : decode jdk_42_method_147_code 22 = .ok (.invokestatic 212, 3) := by decide +kernel
theorem own_d_jdk_42_method_147_code_25 : decode jdk_42_method_147_code 25 = .ok (.goto 18, 3) := by decide +kernel
theorem own_d_jdk_42_method_147_code_43 : decode jdk_42_method_147_code 43 = .ok (.return_, 1) := by decide +kernel
theorem own_d_jdk_68_method_73_code_0 : decode jdk_68_method_73_code 0 = .ok (.aload_n 0, 1) := by decide +kernel
theorem own_d_jdk_68_method_73_code_1 : decode jdk_68_method_73_code 1 = .ok (.aload_n 2, 1) := by decide +kernel
theorem own_d_jdk_68_method_73_code_2 : decode jdk_68_method_73_code 2 = .ok (.invokevirtual 397, 3) := by decide +kernel
theorem own_pd6 : parseMethodDescriptor "(Ljava/lang/String;)V" = some ⟨[(.object "java/lang/String")], none⟩ := by decide +kernel
theorem own_d_jdk_68_method_73_code_5 : decode jdk_68_method_73_code 5 = .ok (.aload_n 2, 1) := by decide +kernel
theorem own_d_jdk_68_method_73_code_6 : decode jdk_68_method_73_code 6 = .ok (.aload_n 0, 1) := by decide +kernel
theorem own_d_jdk_68_method_73_code_7 : decode jdk_68_method_73_code 7 = .ok (.getfield 15, 3) := by decide +kernel
theorem own_d_jdk_68_method_73_code_10 : decode jdk_68_method_73_code 10 = .ok (.iload_n 1, 1) := by decide +kernel
theorem own_d_jdk_68_method_73_code_11 : decode jdk_68_method_73_code 11 = .ok (.aload_n 0, 1) := by decide +kernel
theorem own_d_jdk_68_method_73_code_12 : decode jdk_68_method_73_code 12 = .ok (.getfield 22, 3) := by decide +kernel
theorem own_d_jdk_68_method_73_code_15 : decode jdk_68_method_73_code 15 = .ok (.invokevirtual 399, 3) := by decide +kernel
theorem own_pd7 : parseMethodDescriptor "([BIB)V" = some ⟨[(.array .byte), .int, .byte], none⟩ := by decide +kernel
theorem own_d_jdk_68_method_73_code_18 : decode jdk_68_method_73_code 18 = .ok (.return_, 1) := by decide +kernel
theorem own_d_jdk_68_method_22_code_0 : decode jdk_68_method_22_code 0 = .ok (.aload_n 1, 1) := by decide +kernel
theorem own_d_jdk_68_method_22_code_1 : decode jdk_68_method_22_code 1 = .ok (.ifnonnull 8, 3) := by decide +kernel
theorem own_d_jdk_68_method_22_code_9 : decode jdk_68_method_22_code 9 = .ok (.aload_n 1, 1) := by decide +kernel
theorem own_d_jdk_68_method_22_code_10 : decode jdk_68_method_22_code 10 = .ok (.invokevirtual 32, 3) := by decide +kernel
theorem own_pd8 : parseMethodDescriptor "()I" = some ⟨[], some .int⟩ := by decide +kernel
theorem own_d_jdk_68_method_22_code_13 : decode jdk_68_method_22_code 13 = .ok (.istore_n 2, 1) := by decide +kernel
theorem own_d_jdk_68_method_22_code_14 : decode jdk_68_method_22_code 14 = .ok (.aload_n 0, 1) := by decide +kernel
theorem own_d_jdk_68_method_22_code_15 : decode jdk_68_method_22_code 15 = .ok (.aload_n 0, 1) := by decide +kernel
theorem own_d_jdk_68_method_22_code_16 : decode jdk_68_method_22_code 16 = .ok (.getfield 79, 3) := by decide +kernel
theorem own_d_jdk_68_method_22_code_19 : decode jdk_68_method_22_code 19 = .ok (.iload_n 2, 1) := by decide +kernel
theorem own_d_jdk_68_method_22_code_20 : decode jdk_68_method_22_code 20 = .ok (.iadd, 1) := by decide +kernel
theorem own_d_jdk_68_method_22_code_21 : decode jdk_68_method_22_code 21 = .ok (.invokevirtual 100, 3) := by decide +kernel
theorem own_d_jdk_68_method_22_code_24 : decode jdk_68_method_22_code 24 = .ok (.aload_n 0, 1) := by decide +kernel
theorem own_d_jdk_68_method_22_code_25 : decode jdk_68_method_22_code 25 = .ok (.aload_n 0, 1) := by decide +kernel
theorem own_d_jdk_68_method_22_code_26 : decode jdk_68_method_22_code 26 = .ok (.getfield 79, 3) := by decide +kernel
theorem own_d_jdk_68_method_22_code_29 : decode jdk_68_method_22_code 29 = .ok (.aload_n 1, 1) := by decide +kernel
theorem own_d_jdk_68_method_22_code_30 : decode jdk_68_method_22_code 30 = .ok (.invokevirtual 208, 3) := by decide +kernel
theorem own_pd9 : parseMethodDescriptor "(ILjava/lang/String;)V" = some ⟨[.int, (.object "java/lang/String")], none⟩ := by decide +kernel
theorem own_d_jdk_68_method_22_code_33 : decode jdk_68_method_22_code 33 = .ok (.aload_n 0, 1) := by decide +kernel
theorem own_d_jdk_68_method_22_code_34 : decode jdk_68_method_22_code 34 = .ok (.dup, 1) := by decide +kernel
theorem own_d_jdk_68_method_22_code_35 : decode jdk_68_method_22_code 35 = .ok (.getfield 79, 3) := by decide +kernel
theorem own_d_jdk_68_method_22_code_38 : decode jdk_68_method_22_code 38 = .ok (.iload_n 2, 1) := by decide +kernel
theorem own_d_jdk_68_method_22_code_39 : decode jdk_68_method_22_code 39 = .ok (.iadd, 1) := by decide +kernel
theorem own_d_jdk_68_method_22_code_40 : decode jdk_68_method_22_code 40 = .ok (.putfield 79, 3) := by decide +kernel
theorem own_d_jdk_68_method_22_code_43 : decode jdk_68_method_22_code 43 = .ok (.aload_n 0, 1) := by decide +kernel
theorem own_d_jdk_68_method_22_code_44 : decode jdk_68_method_22_code 44 = .ok (.areturn, 1) := by decide +kernel
theorem own_d_jdk_67_method_7_code_0 : decode jdk_67_method_7_code 0 = .ok (.aload_n 0, 1) := by decide +kernel
theorem own_d_jdk_67_method_7_code_1 : decode jdk_67_method_7_code 1 = .ok (.aload_n 1, 1) := by decide +kernel
theorem own_d_jdk_67_method_7_code_2 : decode jdk_67_method_7_code 2 = .ok (.invokespecial 29, 3) := by decide +kernel
theorem own_pd10 : parseMethodDescriptor "(Ljava/lang/String;)Ljava/lang/AbstractStringBuilder;" = some ⟨[(.object "java/lang/String")], some (.object "java/lang/AbstractStringBuilder")⟩ := by decide +kernel
theorem own_d_jdk_67_method_7_code_5 : decode jdk_67_method_7_code 5 = .ok (.pop, 1) := by decide +kernel
theorem own_d_jdk_67_method_7_code_6 : decode jdk_67_method_7_code 6 = .ok (.aload_n 0, 1) := by decide +kernel
theorem own_d_jdk_67_method_7_code_7 : decode jdk_67_method_7_code 7 = .ok (.areturn, 1) := by decide +kernel
theorem own_d_jdk_65_method_131_code_0 : decode jdk_65_method_131_code 0 = .ok (.iload_n 1, 1) := by decide +kernel
theorem own_d_jdk_65_method_131_code_1 : decode jdk_65_method_131_code 1 = .ok (.iload_n 0, 1) := by decide +kernel
theorem own_d_jdk_65_method_131_code_2 : decode jdk_65_method_131_code 2 = .ok (.if_icmp .ge 35, 3) := by decide +kernel
theorem own_d_jdk_65_method_131_code_37 : decode jdk_65_method_131_code 37 = .ok (.return_, 1) := by decide +kernel
theorem own_d_jdk_65_method_133_code_0 : decode jdk_65_method_133_code 0 = .ok (.iload_n 1, 1) := by decide +kernel
theorem own_d_jdk_65_method_133_code_1 : decode jdk_65_method_133_code 1 = .ok (.iload_n 2, 1) := by decide +kernel
theorem own_d_jdk_65_method_133_code_2 : decode jdk_65_method_133_code 2 = .ok (.invokestatic 343, 3) := by decide +kernel
theorem own_d_jdk_65_method_133_code_5 : decode jdk_65_method_133_code 5 = .ok (.iload_n 2, 1) := by decide +kernel
theorem own_d_jdk_65_method_133_code_6 : decode jdk_65_method_133_code 6 = .ok (.iload_n 1, 1) := by decide +kernel
theorem own_d_jdk_65_method_133_code_7 : decode jdk_65_method_133_code 7 = .ok (.isub, 1) := by decide +kernel
theorem own_d_jdk_65_method_133_code_8 : decode jdk_65_method_133_code 8 = .ok (.istore_n 3, 1) := by decide +kernel
theorem own_d_jdk_65_method_133_code_9 : decode jdk_65_method_133_code 9 = .ok (.iload_n 3, 1) := by decide +kernel
theorem own_d_jdk_65_method_133_code_10 : decode jdk_65_method_133_code 10 = .ok (.newarray .byte, 2) := by decide +kernel
theorem own_d_jdk_65_method_133_code_12 : decode jdk_65_method_133_code 12 = .ok (.astore 4, 2) := by decide +kernel
theorem own_d_jdk_65_method_133_code_14 : decode jdk_65_method_133_code 14 = .ok (.aload_n 0, 1) := by decide +kernel
theorem own_d_jdk_65_method_133_code_15 : decode jdk_65_method_133_code 15 = .ok (.iload_n 1, 1) := by decide +kernel
theorem own_d_jdk_65_method_133_code_16 : decode jdk_65_method_133_code 16 = .ok (.aload 4, 2) := by decide +kernel
theorem own_d_jdk_65_method_133_code_18 : decode jdk_65_method_133_code 18 = .ok (.iconst 0, 1) := by decide +kernel
theorem own_d_jdk_65_method_133_code_19 : decode jdk_65_method_133_code 19 = .ok (.aload_n 0, 1) := by decide +kernel
theorem own_d_jdk_65_method_133_code_20 : decode jdk_65_method_133_code 20 = .ok (.arraylength, 1) := by decide +kernel
theorem own_d_jdk_65_method_133_code_21 : decode jdk_65_method_133_code 21 = .ok (.iload_n 1, 1) := by decide +kernel
theorem own_d_jdk_65_method_133_code_22 : decode jdk_65_method_133_code 22 = .ok (.isub, 1) := by decide +kernel
theorem own_d_jdk_65_method_133_code_23 : decode jdk_65_method_133_code 23 = .ok (.iload_n 3, 1) := by decide +kernel
theorem own_d_jdk_65_method_133_code_24 : decode jdk_65_method_133_code 24 = .ok (.invokestatic 304, 3) := by decide +kernel
theorem own_pd11 : parseMethodDescriptor "(II)I" = some ⟨[.int, .int], some .int⟩ := by decide +kernel
theorem own_d_jdk_65_method_133_code_27 : decode jdk_65_method_133_code 27 = .ok (.invokestatic 150, 3) := by decide +kernel
theorem own_d_jdk_65_method_133_code_30 : decode jdk_65_method_133_code 30 = .ok (.aload 4, 2) := by decide +kernel
theorem own_d_jdk_65_method_133_code_32 : decode jdk_65_method_133_code 32 = .ok (.areturn, 1) := by decide +kernel
theorem own_d_jdk_65_method_132_code_0 : decode jdk_65_method_132_code 0 = .ok (.iload_n 1, 1) := by decide +kernel
theorem own_d_jdk_65_method_132_code_1 : decode jdk_65_method_132_code 1 = .ok (.ifCond .ne 9, 3) := by decide +kernel
theorem own_d_jdk_65_method_132_code_4 : decode jdk_65_method_132_code 4 = .ok (.iload_n 2, 1) := by decide +kernel
theorem own_d_jdk_65_method_132_code_5 : decode jdk_65_method_132_code 5 = .ok (.aload_n 0, 1) := by decide +kernel
theorem own_d_jdk_65_method_132_code_6 : decode jdk_65_method_132_code 6 = .ok (.arraylength, 1) := by decide +kernel
theorem own_d_jdk_65_method_132_code_7 : decode jdk_65_method_132_code 7 = .ok (.if_icmp .eq 10, 3) := by decide +kernel
theorem own_d_jdk_65_method_132_code_10 : decode jdk_65_method_132_code 10 = .ok (.aload_n 0, 1) := by decide +kernel
theorem own_d_jdk_65_method_132_code_11 : decode jdk_65_method_132_code 11 = .ok (.iload_n 1, 1) := by decide +kernel
theorem own_d_jdk_65_method_132_code_12 : decode jdk_65_method_132_code 12 = .ok (.iload_n 2, 1) := by decide +kernel
theorem own_d_jdk_65_method_132_code_13 : decode jdk_65_method_132_code 13 = .ok (.invokestatic 339, 3) := by decide +kernel
theorem own_pd12 : parseMethodDescriptor "([BII)[B" = some ⟨[(.array .byte), .int, .int], some (.array .byte)⟩ := by decide +kernel
theorem own_d_jdk_65_method_132_code_16 : decode jdk_65_method_132_code 16 = .ok (.areturn, 1) := by decide +kernel
theorem own_d_jdk_68_method_64_code_0 : decode jdk_68_method_64_code 0 = .ok (.aload_n 0, 1) := by decide +kernel
theorem own_d_jdk_68_method_64_code_1 : decode jdk_68_method_64_code 1 = .ok (.getfield 15, 3) := by decide +kernel
theorem own_d_jdk_68_method_64_code_4 : decode jdk_68_method_64_code 4 = .ok (.areturn, 1) := by decide +kernel
theorem own_d_jdk_68_method_6_code_0 : decode jdk_68_method_6_code 0 = .ok (.aload_n 0, 1) := by decide +kernel
theorem own_d_jdk_68_method_6_code_1 : decode jdk_68_method_6_code 1 = .ok (.getfield 79, 3) := by decide +kernel
theorem own_d_jdk_68_method_6_code_4 : decode jdk_68_method_6_code 4 = .ok (.ireturn, 1) := by decide +kernel
theorem own_d_jdk_67_method_93_code_0 : decode jdk_67_method_93_code 0 = .ok (.aload_n 0, 1) := by decide +kernel
theorem own_d_jdk_67_method_93_code_1 : decode jdk_67_method_93_code 1 = .ok (.invokespecial 343, 3) := by decide +kernel
theorem own_d_jdk_67_method_93_code_4 : decode jdk_67_method_93_code 4 = .ok (.ireturn, 1) := by decide +kernel
theorem own_d_jdk_42_method_150_code_0 : decode jdk_42_method_150_code 0 = .ok (.aload_n 0, 1) := by decide +kernel
theorem own_d_jdk_42_method_150_code_1 : decode jdk_42_method_150_code 1 = .ok (.invokespecial 1, 3) := by decide +kernel
theorem own_d_jdk_42_method_150_code_4 : decode jdk_42_method_150_code 4 = .ok (.aload_n 1, 1) := by decide +kernel
theorem own_d_jdk_42_method_150_code_5 : decode jdk_42_method_150_code 5 = .ok (.invokevirtual 552, 3) := by decide +kernel
theorem own_pd13 : parseMethodDescriptor "()[B" = some ⟨[], some (.array .byte)⟩ := by decide +kernel
theorem own_d_jdk_42_method_150_code_8 : decode jdk_42_method_150_code 8 = .ok (.astore_n 3, 1) := by decide +kernel
theorem own_d_jdk_42_method_150_code_9 : decode jdk_42_method_150_code 9 = .ok (.aload_n 1, 1) := by decide +kernel
theorem own_d_jdk_42_method_150_code_10 : decode jdk_42_method_150_code 10 = .ok (.invokevirtual 549, 3) := by decide +kernel
theorem own_d_jdk_42_method_150_code_13 : decode jdk_42_method_150_code 13 = .ok (.istore 4, 2) := by decide +kernel
theorem own_d_jdk_42_method_150_code_15 : decode jdk_42_method_150_code 15 = .ok (.aload_n 1, 1) := by decide +kernel
theorem own_d_jdk_42_method_150_code_16 : decode jdk_42_method_150_code 16 = .ok (.invokevirtual 1047, 3) := by decide +kernel
theorem own_d_jdk_42_method_150_code_19 : decode jdk_42_method_150_code 19 = .ok (.ifCond .eq 22, 3) := by decide +kernel
theorem own_d_jdk_42_method_150_code_22 : decode jdk_42_method_150_code 22 = .ok (.aload_n 0, 1) := by decide +kernel
theorem own_d_jdk_42_method_150_code_23 : decode jdk_42_method_150_code 23 = .ok (.iconst 0, 1) := by decide +kernel
theorem own_d_jdk_42_method_150_code_24 : decode jdk_42_method_150_code 24 = .ok (.putfield 15, 3) := by decide +kernel
theorem own_d_jdk_42_method_150_code_27 : decode jdk_42_method_150_code 27 = .ok (.aload_n 0, 1) := by decide +kernel
theorem own_d_jdk_42_method_150_code_28 : decode jdk_42_method_150_code 28 = .ok (.aload_n 3, 1) := by decide +kernel
theorem own_d_jdk_42_method_150_code_29 : decode jdk_42_method_150_code 29 = .ok (.iconst 0, 1) := by decide +kernel
theorem own_d_jdk_42_method_150_code_30 : decode jdk_42_method_150_code 30 = .ok (.iload 4, 2) := by decide +kernel
theorem own_d_jdk_42_method_150_code_32 : decode jdk_42_method_150_code 32 = .ok (.invokestatic 54, 3) := by decide +kernel
theorem own_d_jdk_42_method_150_code_35 : decode jdk_42_method_150_code 35 = .ok (.putfield 9, 3) := by decide +kernel
theorem own_d_jdk_42_method_150_code_38 : decode jdk_42_method_150_code 38 = .ok (.goto 59, 3) := by decide +kernel
theorem own_d_jdk_42_method_150_code_97 : decode jdk_42_method_150_code 97 = .ok (.return_, 1) := by decide +kernel
theorem own_d_jdk_42_method_53_code_0 : decode jdk_42_method_53_code 0 = .ok (.aload_n 0, 1) := by decide +kernel
theorem own_d_jdk_42_method_53_code_1 : decode jdk_42_method_53_code 1 = .ok (.aload_n 1, 1) := by decide +kernel
theorem own_d_jdk_42_method_53_code_2 : decode jdk_42_method_53_code 2 = .ok (.aconst_null, 1) := by decide +kernel
theorem own_d_jdk_42_method_53_code_3 : decode jdk_42_method_53_code 3 = .ok (.invokespecial 489, 3) := by decide +kernel
theorem own_pd14 : parseMethodDescriptor "(Ljava/lang/AbstractStringBuilder;Ljava/lang/Void;)V" = some ⟨[(.object "java/lang/AbstractStringBuilder"), (.object "java/lang/Void")], none⟩ := by decide +kernel
theorem own_d_jdk_42_method_53_code_6 : decode jdk_42_method_53_code 6 = .ok (.return_, 1) := by decide +kernel
theorem own_d_jdk_67_method_42_code_0 : decode jdk_67_method_42_code 0 = .ok (.new 18, 3) := by decide +kernel
theorem own_d_jdk_67_method_42_code_3 : decode jdk_67_method_42_code 3 = .ok (.dup, 1) := by decide +kernel
theorem own_d_jdk_67_method_42_code_4 : decode jdk_67_method_42_code 4 = .ok (.aload_n 0, 1) := by decide +kernel
theorem own_d_jdk_67_method_42_code_5 : decode jdk_67_method_42_code 5 = .ok (.invokespecial 137, 3) := by decide +kernel
theorem own_pd15 : parseMethodDescriptor "(Ljava/lang/StringBuilder;)V" = some ⟨[(.object "java/lang/StringBuilder")], none⟩ := by decide +kernel
theorem own_d_jdk_67_method_42_code_8 : decode jdk_67_method_42_code 8 = .ok (.areturn, 1) := by decide +kernel
theorem own_d_jdk_42_method_151_code_0 : decode jdk_42_method_151_code 0 = .ok (.aload_n 0, 1) := by decide +kernel
theorem own_d_jdk_42_method_151_code_1 : decode jdk_42_method_151_code 1 = .ok (.invokespecial 1, 3) := by decide +kernel
theorem own_d_jdk_42_method_151_code_4 : decode jdk_42_method_151_code 4 = .ok (.aload_n 0, 1) := by decide +kernel
theorem own_d_jdk_42_method_151_code_5 : decode jdk_42_method_151_code 5 = .ok (.aload_n 1, 1) := by decide +kernel
theorem own_d_jdk_42_method_151_code_6 : decode jdk_42_method_151_code 6 = .ok (.putfield 9, 3) := by decide +kernel
theorem own_d_jdk_42_method_151_code_9 : decode jdk_42_method_151_code 9 = .ok (.aload_n 0, 1) := by decide +kernel
theorem own_d_jdk_42_method_151_code_10 : decode jdk_42_method_151_code 10 = .ok (.iload_n 2, 1) := by decide +kernel
theorem own_d_jdk_42_method_151_code_11 : decode jdk_42_method_151_code 11 = .ok (.putfield 15, 3) := by decide +kernel
theorem own_d_jdk_42_method_151_code_14 : decode jdk_42_method_151_code 14 = .ok (.return_, 1) := by decide +kernel
theorem own_d_jdk_35_method_12_code_0 : decode jdk_35_method_12_code 0 = .ok (.lload_n 0, 1) := by decide +kernel
theorem own_d_jdk_35_method_12_code_1 : decode jdk_35_method_12_code 1 = .ok (.invokestatic 118, 3) := by decide +kernel
theorem own_pd16 : parseMethodDescriptor "(J)I" = some ⟨[.long], some .int⟩ := by decide +kernel
theorem own_d_jdk_35_method_12_code_4 : decode jdk_35_method_12_code 4 = .ok (.istore_n 2, 1) := by decide +kernel
theorem own_d_jdk_35_method_12_code_5 : decode jdk_35_method_12_code 5 = .ok (.getstatic 13, 3) := by decide +kernel
theorem own_d_jdk_35_method_12_code_8 : decode jdk_35_method_12_code 8 = .ok (.ifCond .eq 24, 3) := by decide +kernel
theorem own_d_jdk_35_method_12_code_11 : decode jdk_35_method_12_code 11 = .ok (.iload_n 2, 1) := by decide +kernel
theorem own_d_jdk_35_method_12_code_12 : decode jdk_35_method_12_code 12 = .ok (.newarray .byte, 2) := by decide +kernel
theorem own_d_jdk_35_method_12_code_14 : decode jdk_35_method_12_code 14 = .ok (.astore_n 3, 1) := by decide +kernel
theorem own_d_jdk_35_method_12_code_15 : decode jdk_35_method_12_code 15 = .ok (.lload_n 0, 1) := by decide +kernel
theorem own_d_jdk_35_method_12_code_16 : decode jdk_35_method_12_code 16 = .ok (.iload_n 2, 1) := by decide +kernel
theorem own_d_jdk_35_method_12_code_17 : decode jdk_35_method_12_code 17 = .ok (.aload_n 3, 1) := by decide +kernel
theorem own_d_jdk_35_method_12_code_18 : decode jdk_35_method_12_code 18 = .ok (.invokestatic 121, 3) := by decide +kernel
theorem own_pd17 : parseMethodDescriptor "(JI[B)I" = some ⟨[.long, .int, (.array .byte)], some .int⟩ := by decide +kernel
theorem own_d_jdk_35_method_12_code_21 : decode jdk_35_method_12_code 21 = .ok (.pop, 1) := by decide +kernel
theorem own_d_jdk_35_method_12_code_22 : decode jdk_35_method_12_code 22 = .ok (.new 5, 3) := by decide +kernel
theorem own_d_jdk_35_method_12_code_25 : decode jdk_35_method_12_code 25 = .ok (.dup, 1) := by decide +kernel
theorem own_d_jdk_35_method_12_code_26 : decode jdk_35_method_12_code 26 = .ok (.aload_n 3, 1) := by decide +kernel
theorem own_d_jdk_35_method_12_code_27 : decode jdk_35_method_12_code 27 = .ok (.iconst 0, 1) := by decide +kernel
theorem own_d_jdk_35_method_12_code_28 : decode jdk_35_method_12_code 28 = .ok (.invokespecial 112, 3) := by decide +kernel
theorem own_pd18 : parseMethodDescriptor "([BB)V" = some ⟨[(.array .byte), .byte], none⟩ := by decide +kernel
theorem own_d_jdk_35_method_12_code_31 : decode jdk_35_method_12_code 31 = .ok (.areturn, 1) := by decide +kernel
theorem own_d_jdk_42_method_145_code_0 : decode jdk_42_method_145_code 0 = .ok (.iload_n 1, 1) := by decide +kernel
theorem own_d_jdk_42_method_145_code_1 : decode jdk_42_method_145_code 1 = .ok (.ifCond .ge 31, 3) := by decide +kernel
theorem own_d_jdk_42_method_145_code_32 : decode jdk_42_method_145_code 32 = .ok (.iload_n 1, 1) := by decide +kernel
theorem own_d_jdk_42_method_145_code_33 : decode jdk_42_method_145_code 33 = .ok (.iconst 1, 1) := by decide +kernel
theorem own_d_jdk_42_method_145_code_34 : decode jdk_42_method_145_code 34 = .ok (.if_icmp .ne 5, 3) := by decide +kernel
theorem own_d_jdk_42_method_145_code_37 : decode jdk_42_method_145_code 37 = .ok (.aload_n 0, 1) := by decide +kernel
theorem own_d_jdk_42_method_145_code_38 : decode jdk_42_method_145_code 38 = .ok (.areturn, 1) := by decide +kernel
theorem own_d_jdk_42_method_145_code_39 : decode jdk_42_method_145_code 39 = .ok (.aload_n 0, 1) := by decide +kernel
theorem own_d_jdk_42_method_145_code_40 : decode jdk_42_method_145_code 40 = .ok (.getfield 9, 3) := by decide +kernel
theorem own_d_jdk_42_method_145_code_43 : decode jdk_42_method_145_code 43 = .ok (.arraylength, 1) := by decide +kernel
theorem own_d_jdk_42_method_145_code_44 : decode jdk_42_method_145_code 44 = .ok (.istore_n 2, 1) := by decide +kernel
theorem own_d_jdk_42_method_145_code_45 : decode jdk_42_method_145_code 45 = .ok (.iload_n 2, 1) := by decide +kernel
theorem own_d_jdk_42_method_145_code_46 : decode jdk_42_method_145_code 46 = .ok (.ifCond .eq 7, 3) := by decide +kernel
theorem own_d_jdk_42_method_145_code_49 : decode jdk_42_method_145_code 49 = .ok (.iload_n 1, 1) := by decide +kernel
theorem own_d_jdk_42_method_145_code_50 : decode jdk_42_method_145_code 50 = .ok (.ifCond .ne 6, 3) := by decide +kernel
theorem own_d_jdk_42_method_145_code_53 : decode jdk_42_method_145_code 53 = .ok (.ldc 7, 2) := by decide +kernel
theorem own_in_sa : ∀ d ∈ Bundle.stringAtoms, d ∈ tables_1 := by decide +kernel
theorem own_d_jdk_42_method_145_code_55 : decode jdk_42_method_145_code 55 = .ok (.areturn, 1) := by decide +kernel
theorem own_d_jdk_42_method_145_code_56 : decode jdk_42_method_145_code 56 = .ok (.ldc_w 943, 3) := by decide +kernel
theorem own_d_jdk_42_method_145_code_59 : decode jdk_42_method_145_code 59 = .ok (.iload_n 1, 1) := by decide +kernel
theorem own_d_jdk_42_method_145_code_60 : decode jdk_42_method_145_code 60 = .ok (.idiv, 1) := by decide +kernel
theorem own_d_jdk_42_method_145_code_61 : decode jdk_42_method_145_code 61 = .ok (.iload_n 2, 1) := by decide +kernel
theorem own_d_jdk_42_method_145_code_62 : decode jdk_42_method_145_code 62 = .ok (.if_icmp .ge 14, 3) := by decide +kernel
theorem own_d_jdk_42_method_145_code_76 : decode jdk_42_method_145_code 76 = .ok (.iload_n 2, 1) := by decide +kernel
theorem own_d_jdk_42_method_145_code_77 : decode jdk_42_method_145_code 77 = .ok (.iconst 1, 1) := by decide +kernel
theorem own_d_jdk_42_method_145_code_78 : decode jdk_42_method_145_code 78 = .ok (.if_icmp .ne 30, 3) := by decide +kernel
theorem own_d_jdk_42_method_145_code_81 : decode jdk_42_method_145_code 81 = .ok (.iload_n 1, 1) := by decide +kernel
theorem own_d_jdk_42_method_145_code_82 : decode jdk_42_method_145_code 82 = .ok (.newarray .byte, 2) := by decide +kernel
theorem own_d_jdk_42_method_145_code_84 : decode jdk_42_method_145_code 84 = .ok (.astore_n 3, 1) := by decide +kernel
theorem own_d_jdk_42_method_145_code_85 : decode jdk_42_method_145_code 85 = .ok (.aload_n 3, 1) := by decide +kernel
theorem own_d_jdk_42_method_145_code_86 : decode jdk_42_method_145_code 86 = .ok (.aload_n 0, 1) := by decide +kernel
theorem own_d_jdk_42_method_145_code_87 : decode jdk_42_method_145_code 87 = .ok (.getfield 9, 3) := by decide +kernel
theorem own_d_jdk_42_method_145_code_90 : decode jdk_42_method_145_code 90 = .ok (.iconst 0, 1) := by decide +kernel
theorem own_d_jdk_42_method_145_code_91 : decode jdk_42_method_145_code 91 = .ok (.baload, 1) := by decide +kernel
theorem own_d_jdk_42_method_145_code_92 : decode jdk_42_method_145_code 92 = .ok (.invokestatic 1041, 3) := by decide +kernel
theorem own_d_jdk_42_method_145_code_95 : decode jdk_42_method_145_code 95 = .ok (.new 10, 3) := by decide +kernel
theorem own_d_jdk_42_method_145_code_98 : decode jdk_42_method_145_code 98 = .ok (.dup, 1) := by decide +kernel
theorem own_d_jdk_42_method_145_code_99 : decode jdk_42_method_145_code 99 = .ok (.aload_n 3, 1) := by decide +kernel
theorem own_d_jdk_42_method_145_code_100 : decode jdk_42_method_145_code 100 = .ok (.aload_n 0, 1) := by decide +kernel
theorem own_d_jdk_42_method_145_code_101 : decode jdk_42_method_145_code 101 = .ok (.getfield 15, 3) := by decide +kernel
theorem own_d_jdk_42_method_145_code_104 : decode jdk_42_method_145_code 104 = .ok (.invokespecial 209, 3) := by decide +kernel
theorem own_d_jdk_42_method_145_code_107 : decode jdk_42_method_145_code 107 = .ok (.areturn, 1) := by decide +kernel
theorem own_d_prog_10_method_5_code_0 : decode prog_10_method_5_code 0 = .ok (.lload_n 0, 1) := by decide +kernel
theorem own_d_prog_10_method_5_code_1 : decode prog_10_method_5_code 1 = .ok (.invokestatic 94, 3) := by decide +kernel
theorem own_pd19 : parseMethodDescriptor "(J)Ljava/lang/String;" = some ⟨[.long], some (.object "java/lang/String")⟩ := by decide +kernel
theorem own_d_prog_10_method_5_code_4 : decode prog_10_method_5_code 4 = .ok (.astore_n 3, 1) := by decide +kernel
theorem own_d_prog_10_method_5_code_5 : decode prog_10_method_5_code 5 = .ok (.new 78, 3) := by decide +kernel
theorem own_d_prog_10_method_5_code_8 : decode prog_10_method_5_code 8 = .ok (.dup, 1) := by decide +kernel
theorem own_d_prog_10_method_5_code_9 : decode prog_10_method_5_code 9 = .ok (.invokespecial 80, 3) := by decide +kernel
theorem own_pd20 : parseMethodDescriptor "()V" = some ⟨[], none⟩ := by decide +kernel
theorem own_d_prog_10_method_5_code_12 : decode prog_10_method_5_code 12 = .ok (.ldc 97, 2) := by decide +kernel
theorem own_d_prog_10_method_5_code_14 : decode prog_10_method_5_code 14 = .ok (.iconst 0, 1) := by decide +kernel
theorem own_d_prog_10_method_5_code_15 : decode prog_10_method_5_code 15 = .ok (.iload_n 2, 1) := by decide +kernel
theorem own_d_prog_10_method_5_code_16 : decode prog_10_method_5_code 16 = .ok (.aload_n 3, 1) := by decide +kernel
theorem own_d_prog_10_method_5_code_17 : decode prog_10_method_5_code 17 = .ok (.invokevirtual 99, 3) := by decide +kernel
theorem own_d_prog_10_method_5_code_20 : decode prog_10_method_5_code 20 = .ok (.isub, 1) := by decide +kernel
theorem own_d_prog_10_method_5_code_21 : decode prog_10_method_5_code 21 = .ok (.invokestatic 103, 3) := by decide +kernel
theorem own_pd21 : parseMethodDescriptor "(I)Ljava/lang/String;" = some ⟨[.int], some (.object "java/lang/String")⟩ := by decide +kernel
theorem own_d_prog_10_method_5_code_24 : decode prog_10_method_5_code 24 = .ok (.invokevirtual 109, 3) := by decide +kernel
theorem own_pd22 : parseMethodDescriptor "(Ljava/lang/String;)Ljava/lang/StringBuilder;" = some ⟨[(.object "java/lang/String")], some (.object "java/lang/StringBuilder")⟩ := by decide +kernel
theorem own_d_prog_10_method_5_code_27 : decode prog_10_method_5_code 27 = .ok (.invokevirtual 83, 3) := by decide +kernel
theorem own_d_prog_10_method_5_code_30 : decode prog_10_method_5_code 30 = .ok (.aload_n 3, 1) := by decide +kernel
theorem own_d_prog_10_method_5_code_31 : decode prog_10_method_5_code 31 = .ok (.invokevirtual 83, 3) := by decide +kernel
theorem own_d_prog_10_method_5_code_34 : decode prog_10_method_5_code 34 = .ok (.invokevirtual 91, 3) := by decide +kernel
theorem own_pd23 : parseMethodDescriptor "()Ljava/lang/String;" = some ⟨[], some (.object "java/lang/String")⟩ := by decide +kernel
theorem own_d_prog_10_method_5_code_37 : decode prog_10_method_5_code 37 = .ok (.areturn, 1) := by decide +kernel
theorem own_d_method_3_code_0 : decode method_3_code 0 = .ok (.lload_n 2, 1) := by decide +kernel
theorem own_d_method_3_code_1 : decode method_3_code 1 = .ok (.lload 4, 2) := by decide +kernel
theorem own_d_method_3_code_3 : decode method_3_code 3 = .ok (.ldiv, 1) := by decide +kernel
theorem own_d_method_3_code_4 : decode method_3_code 4 = .ok (.ldc2_w 58, 3) := by decide +kernel
theorem own_d_method_3_code_7 : decode method_3_code 7 = .ok (.lrem, 1) := by decide +kernel
theorem own_d_method_3_code_8 : decode method_3_code 8 = .ok (.l2i, 1) := by decide +kernel
theorem own_d_method_3_code_9 : decode method_3_code 9 = .ok (.istore 6, 2) := by decide +kernel
theorem own_d_method_3_code_11 : decode method_3_code 11 = .ok (.aload_n 0, 1) := by decide +kernel
theorem own_d_method_3_code_12 : decode method_3_code 12 = .ok (.iload_n 1, 1) := by decide +kernel
theorem own_d_method_3_code_13 : decode method_3_code 13 = .ok (.invokevirtual 32, 3) := by decide +kernel
theorem own_pd24 : parseMethodDescriptor "(I)C" = some ⟨[.int], some .char⟩ := by decide +kernel
theorem own_d_method_3_code_16 : decode method_3_code 16 = .ok (.bipush 48, 2) := by decide +kernel
theorem own_d_method_3_code_18 : decode method_3_code 18 = .ok (.iload 6, 2) := by decide +kernel
theorem own_d_method_3_code_20 : decode method_3_code 20 = .ok (.iadd, 1) := by decide +kernel
theorem own_d_method_3_code_21 : decode method_3_code 21 = .ok (.if_icmp .ne 7, 3) := by decide +kernel
theorem own_d_method_3_code_24 : decode method_3_code 24 = .ok (.iconst 1, 1) := by decide +kernel
theorem own_d_method_3_code_25 : decode method_3_code 25 = .ok (.goto 4, 3) := by decide +kernel
theorem own_d_method_3_code_29 : decode method_3_code 29 = .ok (.ireturn, 1) := by decide +kernel
theorem own_d_prog_10_method_4_code_0 : decode prog_10_method_4_code 0 = .ok (.lload_n 1, 1) := by decide +kernel
theorem own_d_prog_10_method_4_code_1 : decode prog_10_method_4_code 1 = .ok (.lconst 0, 1) := by decide +kernel
theorem own_d_prog_10_method_4_code_2 : decode prog_10_method_4_code 2 = .ok (.lcmp, 1) := by decide +kernel
theorem own_d_prog_10_method_4_code_3 : decode prog_10_method_4_code 3 = .ok (.ifCond .lt 11, 3) := by decide +kernel
theorem own_d_prog_10_method_4_code_6 : decode prog_10_method_4_code 6 = .ok (.lload_n 1, 1) := by decide +kernel
theorem own_d_prog_10_method_4_code_7 : decode prog_10_method_4_code 7 = .ok (.ldc2_w 50, 3) := by decide +kernel
theorem own_d_prog_10_method_4_code_10 : decode prog_10_method_4_code 10 = .ok (.lcmp, 1) := by decide +kernel
theorem own_d_prog_10_method_4_code_11 : decode prog_10_method_4_code 11 = .ok (.ifCond .le 37, 3) := by decide +kernel
theorem own_d_prog_10_method_4_code_48 : decode prog_10_method_4_code 48 = .ok (.new 78, 3) := by decide +kernel
theorem own_d_prog_10_method_4_code_51 : decode prog_10_method_4_code 51 = .ok (.dup, 1) := by decide +kernel
theorem own_d_prog_10_method_4_code_52 : decode prog_10_method_4_code 52 = .ok (.invokespecial 80, 3) := by decide +kernel
theorem own_d_prog_10_method_4_code_55 : decode prog_10_method_4_code 55 = .ok (.aload_n 0, 1) := by decide +kernel
theorem own_d_prog_10_method_4_code_56 : decode prog_10_method_4_code 56 = .ok (.getfield 29, 3) := by decide +kernel
theorem own_d_prog_10_method_4_code_59 : decode prog_10_method_4_code 59 = .ok (.invokevirtual 83, 3) := by decide +kernel
theorem own_d_prog_10_method_4_code_62 : decode prog_10_method_4_code 62 = .ok (.lload_n 1, 1) := by decide +kernel
theorem own_d_prog_10_method_4_code_63 : decode prog_10_method_4_code 63 = .ok (.bipush 10, 2) := by decide +kernel
theorem own_d_prog_10_method_4_code_65 : decode prog_10_method_4_code 65 = .ok (.invokestatic 87, 3) := by decide +kernel
theorem own_pd25 : parseMethodDescriptor "(JI)Ljava/lang/String;" = some ⟨[.long, .int], some (.object "java/lang/String")⟩ := by decide +kernel
theorem own_d_prog_10_method_4_code_68 : decode prog_10_method_4_code 68 = .ok (.invokevirtual 83, 3) := by decide +kernel
theorem own_d_prog_10_method_4_code_71 : decode prog_10_method_4_code 71 = .ok (.invokevirtual 91, 3) := by decide +kernel
theorem own_d_prog_10_method_4_code_74 : decode prog_10_method_4_code 74 = .ok (.areturn, 1) := by decide +kernel
theorem own_pd26 : parseMethodDescriptor "(Ljava/lang/String;IJJ)Z" = some ⟨[(.object "java/lang/String"), .int, .long, .long], some .boolean⟩ := by decide +kernel
theorem own_ef_own_maxN (m : MethodId) (x : Nat) (y : Nat) : entryFrame m #[(.int (Int32.ofNat x)), (.int (Int32.ofNat y))] 2 = mkF m 0 #[.val (.int (Int32.ofNat x)), .val (.int (Int32.ofNat y))] [] := by first | (simp [entryFrame, mkF, argsToLocals, own_cI, own_cJ, own_cR, own_cN]; done) | rfl
abbrev own_F_own_maxN (m : MethodId) (x : Nat) (y : Nat) : JFrame := entryFrame m #[(.int (Int32.ofNat x)), (.int (Int32.ofNat y))] 2
def Q_own_maxN (Z : State) (x : Nat) (y : Nat) (h0 : Heap) (n0 : Nat) (v : Option Value) (h : Heap) (L : List Loc) : Prop := v = some (.int (Int32.ofNat (max x y))) ∧ Fr n0 L ∧ h = h0
set_option maxRecDepth 65536 in
set_option maxHeartbeats 40000000 in
theorem own_maxN (l : Launch) (Z : State) (a0 : Array Value) (hw : ∀ d ∈ tables_1, d.before a0 Z = true) (ws : List Jvm.Cond) (x : Nat) (y : Nat) (h0 : Heap) (n0 : Nat) (O0 : Old Z n0 h0) (hxs : x ≤ 1000000) (hys : y ≤ 1000000) :
    MetFree l (⟨"java/lang/Math", "max", "(II)I"⟩ : MethodName) (head1 (Jvm.Cond.code (⟨"java/lang/Math", "max", "(II)I"⟩ : MethodName) jdk_29_method_65_code 2 (some .int) :: ws) ({ frames := 0, cells := 0, slots := 0, locals := 0 } : Room)) (fun aa_ U_ => aa_ = #[(.int (Int32.ofNat x)), (.int (Int32.ofNat y))] ∧ Z.Warmed39 U_.vm ∧ U_.heap = h0) (fun _ _ _ _ _ => True) (fun _ U_ o_ V_ => ∃ v_ L_, o_ = .returned v_ ∧ Q_own_maxN Z x y h0 n0 v_ V_.heap L_ ∧ FrameEnd U_ o_ V_ L_ ({ frames := 0, cells := 0, slots := 0, locals := 0 } : Room).cells ({ frames := 0, cells := 0, slots := 0, locals := 0 } : Room).slots) := by
  refine MetFree.of_bodySF (Jvm.Free.JP.mathPlain rfl (by decide +kernel)) hisR ?_
  intro p e s m args below meth c s₁ Bd hml0 hP hK
  obtain ⟨rfl, hZ, hh⟩ := hP
  have hx := Bd.exec
  have hby := Bd.bytes
  have hml : c.maxLocals = 2 := hml0
  have hown : s.vm.findClass "java/lang/Math" = some m.cls := findClass_of_methodNamed Bd.named
  have hnm := (name_of_methodNamed Bd.named Bd.method).1
  have X0 : Stand p l e ({ frames := 0, cells := 0, slots := 0, locals := 0 } : Room) s m #[(.int (Int32.ofNat x)), (.int (Int32.ofNat y))] below meth c s₁ [] 0 0 := Stand.of_body Bd
  have e0 : s₁.heap = h0 := by rw [← hh, Bd.state]; rfl
  have N0 := Fr.nil n0
  have K0 : Keep h0 h0 [] := Keep.refl _ _
  have r0 : GoTo p.tables e below s₁ (own_F_own_maxN m x y) s₁ (mkF m 0 #[.val (.int (Int32.ofNat x)), .val (.int (Int32.ofNat y))] []) := fun tt_ kk_ => castTop (own_ef_own_maxN m x y) kk_
  have r1 : GoTo p.tables e below s₁ (own_F_own_maxN m x y) s₁ (mkF m 2 #[.val (.int (Int32.ofNat x)), .val (.int (Int32.ofNat y))] [(.int (Int32.ofNat y)), (.int (Int32.ofNat x))]) := fun tt_ kk_ => r0 tt_ (by
      show Steps p.tables e below (s₁.setTop (mkF m 0 #[.val (.int (Int32.ofNat x)), .val (.int (Int32.ofNat y))] [])) _
      refine XS.iloadN X0.here hx rfl (hb hby own_d_jdk_29_method_65_code_0) rfl ?_
      show Steps p.tables e below (s₁.setTop (mkF m 1 #[.val (.int (Int32.ofNat x)), .val (.int (Int32.ofNat y))] [(.int (Int32.ofNat x))])) _
      refine XS.iloadN X0.here hx rfl (hb hby own_d_jdk_29_method_65_code_1) rfl ?_
      show Steps p.tables e below (s₁.setTop (mkF m 2 #[.val (.int (Int32.ofNat x)), .val (.int (Int32.ofNat y))] [(.int (Int32.ofNat y)), (.int (Int32.ofNat x))])) _
      exact kk_)
  by_cases hc2 : (Int32.ofNat x) < (Int32.ofNat y)
  · obtain ⟨fs, hr, hrun, hended, hW, hsame⟩ := X0.leave (v := some (.int (Int32.ofNat y))) (fun h => by rw [Bd.returns] at h; cases h)
    refine ⟨_, _, r1 _ ?_, hrun, hended, _, _, rfl, ?_, ⟨_, rfl⟩, hW, hsame.mono (by decide) (by decide)⟩
    · show Steps p.tables e below (s₁.setTop (mkF m 2 #[.val (.int (Int32.ofNat x)), .val (.int (Int32.ofNat y))] [(.int (Int32.ofNat y)), (.int (Int32.ofNat x))])) _
      refine XS.icmpYes X0.here hx rfl (pc0 := 2) (pc' := 9) rfl (hb hby own_d_jdk_29_method_65_code_2) rfl (tlt hc2).1 (by decide) (by decide) ?_
      show Steps p.tables e below (s₁.setTop (mkF m 9 #[.val (.int (Int32.ofNat x)), .val (.int (Int32.ofNat y))] [])) _
      refine XS.iloadN X0.here hx rfl (hb hby own_d_jdk_29_method_65_code_9) rfl ?_
      show Steps p.tables e below (s₁.setTop (mkF m 10 #[.val (.int (Int32.ofNat x)), .val (.int (Int32.ofNat y))] [(.int (Int32.ofNat y))])) _
      exact retI X0 hx Bd.returns (hb hby own_d_jdk_29_method_65_code_10) hr
    · show Q_own_maxN Z x y h0 n0 _ s₁.heap _
      rw [e0]
      exact ⟨(own_maxT ((own_ltN hxs hys).mp hc2)), N0, rfl⟩
  · obtain ⟨fs, hr, hrun, hended, hW, hsame⟩ := X0.leave (v := some (.int (Int32.ofNat x))) (fun h => by rw [Bd.returns] at h; cases h)
    refine ⟨_, _, r1 _ ?_, hrun, hended, _, _, rfl, ?_, ⟨_, rfl⟩, hW, hsame.mono (by decide) (by decide)⟩
    · show Steps p.tables e below (s₁.setTop (mkF m 2 #[.val (.int (Int32.ofNat x)), .val (.int (Int32.ofNat y))] [(.int (Int32.ofNat y)), (.int (Int32.ofNat x))])) _
      refine XS.icmpNo X0.here hx rfl (hb hby own_d_jdk_29_method_65_code_2) rfl (flt hc2).1 ?_
      show Steps p.tables e below (s₁.setTop (mkF m 5 #[.val (.int (Int32.ofNat x)), .val (.int (Int32.ofNat y))] [])) _
      refine XS.iloadN X0.here hx rfl (hb hby own_d_jdk_29_method_65_code_5) rfl ?_
      show Steps p.tables e below (s₁.setTop (mkF m 6 #[.val (.int (Int32.ofNat x)), .val (.int (Int32.ofNat y))] [(.int (Int32.ofNat x))])) _
      refine XS.goto X0.here hx rfl (pc0 := 6) (pc' := 10) rfl (hb hby own_d_jdk_29_method_65_code_6) (by decide) (by decide) ?_
      show Steps p.tables e below (s₁.setTop (mkF m 10 #[.val (.int (Int32.ofNat x)), .val (.int (Int32.ofNat y))] [(.int (Int32.ofNat x))])) _
      exact retI X0 hx Bd.returns (hb hby own_d_jdk_29_method_65_code_10) hr
    · show Q_own_maxN Z x y h0 n0 _ s₁.heap _
      rw [e0]
      exact ⟨(own_maxF (fun z => hc2 ((own_ltN hxs hys).mpr z))), N0, rfl⟩
theorem own_ef_own_minN (m : MethodId) (x : Nat) (y : Nat) : entryFrame m #[(.int (Int32.ofNat x)), (.int (Int32.ofNat y))] 2 = mkF m 0 #[.val (.int (Int32.ofNat x)), .val (.int (Int32.ofNat y))] [] := by first | (simp [entryFrame, mkF, argsToLocals, own_cI, own_cJ, own_cR, own_cN]; done) | rfl
abbrev own_F_own_minN (m : MethodId) (x : Nat) (y : Nat) : JFrame := entryFrame m #[(.int (Int32.ofNat x)), (.int (Int32.ofNat y))] 2
def Q_own_minN (Z : State) (x : Nat) (y : Nat) (h0 : Heap) (n0 : Nat) (v : Option Value) (h : Heap) (L : List Loc) : Prop := v = some (.int (Int32.ofNat (min x y))) ∧ Fr n0 L ∧ h = h0
set_option maxRecDepth 65536 in
set_option maxHeartbeats 40000000 in
theorem own_minN (l : Launch) (Z : State) (a0 : Array Value) (hw : ∀ d ∈ tables_1, d.before a0 Z = true) (ws : List Jvm.Cond) (x : Nat) (y : Nat) (h0 : Heap) (n0 : Nat) (O0 : Old Z n0 h0) (hxs : x ≤ 1000000) (hys : y ≤ 1000000) :
    MetFree l (⟨"java/lang/Math", "min", "(II)I"⟩ : MethodName) (head1 (Jvm.Cond.code (⟨"java/lang/Math", "min", "(II)I"⟩ : MethodName) jdk_29_method_69_code 2 (some .int) :: ws) ({ frames := 0, cells := 0, slots := 0, locals := 0 } : Room)) (fun aa_ U_ => aa_ = #[(.int (Int32.ofNat x)), (.int (Int32.ofNat y))] ∧ Z.Warmed39 U_.vm ∧ U_.heap = h0) (fun _ _ _ _ _ => True) (fun _ U_ o_ V_ => ∃ v_ L_, o_ = .returned v_ ∧ Q_own_minN Z x y h0 n0 v_ V_.heap L_ ∧ FrameEnd U_ o_ V_ L_ ({ frames := 0, cells := 0, slots := 0, locals := 0 } : Room).cells ({ frames := 0, cells := 0, slots := 0, locals := 0 } : Room).slots) := by
  refine MetFree.of_bodySF (Jvm.Free.JP.mathPlain rfl (by decide +kernel)) hisR ?_
  intro p e s m args below meth c s₁ Bd hml0 hP hK
  obtain ⟨rfl, hZ, hh⟩ := hP
  have hx := Bd.exec
  have hby := Bd.bytes
  have hml : c.maxLocals = 2 := hml0
  have hown : s.vm.findClass "java/lang/Math" = some m.cls := findClass_of_methodNamed Bd.named
  have hnm := (name_of_methodNamed Bd.named Bd.method).1
  have X0 : Stand p l e ({ frames := 0, cells := 0, slots := 0, locals := 0 } : Room) s m #[(.int (Int32.ofNat x)), (.int (Int32.ofNat y))] below meth c s₁ [] 0 0 := Stand.of_body Bd
  have e0 : s₁.heap = h0 := by rw [← hh, Bd.state]; rfl
  have N0 := Fr.nil n0
  have K0 : Keep h0 h0 [] := Keep.refl _ _
  have r0 : GoTo p.tables e below s₁ (own_F_own_minN m x y) s₁ (mkF m 0 #[.val (.int (Int32.ofNat x)), .val (.int (Int32.ofNat y))] []) := fun tt_ kk_ => castTop (own_ef_own_minN m x y) kk_
  have r1 : GoTo p.tables e below s₁ (own_F_own_minN m x y) s₁ (mkF m 2 #[.val (.int (Int32.ofNat x)), .val (.int (Int32.ofNat y))] [(.int (Int32.ofNat y)), (.int (Int32.ofNat x))]) := fun tt_ kk_ => r0 tt_ (by
      show Steps p.tables e below (s₁.setTop (mkF m 0 #[.val (.int (Int32.ofNat x)), .val (.int (Int32.ofNat y))] [])) _
      refine XS.iloadN X0.here hx rfl (hb hby own_d_jdk_29_method_69_code_0) rfl ?_
      show Steps p.tables e below (s₁.setTop (mkF m 1 #[.val (.int (Int32.ofNat x)), .val (.int (Int32.ofNat y))] [(.int (Int32.ofNat x))])) _
      refine XS.iloadN X0.here hx rfl (hb hby own_d_jdk_29_method_69_code_1) rfl ?_
      show Steps p.tables e below (s₁.setTop (mkF m 2 #[.val (.int (Int32.ofNat x)), .val (.int (Int32.ofNat y))] [(.int (Int32.ofNat y)), (.int (Int32.ofNat x))])) _
      exact kk_)
  by_cases hc2 : (Int32.ofNat y) < (Int32.ofNat x)
  · obtain ⟨fs, hr, hrun, hended, hW, hsame⟩ := X0.leave (v := some (.int (Int32.ofNat y))) (fun h => by rw [Bd.returns] at h; cases h)
    refine ⟨_, _, r1 _ ?_, hrun, hended, _, _, rfl, ?_, ⟨_, rfl⟩, hW, hsame.mono (by decide) (by decide)⟩
    · show Steps p.tables e below (s₁.setTop (mkF m 2 #[.val (.int (Int32.ofNat x)), .val (.int (Int32.ofNat y))] [(.int (Int32.ofNat y)), (.int (Int32.ofNat x))])) _
      refine XS.icmpYes X0.here hx rfl (pc0 := 2) (pc' := 9) rfl (hb hby own_d_jdk_29_method_69_code_2) rfl (tlt hc2).2.2.1 (by decide) (by decide) ?_
      show Steps p.tables e below (s₁.setTop (mkF m 9 #[.val (.int (Int32.ofNat x)), .val (.int (Int32.ofNat y))] [])) _
      refine XS.iloadN X0.here hx rfl (hb hby own_d_jdk_29_method_69_code_9) rfl ?_
      show Steps p.tables e below (s₁.setTop (mkF m 10 #[.val (.int (Int32.ofNat x)), .val (.int (Int32.ofNat y))] [(.int (Int32.ofNat y))])) _
      exact retI X0 hx Bd.returns (hb hby own_d_jdk_29_method_69_code_10) hr
    · show Q_own_minN Z x y h0 n0 _ s₁.heap _
      rw [e0]
      exact ⟨(own_minT ((own_ltN hys hxs).mp hc2)), N0, rfl⟩
  · obtain ⟨fs, hr, hrun, hended, hW, hsame⟩ := X0.leave (v := some (.int (Int32.ofNat x))) (fun h => by rw [Bd.returns] at h; cases h)
    refine ⟨_, _, r1 _ ?_, hrun, hended, _, _, rfl, ?_, ⟨_, rfl⟩, hW, hsame.mono (by decide) (by decide)⟩
    · show Steps p.tables e below (s₁.setTop (mkF m 2 #[.val (.int (Int32.ofNat x)), .val (.int (Int32.ofNat y))] [(.int (Int32.ofNat y)), (.int (Int32.ofNat x))])) _
      refine XS.icmpNo X0.here hx rfl (hb hby own_d_jdk_29_method_69_code_2) rfl (flt hc2).2.2.1 ?_
      show Steps p.tables e below (s₁.setTop (mkF m 5 #[.val (.int (Int32.ofNat x)), .val (.int (Int32.ofNat y))] [])) _
      refine XS.iloadN X0.here hx rfl (hb hby own_d_jdk_29_method_69_code_5) rfl ?_
      show Steps p.tables e below (s₁.setTop (mkF m 6 #[.val (.int (Int32.ofNat x)), .val (.int (Int32.ofNat y))] [(.int (Int32.ofNat x))])) _
      refine XS.goto X0.here hx rfl (pc0 := 6) (pc' := 10) rfl (hb hby own_d_jdk_29_method_69_code_6) (by decide) (by decide) ?_
      show Steps p.tables e below (s₁.setTop (mkF m 10 #[.val (.int (Int32.ofNat x)), .val (.int (Int32.ofNat y))] [(.int (Int32.ofNat x))])) _
      exact retI X0 hx Bd.returns (hb hby own_d_jdk_29_method_69_code_10) hr
    · show Q_own_minN Z x y h0 n0 _ s₁.heap _
      rw [e0]
      exact ⟨(own_minF (fun z => hc2 ((own_ltN hys hxs).mpr z))), N0, rfl⟩
theorem own_pn_own_asbinit : plainName "java/lang/AbstractStringBuilder" = true := by first | (simp [plainName, overriddenIn]; done) | decide +kernel
theorem own_ef_own_asbinit (m : MethodId) (b : Addr) : entryFrame m #[(.ref b), (.int (16 : Int32))] 2 = mkF m 0 #[.val (.ref b), .val (.int (16 : Int32))] [] := by first | (simp [entryFrame, mkF, argsToLocals, own_cI, own_cJ, own_cR, own_cN]; done) | rfl
abbrev own_F_own_asbinit (m : MethodId) (b : Addr) : JFrame := entryFrame m #[(.ref b), (.int (16 : Int32))] 2
def Q_own_asbinit (Z : State) (b : Addr) (gCS : Int32) (h0 : Heap) (n0 : Nat) (v : Option Value) (h : Heap) (L : List Loc) : Prop := ∃ (d : Addr), ∃ (kd : ClassId), v = none ∧ Fr n0 L ∧ Keep h0 h [b] ∧ (h0.size ≤ d) ∧ (n0 ≤ d) ∧ (own_SB Z h b d kd 16 ([] : List Int32))
set_option maxRecDepth 65536 in
set_option maxHeartbeats 40000000 in
theorem own_asbinit (l : Launch) (Z : State) (a0 : Array Value) (hw : ∀ d ∈ tables_1, d.before a0 Z = true) (ws : List Jvm.Cond) (b : Addr) (gCS : Int32) (h0 : Heap) (n0 : Nat) (O0 : Old Z n0 h0) (hp0 : Exa Z h0 b "java/lang/StringBuilder") (hp1 : n0 ≤ b) (hp2 : Fld Z h0 b "java/lang/AbstractStringBuilder" "value" "[B" .null) (hp3 : Fld Z h0 b "java/lang/AbstractStringBuilder" "coder" "B" (.int (0 : Int32))) (hp4 : Fld Z h0 b "java/lang/AbstractStringBuilder" "count" "I" (.int (0 : Int32))) (hp5 : Sta Z Z.heap "java/lang/String" "COMPACT_STRINGS" "Z" (.int gCS)) (hG1 : ¬ gCS = (0 : Int32)) :
    MetFree l (⟨"java/lang/AbstractStringBuilder", "<init>", "(I)V"⟩ : MethodName) (head1 (Jvm.Cond.code (⟨"java/lang/AbstractStringBuilder", "<init>", "(I)V"⟩ : MethodName) jdk_68_method_2_code 2 none :: ws) ({ frames := 1, cells := 1, slots := 16, locals := 12 } : Room)) (fun aa_ U_ => aa_ = #[(.ref b), (.int (16 : Int32))] ∧ Z.Warmed39 U_.vm ∧ U_.heap = h0) (fun _ _ _ _ _ => True) (fun _ U_ o_ V_ => ∃ v_ L_, o_ = .returned v_ ∧ Q_own_asbinit Z b gCS h0 n0 v_ V_.heap L_ ∧ FrameEnd U_ o_ V_ L_ ({ frames := 1, cells := 1, slots := 16, locals := 12 } : Room).cells ({ frames := 1, cells := 1, slots := 16, locals := 12 } : Room).slots) := by
  refine MetFree.of_bodySF (plainFor_of_name own_pn_own_asbinit) hisR ?_
  intro p e s m args below meth c s₁ Bd hml0 hP hK
  obtain ⟨rfl, hZ, hh⟩ := hP
  have hx := Bd.exec
  have hby := Bd.bytes
  have hml : c.maxLocals = 2 := hml0
  have hown : s.vm.findClass "java/lang/AbstractStringBuilder" = some m.cls := findClass_of_methodNamed Bd.named
  have hnm := (name_of_methodNamed Bd.named Bd.method).1
  have X0 : Stand p l e ({ frames := 1, cells := 1, slots := 16, locals := 12 } : Room) s m #[(.ref b), (.int (16 : Int32))] below meth c s₁ [] 0 0 := Stand.of_body Bd
  have e0 : s₁.heap = h0 := by rw [← hh, Bd.state]; rfl
  have N0 := Fr.nil n0
  have K0 : Keep h0 h0 [b] := Keep.refl _ _
  have r0 : GoTo p.tables e below s₁ (own_F_own_asbinit m b) s₁ (mkF m 0 #[.val (.ref b), .val (.int (16 : Int32))] []) := fun tt_ kk_ => castTop (own_ef_own_asbinit m b) kk_
  obtain ⟨T1, X1, e1, st1⟩ := initO X0 hx hZ hown (hw _ (List.mem_of_getElem? (i := 23) rfl)) (hw _ (List.mem_of_getElem? (i := 24) rfl)) (hw _ (List.mem_of_getElem? (i := 25) rfl)) e0 (g := (mkF m 1 #[.val (.ref b), .val (.int (16 : Int32))] [(.ref b)])) rfl (by rw [hml]; rfl) rfl (hb hby own_d_jdk_68_method_2_code_1) (by decide) (W := 0) (by show 2 * 0 + _ ≤ _; exact Nat.le_of_eq rfl) (by decide)
  obtain ⟨T2, X2, e2, st2⟩ := getS2 X1 hx hZ hown (host := "") (Or.inl (hw _ (List.mem_of_getElem? (i := 26) rfl))) Via.refl e1 (hp5.ext (O0.keep K0 (allS hp1 all0)).2) (g := (mkF m 4 #[.val (.ref b), .val (.int (16 : Int32))] [])) rfl (hb hby own_d_jdk_68_method_2_code_4)
  obtain ⟨T3, h3, k3, X3, e3, E3, A3, Ex3, st3⟩ := newPE X2 hx hZ (hw _ (List.mem_of_getElem? (i := 28) rfl)) e2 (g := (mkF m 12 #[.val (.ref b), .val (.int (16 : Int32))] [(.int (16 : Int32)), (.ref b)])) rfl (hb hby own_d_jdk_68_method_2_code_12) rfl (by decide) (cap := 16) (by decide) (by decide) (by decide) (by decide) (ad := "[B") (by decide)
  obtain ⟨b3, gg3⟩ : ∃ z, z = h0.size := ⟨_, rfl⟩
  rw [← gg3] at A3 Ex3 st3
  have ne4 : b ≠ b3 := Nat.ne_of_lt (Nat.lt_of_lt_of_le hp0.lt (Nat.le_of_eq gg3.symm))
  have g5 : n0 ≤ b3 := Nat.le_trans (Nat.le_trans (own_le O0) K0.1) (Nat.le_of_eq gg3.symm)
  have b6 : h0.size ≤ b3 := Nat.le_trans K0.1 (Nat.le_of_eq gg3.symm)
  have K7 : Keep h0 h3 [b] := K0.ext E3
  have V3 : Arv Z h3 b3 k3 .byte (16 : Int32) [] (.int (0 : Int32)) := Arv.new A3 (by decide)
  have f8 : Fld Z h3 b "java/lang/AbstractStringBuilder" "value" "[B" .null := (hp2.ext E3)
  have f9 : Exa Z h3 b "java/lang/StringBuilder" := (hp0.ext E3)
  obtain ⟨T10, h10, X10, e10, W10, st10⟩ := putF X3 hx hZ hown (host := "") (Or.inl (hw _ (List.mem_of_getElem? (i := 29) rfl))) Via.refl e3 f8 f9 (Or.inl (hw _ (List.mem_of_getElem? (i := 30) rfl))) (hw _ (List.mem_of_getElem? (i := 12) rfl)) (ty := (.array .byte)) (by decide) rfl rfl (g := (mkF m 14 #[.val (.ref b), .val (.int (16 : Int32))] [(.ref b3), (.ref b)])) rfl rfl (hb hby own_d_jdk_68_method_2_code_14)
  have K11 : Keep h0 h10 [b] := K7.wr W10 (Or.inl (List.mem_of_getElem? (i := 0) rfl))
  have Fw10 : Fld Z h10 b "java/lang/AbstractStringBuilder" "value" "[B" (.ref b3) := f8.same W10
  have N10 := Fr.snoc X10 N0 hp1
  have f12 : Fld Z h10 b "java/lang/AbstractStringBuilder" "coder" "B" (.int (0 : Int32)) := ((hp3.ext E3).other W10 (Or.inr (Jvm.RoadKit.slot_ne (Or.inl (hw _ (List.mem_of_getElem? (i := 32) rfl))) (Or.inl (hw _ (List.mem_of_getElem? (i := 30) rfl))) (by decide) (t := .byte) (t' := (.array .byte)) (by decide) (by decide))))
  have f13 : Exa Z h10 b "java/lang/StringBuilder" := (f9.wr W10)
  obtain ⟨T14, h14, X14, e14, W14, st14⟩ := putFN X10 hx hZ hown (hw _ (List.mem_of_getElem? (i := 31) rfl)) Via.refl e10 f12 f13 (Or.inl (hw _ (List.mem_of_getElem? (i := 32) rfl))) (hw _ (List.mem_of_getElem? (i := 12) rfl)) (ty := .byte) (v' := (.int (nar .byte (0 : Int32)))) (by decide) rfl (fits_nar_byte _) (g := (mkF m 19 #[.val (.ref b), .val (.int (16 : Int32))] [(.int (0 : Int32)), (.ref b)])) rfl rfl (hb hby own_d_jdk_68_method_2_code_19)
  have K15 : Keep h0 h14 [b] := K11.wr W14 (Or.inl (List.mem_of_getElem? (i := 0) rfl))
  have Fw14 : Fld Z h14 b "java/lang/AbstractStringBuilder" "coder" "B" (.int (nar .byte (0 : Int32))) := f12.same W14
  have N14 := Fr.snoc X14 N10 hp1
  have f16 : Fld Z h14 b "java/lang/AbstractStringBuilder" "coder" "B" (.int (0 : Int32)) := by rw [show (nar .byte (0 : Int32)) = (0 : Int32) from (by decide)] at Fw14; exact Fw14
  have f17 : Arv Z h14 b3 k3 .byte (16 : Int32) [] (.int (0 : Int32)) := ((V3.other W10 (Ne.symm ne4)).other W14 (Ne.symm ne4))
  have f18 : Exa Z h14 b "java/lang/StringBuilder" := (f13.wr W14)
  have f19 : Fld Z h14 b "java/lang/AbstractStringBuilder" "value" "[B" (.ref b3) := (Fw10.other W14 (Or.inr (Jvm.RoadKit.slot_ne (Or.inl (hw _ (List.mem_of_getElem? (i := 30) rfl))) (Or.inl (hw _ (List.mem_of_getElem? (i := 32) rfl))) (by decide) (t := (.array .byte)) (t' := .byte) (by decide) (by decide))))
  have f20 : Fld Z h14 b "java/lang/AbstractStringBuilder" "count" "I" (.int (0 : Int32)) := (((hp4.ext E3).other W10 (Or.inr (Jvm.RoadKit.slot_ne (Or.inl (hw _ (List.mem_of_getElem? (i := 61) rfl))) (Or.inl (hw _ (List.mem_of_getElem? (i := 30) rfl))) (by decide) (t := .int) (t' := (.array .byte)) (by decide) (by decide)))).other W14 (Or.inr (Jvm.RoadKit.slot_ne (Or.inl (hw _ (List.mem_of_getElem? (i := 61) rfl))) (Or.inl (hw _ (List.mem_of_getElem? (i := 32) rfl))) (by decide) (t := .int) (t' := .byte) (by decide) (by decide))))
  have f21 : Exa Z h14 b3 "[B" := ((Ex3.wr W10).wr W14)
  obtain ⟨fs, hr, hrun, hended, hW, hsame⟩ := X14.leave (v := none) (fun _ => rfl)
  refine ⟨_, _, r0 _ ?_, hrun, hended, _, _, rfl, ?_, ⟨_, rfl⟩, hW, hsame.mono (by decide) (by decide)⟩
  · show Steps p.tables e below (s₁.setTop (mkF m 0 #[.val (.ref b), .val (.int (16 : Int32))] [])) _
    refine XS.aloadN X0.here hx rfl (hb hby own_d_jdk_68_method_2_code_0) rfl rfl ?_
    show Steps p.tables e below (s₁.setTop (mkF m 1 #[.val (.ref b), .val (.int (16 : Int32))] [(.ref b)])) _
    refine st1 _ ?_
    show Steps p.tables e below (T1.setTop (mkF m 4 #[.val (.ref b), .val (.int (16 : Int32))] [])) _
    refine st2 _ ?_
    show Steps p.tables e below (T2.setTop (mkF m 7 #[.val (.ref b), .val (.int (16 : Int32))] [(.int gCS)])) _
    refine XS.ifNo X2.here hx rfl (hb hby own_d_jdk_68_method_2_code_7) rfl ((if0 _ _).trans (feq hG1).1) ?_
    show Steps p.tables e below (T2.setTop (mkF m 10 #[.val (.ref b), .val (.int (16 : Int32))] [])) _
    refine XS.aloadN X2.here hx rfl (hb hby own_d_jdk_68_method_2_code_10) rfl rfl ?_
    show Steps p.tables e below (T2.setTop (mkF m 11 #[.val (.ref b), .val (.int (16 : Int32))] [(.ref b)])) _
    refine XS.iloadN X2.here hx rfl (hb hby own_d_jdk_68_method_2_code_11) rfl ?_
    show Steps p.tables e below (T2.setTop (mkF m 12 #[.val (.ref b), .val (.int (16 : Int32))] [(.int (16 : Int32)), (.ref b)])) _
    refine st3 _ ?_
    show Steps p.tables e below (T3.setTop (mkF m 14 #[.val (.ref b), .val (.int (16 : Int32))] [(.ref b3), (.ref b)])) _
    refine st10 _ ?_
    show Steps p.tables e below (T10.setTop (mkF m 17 #[.val (.ref b), .val (.int (16 : Int32))] [])) _
    refine XS.aloadN X10.here hx rfl (hb hby own_d_jdk_68_method_2_code_17) rfl rfl ?_
    show Steps p.tables e below (T10.setTop (mkF m 18 #[.val (.ref b), .val (.int (16 : Int32))] [(.ref b)])) _
    refine XS.iconst X10.here hx rfl (hb hby own_d_jdk_68_method_2_code_18) ?_
    show Steps p.tables e below (T10.setTop (mkF m 19 #[.val (.ref b), .val (.int (16 : Int32))] [(.int (0 : Int32)), (.ref b)])) _
    refine st14 _ ?_
    show Steps p.tables e below (T14.setTop (mkF m 22 #[.val (.ref b), .val (.int (16 : Int32))] [])) _
    refine XS.goto X14.here hx rfl (pc0 := 22) (pc' := 38) rfl (hb hby own_d_jdk_68_method_2_code_22) (by decide) (by decide) ?_
    show Steps p.tables e below (T14.setTop (mkF m 38 #[.val (.ref b), .val (.int (16 : Int32))] [])) _
    exact X14.returnOut hx Bd.returns (hb hby own_d_jdk_68_method_2_code_38) hr
  · show Q_own_asbinit Z b gCS h0 n0 _ T14.heap _
    rw [e14]
    exact ⟨b3, k3, rfl, N14, K15, b6, g5, ⟨f18, f19, f16, f20, own_By.new f21 (by decide) f17, fun _ q => nomatch q⟩⟩
theorem own_pn_own_sbinit : plainName "java/lang/StringBuilder" = true := by first | (simp [plainName, overriddenIn]; done) | decide +kernel
theorem own_ef_own_sbinit (m : MethodId) (b : Addr) : entryFrame m #[(.ref b)] 1 = mkF m 0 #[.val (.ref b)] [] := by first | (simp [entryFrame, mkF, argsToLocals, own_cI, own_cJ, own_cR, own_cN]; done) | rfl
abbrev own_F_own_sbinit (m : MethodId) (b : Addr) : JFrame := entryFrame m #[(.ref b)] 1
def Q_own_sbinit (Z : State) (b : Addr) (gCS : Int32) (h0 : Heap) (n0 : Nat) (v : Option Value) (h : Heap) (L : List Loc) : Prop := ∃ (d : Addr), ∃ (kd : ClassId), v = none ∧ Fr n0 L ∧ Keep h0 h [b] ∧ (h0.size ≤ d) ∧ (n0 ≤ d) ∧ (own_SB Z h b d kd 16 ([] : List Int32))
set_option maxRecDepth 65536 in
set_option maxHeartbeats 40000000 in
theorem own_sbinit (l : Launch) (Z : State) (a0 : Array Value) (hw : ∀ d ∈ tables_1, d.before a0 Z = true) (ws : List Jvm.Cond) (b : Addr) (gCS : Int32) (h0 : Heap) (n0 : Nat) (O0 : Old Z n0 h0) (hp0 : Exa Z h0 b "java/lang/StringBuilder") (hp1 : n0 ≤ b) (hp2 : Fld Z h0 b "java/lang/AbstractStringBuilder" "value" "[B" .null) (hp3 : Fld Z h0 b "java/lang/AbstractStringBuilder" "coder" "B" (.int (0 : Int32))) (hp4 : Fld Z h0 b "java/lang/AbstractStringBuilder" "count" "I" (.int (0 : Int32))) (hp5 : Sta Z Z.heap "java/lang/String" "COMPACT_STRINGS" "Z" (.int gCS)) (hG1 : ¬ gCS = (0 : Int32)) :
    MetFree l (⟨"java/lang/StringBuilder", "<init>", "()V"⟩ : MethodName) (head1 (Jvm.Cond.code (⟨"java/lang/StringBuilder", "<init>", "()V"⟩ : MethodName) jdk_67_method_1_code 1 none :: ws) ({ frames := 2, cells := 1, slots := 16, locals := 25 } : Room)) (fun aa_ U_ => aa_ = #[(.ref b)] ∧ Z.Warmed39 U_.vm ∧ U_.heap = h0) (fun _ _ _ _ _ => True) (fun _ U_ o_ V_ => ∃ v_ L_, o_ = .returned v_ ∧ Q_own_sbinit Z b gCS h0 n0 v_ V_.heap L_ ∧ FrameEnd U_ o_ V_ L_ ({ frames := 2, cells := 1, slots := 16, locals := 25 } : Room).cells ({ frames := 2, cells := 1, slots := 16, locals := 25 } : Room).slots) := by
  refine MetFree.of_bodySF (plainFor_of_name own_pn_own_sbinit) hisR ?_
  intro p e s m args below meth c s₁ Bd hml0 hP hK
  obtain ⟨rfl, hZ, hh⟩ := hP
  have hx := Bd.exec
  have hby := Bd.bytes
  have hml : c.maxLocals = 1 := hml0
  have hown : s.vm.findClass "java/lang/StringBuilder" = some m.cls := findClass_of_methodNamed Bd.named
  have hnm := (name_of_methodNamed Bd.named Bd.method).1
  have X0 : Stand p l e ({ frames := 2, cells := 1, slots := 16, locals := 25 } : Room) s m #[(.ref b)] below meth c s₁ [] 0 0 := Stand.of_body Bd
  have e0 : s₁.heap = h0 := by rw [← hh, Bd.state]; rfl
  have N0 := Fr.nil n0
  have K0 : Keep h0 h0 [b] := Keep.refl _ _
  have r0 : GoTo p.tables e below s₁ (own_F_own_sbinit m b) s₁ (mkF m 0 #[.val (.ref b)] []) := fun tt_ kk_ => castTop (own_ef_own_sbinit m b) kk_
  obtain ⟨_, _, ⟨T1, L1, k1, n1⟩, -, X1, ⟨Lc1, hQ1, l1, y1, z1⟩, st1⟩ := X0.specialBack hx (y := (⟨"java/lang/AbstractStringBuilder", "<init>", "(I)V"⟩ : MethodName)) rfl hown (mvT hZ (hw _ (List.mem_of_getElem? (i := 17) rfl))) (mvT hZ (hw _ (List.mem_of_getElem? (i := 18) rfl))) (mvT hZ (hw _ (List.mem_of_getElem? (i := 22) rfl))) (by decide) (backOf (W := 0) (own_asbinit l Z a0 hw [] (b) (gCS) h0 n0 (O0.keep K0 (allS hp1 all0)) (hp0) (hp1) (hp2) (hp3) (hp4) (hp5) (hG1)) hZ (hw _ (List.mem_of_getElem? (i := 22) rfl)) (hw _ (List.mem_of_getElem? (i := 21) rfl)) (by decide) (by decide)) (g := (mkF m 3 #[.val (.ref b)] [(.int (16 : Int32)), (.ref b)])) rfl (by rw [hml]; rfl) (Steps.refl _) (a := b) (argsL := [(.int (16 : Int32))]) (rest := []) (lenOf own_pd0 rfl) rfl (by show 2 * 0 + _ ≤ _; exact Nat.le_of_eq rfl) (hb hby own_d_jdk_67_method_1_code_3) (fun _ _ => ⟨rfl, e0, (by decide : 0 + 1 ≤ _), (by decide : 0 + 16 ≤ _)⟩)
  dsimp only [Pt.U, Pt.locs, Pt.cells, Pt.slots] at X1 l1 y1 z1 st1 hQ1
  subst l1 y1 z1
  obtain ⟨d_1, kd_1, rfl, Nq1, Kq1, po1_0, po1_1, po1_2⟩ := hQ1
  have N1 := Fr.app N0 Nq1
  have ne2 : b ≠ d_1 := Nat.ne_of_lt (Nat.lt_of_lt_of_le hp0.lt po1_0)
  have g3 : n0 ≤ d_1 := Nat.le_trans (Nat.le_trans (own_le O0) K0.1) po1_0
  have b4 : h0.size ≤ d_1 := Nat.le_trans K0.1 po1_0
  have K5 : Keep h0 T1.heap [b] := K0.trans Kq1 (allS (Or.inl (List.mem_of_getElem? (i := 0) rfl)) all0)
  obtain ⟨fs, hr, hrun, hended, hW, hsame⟩ := X1.leave (v := none) (fun _ => rfl)
  refine ⟨_, _, r0 _ ?_, hrun, hended, _, _, rfl, ?_, ⟨_, rfl⟩, hW, hsame.mono (by decide) (by decide)⟩
  · show Steps p.tables e below (s₁.setTop (mkF m 0 #[.val (.ref b)] [])) _
    refine XS.aloadN X0.here hx rfl (hb hby own_d_jdk_67_method_1_code_0) rfl rfl ?_
    show Steps p.tables e below (s₁.setTop (mkF m 1 #[.val (.ref b)] [(.ref b)])) _
    refine XS.bipush X0.here hx rfl (hb hby own_d_jdk_67_method_1_code_1) ?_
    show Steps p.tables e below (s₁.setTop (mkF m 3 #[.val (.ref b)] [(.int (16 : Int32)), (.ref b)])) _
    refine st1.trans ?_
    show Steps p.tables e below (T1.setTop (mkF m 6 #[.val (.ref b)] [])) _
    exact X1.returnOut hx Bd.returns (hb hby own_d_jdk_67_method_1_code_6) hr
  · show Q_own_sbinit Z b gCS h0 n0 _ T1.heap _
    exact ⟨d_1, kd_1, rfl, N1, K5, b4, po1_1, po1_2⟩
theorem own_pn_own_isL : plainName "java/lang/AbstractStringBuilder" = true := by first | (simp [plainName, overriddenIn]; done) | decide +kernel
theorem own_ef_own_isL (m : MethodId) (b : Addr) : entryFrame m #[(.ref b)] 1 = mkF m 0 #[.val (.ref b)] [] := by first | (simp [entryFrame, mkF, argsToLocals, own_cI, own_cJ, own_cR, own_cN]; done) | rfl
abbrev own_F_own_isL (m : MethodId) (b : Addr) : JFrame := entryFrame m #[(.ref b)] 1
def Q_own_isL (Z : State) (b : Addr) (gCS : Int32) (h0 : Heap) (n0 : Nat) (v : Option Value) (h : Heap) (L : List Loc) : Prop := v = some (.int (1 : Int32)) ∧ Fr n0 L ∧ h = h0
set_option maxRecDepth 65536 in
set_option maxHeartbeats 40000000 in
theorem own_isL (l : Launch) (Z : State) (a0 : Array Value) (hw : ∀ d ∈ tables_1, d.before a0 Z = true) (ws : List Jvm.Cond) (b : Addr) (gCS : Int32) (h0 : Heap) (n0 : Nat) (O0 : Old Z n0 h0) (hp0 : Fld Z h0 b "java/lang/AbstractStringBuilder" "coder" "B" (.int (0 : Int32))) (hp1 : Sta Z Z.heap "java/lang/String" "COMPACT_STRINGS" "Z" (.int gCS)) (hG1 : ¬ gCS = (0 : Int32)) :
    MetFree l (⟨"java/lang/AbstractStringBuilder", "isLatin1", "()Z"⟩ : MethodName) (head1 (Jvm.Cond.code (⟨"java/lang/AbstractStringBuilder", "isLatin1", "()Z"⟩ : MethodName) jdk_68_method_68_code 1 (some .boolean) :: ws) ({ frames := 0, cells := 0, slots := 0, locals := 0 } : Room)) (fun aa_ U_ => aa_ = #[(.ref b)] ∧ Z.Warmed39 U_.vm ∧ U_.heap = h0) (fun _ _ _ _ _ => True) (fun _ U_ o_ V_ => ∃ v_ L_, o_ = .returned v_ ∧ Q_own_isL Z b gCS h0 n0 v_ V_.heap L_ ∧ FrameEnd U_ o_ V_ L_ ({ frames := 0, cells := 0, slots := 0, locals := 0 } : Room).cells ({ frames := 0, cells := 0, slots := 0, locals := 0 } : Room).slots) := by
  refine MetFree.of_bodySF (plainFor_of_name own_pn_own_isL) hisR ?_
  intro p e s m args below meth c s₁ Bd hml0 hP hK
  obtain ⟨rfl, hZ, hh⟩ := hP
  have hx := Bd.exec
  have hby := Bd.bytes
  have hml : c.maxLocals = 1 := hml0
  have hown : s.vm.findClass "java/lang/AbstractStringBuilder" = some m.cls := findClass_of_methodNamed Bd.named
  have hnm := (name_of_methodNamed Bd.named Bd.method).1
  have X0 : Stand p l e ({ frames := 0, cells := 0, slots := 0, locals := 0 } : Room) s m #[(.ref b)] below meth c s₁ [] 0 0 := Stand.of_body Bd
  have e0 : s₁.heap = h0 := by rw [← hh, Bd.state]; rfl
  have N0 := Fr.nil n0
  have K0 : Keep h0 h0 [] := Keep.refl _ _
  have r0 : GoTo p.tables e below s₁ (own_F_own_isL m b) s₁ (mkF m 0 #[.val (.ref b)] []) := fun tt_ kk_ => castTop (own_ef_own_isL m b) kk_
  obtain ⟨T1, X1, e1, st1⟩ := getS2 X0 hx hZ hown (host := "") (Or.inl (hw _ (List.mem_of_getElem? (i := 26) rfl))) Via.refl e0 (hp1.ext (O0.keep K0 all0).2) (g := (mkF m 0 #[.val (.ref b)] [])) rfl (hb hby own_d_jdk_68_method_68_code_0)
  obtain ⟨T2, X2, e2, st2⟩ := getF X1 hx hZ hown (host := "") (Or.inl (hw _ (List.mem_of_getElem? (i := 31) rfl))) Via.refl e1 hp0 (g := (mkF m 7 #[.val (.ref b)] [(.ref b)])) rfl rfl (hb hby own_d_jdk_68_method_68_code_7)
  obtain ⟨fs, hr, hrun, hended, hW, hsame⟩ := X2.leave (v := some (.int (nar .boolean (1 : Int32)))) (fun h => by rw [Bd.returns] at h; cases h)
  refine ⟨_, _, r0 _ ?_, hrun, hended, _, _, rfl, ?_, ⟨_, rfl⟩, hW, hsame.mono (by decide) (by decide)⟩
  · show Steps p.tables e below (s₁.setTop (mkF m 0 #[.val (.ref b)] [])) _
    refine st1 _ ?_
    show Steps p.tables e below (T1.setTop (mkF m 3 #[.val (.ref b)] [(.int gCS)])) _
    refine XS.ifNo X1.here hx rfl (hb hby own_d_jdk_68_method_68_code_3) rfl ((if0 _ _).trans (feq hG1).1) ?_
    show Steps p.tables e below (T1.setTop (mkF m 6 #[.val (.ref b)] [])) _
    refine XS.aloadN X1.here hx rfl (hb hby own_d_jdk_68_method_68_code_6) rfl rfl ?_
    show Steps p.tables e below (T1.setTop (mkF m 7 #[.val (.ref b)] [(.ref b)])) _
    refine st2 _ ?_
    show Steps p.tables e below (T2.setTop (mkF m 10 #[.val (.ref b)] [(.int (0 : Int32))])) _
    refine XS.ifNo X2.here hx rfl (hb hby own_d_jdk_68_method_68_code_10) rfl ((if0 _ _).trans (teq rfl).2) ?_
    show Steps p.tables e below (T2.setTop (mkF m 13 #[.val (.ref b)] [])) _
    refine XS.iconst X2.here hx rfl (hb hby own_d_jdk_68_method_68_code_13) ?_
    show Steps p.tables e below (T2.setTop (mkF m 14 #[.val (.ref b)] [(.int (1 : Int32))])) _
    refine XS.goto X2.here hx rfl (pc0 := 14) (pc' := 18) rfl (hb hby own_d_jdk_68_method_68_code_14) (by decide) (by decide) ?_
    show Steps p.tables e below (T2.setTop (mkF m 18 #[.val (.ref b)] [(.int (1 : Int32))])) _
    exact retN X2 hx (t := .boolean) Bd.returns (by simp) (hb hby own_d_jdk_68_method_68_code_18) hr
  · show Q_own_isL Z b gCS h0 n0 _ T2.heap _
    rw [e2]
    exact ⟨rfl, N0, rfl⟩
theorem own_pn_own_ens : plainName "java/lang/AbstractStringBuilder" = true := by first | (simp [plainName, overriddenIn]; done) | decide +kernel
theorem own_ef_own_ens (m : MethodId) (b : Addr) (mm : Nat) : entryFrame m #[(.ref b), (.int (Int32.ofNat mm))] 3 = mkF m 0 #[.val (.ref b), .val (.int (Int32.ofNat mm)), .unset] [] := by first | (simp [entryFrame, mkF, argsToLocals, own_cI, own_cJ, own_cR, own_cN]; done) | rfl
abbrev own_F_own_ens (m : MethodId) (b : Addr) (mm : Nat) : JFrame := entryFrame m #[(.ref b), (.int (Int32.ofNat mm))] 3
def Q_own_ens (Z : State) (b : Addr) (d : Addr) (kd : ClassId) (N : Nat) (cs : List Int32) (mm : Nat) (h0 : Heap) (n0 : Nat) (v : Option Value) (h : Heap) (L : List Loc) : Prop := ∃ (d2 : Addr), ∃ (k2 : ClassId), ∃ (N2 : Nat), v = none ∧ Fr n0 L ∧ Keep h0 h [b] ∧ (d2 = d ∨ h0.size ≤ d2) ∧ (n0 ≤ d2) ∧ (own_SB Z h b d2 k2 N2 cs) ∧ (mm ≤ N2 ∧ N ≤ N2 ∧ (N2 = N ∨ N2 ≤ 100))
set_option maxRecDepth 65536 in
set_option maxHeartbeats 40000000 in
theorem own_ens (l : Launch) (Z : State) (a0 : Array Value) (hw : ∀ d ∈ tables_1, d.before a0 Z = true) (ws : List Jvm.Cond) (b : Addr) (d : Addr) (kd : ClassId) (N : Nat) (cs : List Int32) (mm : Nat) (h0 : Heap) (n0 : Nat) (O0 : Old Z n0 h0) (hp0 : own_SB Z h0 b d kd N cs) (hp1 : n0 ≤ b) (hp2 : n0 ≤ d) (hmm : mm ≤ 200000) (hNp : 0 < N) (hcap : N < mm → False) (hNb : N ≤ 100000) :
    MetFree l (⟨"java/lang/AbstractStringBuilder", "ensureCapacityInternal", "(I)V"⟩ : MethodName) (head1 (Jvm.Cond.code (⟨"java/lang/AbstractStringBuilder", "ensureCapacityInternal", "(I)V"⟩ : MethodName) jdk_68_method_9_code 3 none :: ws) ({ frames := 0, cells := 0, slots := 0, locals := 0 } : Room)) (fun aa_ U_ => aa_ = #[(.ref b), (.int (Int32.ofNat mm))] ∧ Z.Warmed39 U_.vm ∧ U_.heap = h0) (fun _ _ _ _ _ => True) (fun _ U_ o_ V_ => ∃ v_ L_, o_ = .returned v_ ∧ Q_own_ens Z b d kd N cs mm h0 n0 v_ V_.heap L_ ∧ FrameEnd U_ o_ V_ L_ ({ frames := 0, cells := 0, slots := 0, locals := 0 } : Room).cells ({ frames := 0, cells := 0, slots := 0, locals := 0 } : Room).slots) := by
  refine MetFree.of_bodySF (plainFor_of_name own_pn_own_ens) hisR ?_
  intro p e s m args below meth c s₁ Bd hml0 hP hK
  obtain ⟨rfl, hZ, hh⟩ := hP
  have hx := Bd.exec
  have hby := Bd.bytes
  have hml : c.maxLocals = 3 := hml0
  have hown : s.vm.findClass "java/lang/AbstractStringBuilder" = some m.cls := findClass_of_methodNamed Bd.named
  have hnm := (name_of_methodNamed Bd.named Bd.method).1
  have X0 : Stand p l e ({ frames := 0, cells := 0, slots := 0, locals := 0 } : Room) s m #[(.ref b), (.int (Int32.ofNat mm))] below meth c s₁ [] 0 0 := Stand.of_body Bd
  have e0 : s₁.heap = h0 := by rw [← hh, Bd.state]; rfl
  have N0 := Fr.nil n0
  have K0 : Keep h0 h0 [b] := Keep.refl _ _
  have r0 : GoTo p.tables e below s₁ (own_F_own_ens m b mm) s₁ (mkF m 0 #[.val (.ref b), .val (.int (Int32.ofNat mm)), .unset] []) := fun tt_ kk_ => castTop (own_ef_own_ens m b mm) kk_
  obtain ⟨vs1, hvl1, hva1, hvc1⟩ := own_By.arv hp0.2.2.2.2.1
  have hNs : N ≤ 1000000 := hp0.2.2.2.2.1.2.2.1
  obtain ⟨T2, X2, e2, st2⟩ := getF X0 hx hZ hown (host := "") (Or.inl (hw _ (List.mem_of_getElem? (i := 29) rfl))) Via.refl e0 hp0.2.1 (g := (mkF m 1 #[.val (.ref b), .val (.int (Int32.ofNat mm)), .unset] [(.ref b)])) rfl rfl (hb hby own_d_jdk_68_method_9_code_1)
  obtain ⟨cl3, Ar3, q3, S3, NN3, H3, G3⟩ := id hva1
  obtain ⟨T4, X4, e4, st4⟩ := getF X2 hx hZ hown (host := "") (Or.inl (hw _ (List.mem_of_getElem? (i := 31) rfl))) Via.refl e2 hp0.2.2.1 (g := (mkF m 6 #[.val (.ref b), .val (.int (Int32.ofNat mm)), .unset] [(.ref b), (.int (Int32.ofNat N))])) rfl rfl (hb hby own_d_jdk_68_method_9_code_6)
  have r5 : GoTo p.tables e below s₁ (own_F_own_ens m b mm) T4 (mkF m 10 #[.val (.ref b), .val (.int (Int32.ofNat mm)), .unset] [(.int ((Int32.ofNat N) >>> ((0 : Int32) &&& 31)))]) := fun tt_ kk_ => r0 tt_ (by
      show Steps p.tables e below (s₁.setTop (mkF m 0 #[.val (.ref b), .val (.int (Int32.ofNat mm)), .unset] [])) _
      refine XS.aloadN X0.here hx rfl (hb hby own_d_jdk_68_method_9_code_0) rfl rfl ?_
      show Steps p.tables e below (s₁.setTop (mkF m 1 #[.val (.ref b), .val (.int (Int32.ofNat mm)), .unset] [(.ref b)])) _
      refine st2 _ ?_
      show Steps p.tables e below (T2.setTop (mkF m 4 #[.val (.ref b), .val (.int (Int32.ofNat mm)), .unset] [(.ref d)])) _
      refine X2.arraylength hx (by rw [e2]; exact Ar3.1) (State.isArrayOf_alike hZ.alike Ar3.2.1) (g := (mkF m 4 #[.val (.ref b), .val (.int (Int32.ofNat mm)), .unset] [(.ref d)])) rfl rfl (hb hby own_d_jdk_68_method_9_code_4) _ ?_
      rw [len_of S3 NN3]
      show Steps p.tables e below (T2.setTop (mkF m 5 #[.val (.ref b), .val (.int (Int32.ofNat mm)), .unset] [(.int (Int32.ofNat N))])) _
      refine XS.aloadN X2.here hx rfl (hb hby own_d_jdk_68_method_9_code_5) rfl rfl ?_
      show Steps p.tables e below (T2.setTop (mkF m 6 #[.val (.ref b), .val (.int (Int32.ofNat mm)), .unset] [(.ref b), (.int (Int32.ofNat N))])) _
      refine st4 _ ?_
      show Steps p.tables e below (T4.setTop (mkF m 9 #[.val (.ref b), .val (.int (Int32.ofNat mm)), .unset] [(.int (0 : Int32)), (.int (Int32.ofNat N))])) _
      refine XS.ishr X4.here hx rfl (hb hby own_d_jdk_68_method_9_code_9) rfl ?_
      show Steps p.tables e below (T4.setTop (mkF m 10 #[.val (.ref b), .val (.int (Int32.ofNat mm)), .unset] [(.int ((Int32.ofNat N) >>> ((0 : Int32) &&& 31)))])) _
      exact kk_)
  have r6 : GoTo p.tables e below s₁ (own_F_own_ens m b mm) T4 (mkF m 10 #[.val (.ref b), .val (.int (Int32.ofNat mm)), .unset] [(.int (Int32.ofNat N))]) := Eq.mp (congrArg (fun zz_ => GoTo p.tables e below s₁ (own_F_own_ens m b mm) T4 (mkF m 10 #[.val (.ref b), .val (.int (Int32.ofNat mm)), .unset] [(.int zz_)])) (show ((Int32.ofNat N) >>> ((0 : Int32) &&& 31)) = (Int32.ofNat N) from own_shr0 _)) r5
  have r7 : GoTo p.tables e below s₁ (own_F_own_ens m b mm) T4 (mkF m 14 #[.val (.ref b), .val (.int (Int32.ofNat mm)), .val (.int (Int32.ofNat N))] [(.int ((Int32.ofNat mm) - (Int32.ofNat N)))]) := fun tt_ kk_ => r6 tt_ (by
      show Steps p.tables e below (T4.setTop (mkF m 10 #[.val (.ref b), .val (.int (Int32.ofNat mm)), .unset] [(.int (Int32.ofNat N))])) _
      refine XS.istoreN X4.here hx rfl (hb hby own_d_jdk_68_method_9_code_10) rfl (l' := #[.val (.ref b), .val (.int (Int32.ofNat mm)), .val (.int (Int32.ofNat N))]) rfl ?_
      show Steps p.tables e below (T4.setTop (mkF m 11 #[.val (.ref b), .val (.int (Int32.ofNat mm)), .val (.int (Int32.ofNat N))] [])) _
      refine XS.iloadN X4.here hx rfl (hb hby own_d_jdk_68_method_9_code_11) rfl ?_
      show Steps p.tables e below (T4.setTop (mkF m 12 #[.val (.ref b), .val (.int (Int32.ofNat mm)), .val (.int (Int32.ofNat N))] [(.int (Int32.ofNat mm))])) _
      refine XS.iloadN X4.here hx rfl (hb hby own_d_jdk_68_method_9_code_12) rfl ?_
      show Steps p.tables e below (T4.setTop (mkF m 13 #[.val (.ref b), .val (.int (Int32.ofNat mm)), .val (.int (Int32.ofNat N))] [(.int (Int32.ofNat N)), (.int (Int32.ofNat mm))])) _
      refine XS.isub X4.here hx rfl (hb hby own_d_jdk_68_method_9_code_13) rfl ?_
      show Steps p.tables e below (T4.setTop (mkF m 14 #[.val (.ref b), .val (.int (Int32.ofNat mm)), .val (.int (Int32.ofNat N))] [(.int ((Int32.ofNat mm) - (Int32.ofNat N)))])) _
      exact kk_)
  by_cases hmN : N < mm
  · exact (hcap hmN).elim
  · obtain ⟨fs, hr, hrun, hended, hW, hsame⟩ := X4.leave (v := none) (fun _ => rfl)
    refine ⟨_, _, r7 _ ?_, hrun, hended, _, _, rfl, ?_, ⟨_, rfl⟩, hW, hsame.mono (by decide) (by decide)⟩
    · show Steps p.tables e below (T4.setTop (mkF m 14 #[.val (.ref b), .val (.int (Int32.ofNat mm)), .val (.int (Int32.ofNat N))] [(.int ((Int32.ofNat mm) - (Int32.ofNat N)))])) _
      refine XS.ifYes X4.here hx rfl (pc0 := 14) (pc' := 38) rfl (hb hby own_d_jdk_68_method_9_code_14) rfl ((if0 _ _).trans (flt (fun q => hmN ((own_posN (by omega) hNs).mp q))).2.2.2) (by decide) (by decide) ?_
      show Steps p.tables e below (T4.setTop (mkF m 38 #[.val (.ref b), .val (.int (Int32.ofNat mm)), .val (.int (Int32.ofNat N))] [])) _
      exact X4.returnOut hx Bd.returns (hb hby own_d_jdk_68_method_9_code_38) hr
    · show Q_own_ens Z b d kd N cs mm h0 n0 _ T4.heap _
      rw [e4]
      exact ⟨d, kd, N, rfl, N0, K0, Or.inl rfl, hp2, hp0, ⟨by omega, Nat.le_refl _, Or.inl rfl⟩⟩
theorem own_pn_own_coder : plainName "java/lang/String" = true := by first | (simp [plainName, overriddenIn]; done) | decide +kernel
theorem own_ef_own_coder (m : MethodId) (y : Addr) : entryFrame m #[(.ref y)] 1 = mkF m 0 #[.val (.ref y)] [] := by first | (simp [entryFrame, mkF, argsToLocals, own_cI, own_cJ, own_cR, own_cN]; done) | rfl
abbrev own_F_own_coder (m : MethodId) (y : Addr) : JFrame := entryFrame m #[(.ref y)] 1
def Q_own_coder (Z : State) (y : Addr) (gCS : Int32) (h0 : Heap) (n0 : Nat) (v : Option Value) (h : Heap) (L : List Loc) : Prop := v = some (.int (0 : Int32)) ∧ Fr n0 L ∧ h = h0
set_option maxRecDepth 65536 in
set_option maxHeartbeats 40000000 in
theorem own_coder (l : Launch) (Z : State) (a0 : Array Value) (hw : ∀ d ∈ tables_1, d.before a0 Z = true) (ws : List Jvm.Cond) (y : Addr) (gCS : Int32) (h0 : Heap) (n0 : Nat) (O0 : Old Z n0 h0) (hp0 : Fld Z h0 y "java/lang/String" "coder" "B" (.int (0 : Int32))) (hp1 : Sta Z Z.heap "java/lang/String" "COMPACT_STRINGS" "Z" (.int gCS)) (hG1 : ¬ gCS = (0 : Int32)) :
    MetFree l (⟨"java/lang/String", "coder", "()B"⟩ : MethodName) (head1 (Jvm.Cond.code (⟨"java/lang/String", "coder", "()B"⟩ : MethodName) jdk_42_method_152_code 1 (some .byte) :: ws) ({ frames := 0, cells := 0, slots := 0, locals := 0 } : Room)) (fun aa_ U_ => aa_ = #[(.ref y)] ∧ Z.Warmed39 U_.vm ∧ U_.heap = h0) (fun _ _ _ _ _ => True) (fun _ U_ o_ V_ => ∃ v_ L_, o_ = .returned v_ ∧ Q_own_coder Z y gCS h0 n0 v_ V_.heap L_ ∧ FrameEnd U_ o_ V_ L_ ({ frames := 0, cells := 0, slots := 0, locals := 0 } : Room).cells ({ frames := 0, cells := 0, slots := 0, locals := 0 } : Room).slots) := by
  refine MetFree.of_bodySF (plainFor_of_name own_pn_own_coder) hisR ?_
  intro p e s m args below meth c s₁ Bd hml0 hP hK
  obtain ⟨rfl, hZ, hh⟩ := hP
  have hx := Bd.exec
  have hby := Bd.bytes
  have hml : c.maxLocals = 1 := hml0
  have hown : s.vm.findClass "java/lang/String" = some m.cls := findClass_of_methodNamed Bd.named
  have hnm := (name_of_methodNamed Bd.named Bd.method).1
  have X0 : Stand p l e ({ frames := 0, cells := 0, slots := 0, locals := 0 } : Room) s m #[(.ref y)] below meth c s₁ [] 0 0 := Stand.of_body Bd
  have e0 : s₁.heap = h0 := by rw [← hh, Bd.state]; rfl
  have N0 := Fr.nil n0
  have K0 : Keep h0 h0 [] := Keep.refl _ _
  have r0 : GoTo p.tables e below s₁ (own_F_own_coder m y) s₁ (mkF m 0 #[.val (.ref y)] []) := fun tt_ kk_ => castTop (own_ef_own_coder m y) kk_
  obtain ⟨T1, X1, e1, st1⟩ := getS2 X0 hx hZ hown (host := "") (Or.inl (hw _ (List.mem_of_getElem? (i := 57) rfl))) Via.refl e0 (hp1.ext (O0.keep K0 all0).2) (g := (mkF m 0 #[.val (.ref y)] [])) rfl (hb hby own_d_jdk_42_method_152_code_0)
  obtain ⟨T2, X2, e2, st2⟩ := getF X1 hx hZ hown (host := "") (Or.inl (hw _ (List.mem_of_getElem? (i := 58) rfl))) Via.refl e1 hp0 (g := (mkF m 7 #[.val (.ref y)] [(.ref y)])) rfl rfl (hb hby own_d_jdk_42_method_152_code_7)
  obtain ⟨fs, hr, hrun, hended, hW, hsame⟩ := X2.leave (v := some (.int (nar .byte (0 : Int32)))) (fun h => by rw [Bd.returns] at h; cases h)
  refine ⟨_, _, r0 _ ?_, hrun, hended, _, _, rfl, ?_, ⟨_, rfl⟩, hW, hsame.mono (by decide) (by decide)⟩
  · show Steps p.tables e below (s₁.setTop (mkF m 0 #[.val (.ref y)] [])) _
    refine st1 _ ?_
    show Steps p.tables e below (T1.setTop (mkF m 3 #[.val (.ref y)] [(.int gCS)])) _
    refine XS.ifNo X1.here hx rfl (hb hby own_d_jdk_42_method_152_code_3) rfl ((if0 _ _).trans (feq hG1).1) ?_
    show Steps p.tables e below (T1.setTop (mkF m 6 #[.val (.ref y)] [])) _
    refine XS.aloadN X1.here hx rfl (hb hby own_d_jdk_42_method_152_code_6) rfl rfl ?_
    show Steps p.tables e below (T1.setTop (mkF m 7 #[.val (.ref y)] [(.ref y)])) _
    refine st2 _ ?_
    show Steps p.tables e below (T2.setTop (mkF m 10 #[.val (.ref y)] [(.int (0 : Int32))])) _
    refine XS.goto X2.here hx rfl (pc0 := 10) (pc' := 14) rfl (hb hby own_d_jdk_42_method_152_code_10) (by decide) (by decide) ?_
    show Steps p.tables e below (T2.setTop (mkF m 14 #[.val (.ref y)] [(.int (0 : Int32))])) _
    exact retN X2 hx (t := .byte) Bd.returns (by simp) (hb hby own_d_jdk_42_method_152_code_14) hr
  · show Q_own_coder Z y gCS h0 n0 _ T2.heap _
    rw [e2]
    exact ⟨rfl, N0, rfl⟩
theorem own_pn_own_strlen : plainName "java/lang/String" = true := by first | (simp [plainName, overriddenIn]; done) | decide +kernel
theorem own_ef_own_strlen (m : MethodId) (y : Addr) : entryFrame m #[(.ref y)] 1 = mkF m 0 #[.val (.ref y)] [] := by first | (simp [entryFrame, mkF, argsToLocals, own_cI, own_cJ, own_cR, own_cN]; done) | rfl
abbrev own_F_own_strlen (m : MethodId) (y : Addr) : JFrame := entryFrame m #[(.ref y)] 1
def Q_own_strlen (Z : State) (y : Addr) (ty : Addr) (ky : ClassId) (ds : List Int32) (gCS : Int32) (h0 : Heap) (n0 : Nat) (v : Option Value) (h : Heap) (L : List Loc) : Prop := v = some (.int (Int32.ofNat ds.length)) ∧ Fr n0 L ∧ h = h0
set_option maxRecDepth 65536 in
set_option maxHeartbeats 40000000 in
theorem own_strlen (l : Launch) (Z : State) (a0 : Array Value) (hw : ∀ d ∈ tables_1, d.before a0 Z = true) (ws : List Jvm.Cond) (y : Addr) (ty : Addr) (ky : ClassId) (ds : List Int32) (gCS : Int32) (h0 : Heap) (n0 : Nat) (O0 : Old Z n0 h0) (hp0 : own_Str Z h0 y ty ky ds) (hp1 : Sta Z Z.heap "java/lang/String" "COMPACT_STRINGS" "Z" (.int gCS)) (hG1 : ¬ gCS = (0 : Int32)) :
    MetFree l (⟨"java/lang/String", "length", "()I"⟩ : MethodName) (head1 (Jvm.Cond.code (⟨"java/lang/String", "length", "()I"⟩ : MethodName) jdk_42_method_54_code 1 (some .int) :: ws) ({ frames := 1, cells := 0, slots := 0, locals := 13 } : Room)) (fun aa_ U_ => aa_ = #[(.ref y)] ∧ Z.Warmed39 U_.vm ∧ U_.heap = h0) (fun _ _ _ _ _ => True) (fun _ U_ o_ V_ => ∃ v_ L_, o_ = .returned v_ ∧ Q_own_strlen Z y ty ky ds gCS h0 n0 v_ V_.heap L_ ∧ FrameEnd U_ o_ V_ L_ ({ frames := 1, cells := 0, slots := 0, locals := 13 } : Room).cells ({ frames := 1, cells := 0, slots := 0, locals := 13 } : Room).slots) := by
  refine MetFree.of_bodySF (plainFor_of_name own_pn_own_strlen) hisR ?_
  intro p e s m args below meth c s₁ Bd hml0 hP hK
  obtain ⟨rfl, hZ, hh⟩ := hP
  have hx := Bd.exec
  have hby := Bd.bytes
  have hml : c.maxLocals = 1 := hml0
  have hown : s.vm.findClass "java/lang/String" = some m.cls := findClass_of_methodNamed Bd.named
  have hnm := (name_of_methodNamed Bd.named Bd.method).1
  have X0 : Stand p l e ({ frames := 1, cells := 0, slots := 0, locals := 13 } : Room) s m #[(.ref y)] below meth c s₁ [] 0 0 := Stand.of_body Bd
  have e0 : s₁.heap = h0 := by rw [← hh, Bd.state]; rfl
  have N0 := Fr.nil n0
  have K0 : Keep h0 h0 [] := Keep.refl _ _
  have r0 : GoTo p.tables e below s₁ (own_F_own_strlen m y) s₁ (mkF m 0 #[.val (.ref y)] []) := fun tt_ kk_ => castTop (own_ef_own_strlen m y) kk_
  have hd4 := hp0.2.2.2.2.2
  obtain ⟨T1, X1, e1, st1⟩ := getF X0 hx hZ hown (host := "") (Or.inl (hw _ (List.mem_of_getElem? (i := 50) rfl))) Via.refl e0 hp0.2.1 (g := (mkF m 1 #[.val (.ref y)] [(.ref y)])) rfl rfl (hb hby own_d_jdk_42_method_54_code_1)
  obtain ⟨cl2, Ar2, q2, S2, NN2, H2, G2⟩ := id hp0.2.2.2.1
  obtain ⟨cq3, kq3, qa3, qb3, qc3⟩ := isOf hZ e1 hp0.1
  obtain ⟨_, _, ⟨T3, L3, k3, n3⟩, -, X3, ⟨Lc3, hQ3, l3, y3, z3⟩, st3⟩ := X1.virtualBack hx (y := (⟨"java/lang/String", "coder", "()B"⟩ : MethodName)) (z := (⟨"java/lang/String", "coder", "()B"⟩ : MethodName)) hown (mvT hZ (hw _ (List.mem_of_getElem? (i := 52) rfl))) (mvT hZ (hw _ (List.mem_of_getElem? (i := 53) rfl))) (notFace_of_selects (args := #[]) (mvT hZ (hw _ (List.mem_of_getElem? (i := 55) rfl)))) (mvT hZ (hw _ (List.mem_of_getElem? (i := 55) rfl))) (mvT hZ (hw _ (List.mem_of_getElem? (i := 54) rfl))) (by decide) (backOf (W := 1) (own_coder l Z a0 hw [] (y) (gCS) h0 n0 (O0.keep K0 all0) (hp0.2.2.1) (hp1) (hG1)) hZ (hw _ (List.mem_of_getElem? (i := 56) rfl)) (hw _ (List.mem_of_getElem? (i := 27) rfl)) (by decide) (by decide)) qa3 qc3 (g := (mkF m 6 #[.val (.ref y)] [(.ref y), (.int (Int32.ofNat ds.length))])) rfl (by rw [hml]; rfl) (Steps.refl _) (argsL := []) (rest := [(.int (Int32.ofNat ds.length))]) (lenOf own_pd1 rfl) rfl (by show 2 * 0 + _ ≤ _; exact Nat.le_of_eq rfl) (hb hby own_d_jdk_42_method_54_code_6) (fun _ _ => ⟨rfl, e1, (by decide : 0 + 0 ≤ _), (by decide : 0 + 0 ≤ _)⟩)
  dsimp only [Pt.U, Pt.locs, Pt.cells, Pt.slots] at X3 l3 y3 z3 st3 hQ3
  subst l3 y3 z3
  obtain ⟨rfl, Nq3, hh3⟩ := hQ3
  have N3 := Fr.app N0 Nq3
  have r4 : GoTo p.tables e below s₁ (own_F_own_strlen m y) T3 (mkF m 10 #[.val (.ref y)] [(.int ((Int32.ofNat ds.length) >>> ((0 : Int32) &&& 31)))]) := fun tt_ kk_ => r0 tt_ (by
      show Steps p.tables e below (s₁.setTop (mkF m 0 #[.val (.ref y)] [])) _
      refine XS.aloadN X0.here hx rfl (hb hby own_d_jdk_42_method_54_code_0) rfl rfl ?_
      show Steps p.tables e below (s₁.setTop (mkF m 1 #[.val (.ref y)] [(.ref y)])) _
      refine st1 _ ?_
      show Steps p.tables e below (T1.setTop (mkF m 4 #[.val (.ref y)] [(.ref ty)])) _
      refine X1.arraylength hx (by rw [e1]; exact Ar2.1) (State.isArrayOf_alike hZ.alike Ar2.2.1) (g := (mkF m 4 #[.val (.ref y)] [(.ref ty)])) rfl rfl (hb hby own_d_jdk_42_method_54_code_4) _ ?_
      rw [len_of S2 NN2]
      show Steps p.tables e below (T1.setTop (mkF m 5 #[.val (.ref y)] [(.int (Int32.ofNat ds.length))])) _
      refine XS.aloadN X1.here hx rfl (hb hby own_d_jdk_42_method_54_code_5) rfl rfl ?_
      show Steps p.tables e below (T1.setTop (mkF m 6 #[.val (.ref y)] [(.ref y), (.int (Int32.ofNat ds.length))])) _
      refine st3.trans ?_
      show Steps p.tables e below (T3.setTop (mkF m 9 #[.val (.ref y)] [(.int (0 : Int32)), (.int (Int32.ofNat ds.length))])) _
      refine XS.ishr X3.here hx rfl (hb hby own_d_jdk_42_method_54_code_9) rfl ?_
      show Steps p.tables e below (T3.setTop (mkF m 10 #[.val (.ref y)] [(.int ((Int32.ofNat ds.length) >>> ((0 : Int32) &&& 31)))])) _
      exact kk_)
  have r5 : GoTo p.tables e below s₁ (own_F_own_strlen m y) T3 (mkF m 10 #[.val (.ref y)] [(.int (Int32.ofNat ds.length))]) := Eq.mp (congrArg (fun zz_ => GoTo p.tables e below s₁ (own_F_own_strlen m y) T3 (mkF m 10 #[.val (.ref y)] [(.int zz_)])) (show ((Int32.ofNat ds.length) >>> ((0 : Int32) &&& 31)) = (Int32.ofNat ds.length) from own_shr0 _)) r4
  obtain ⟨fs, hr, hrun, hended, hW, hsame⟩ := X3.leave (v := some (.int (Int32.ofNat ds.length))) (fun h => by rw [Bd.returns] at h; cases h)
  refine ⟨_, _, r5 _ ?_, hrun, hended, _, _, rfl, ?_, ⟨_, rfl⟩, hW, hsame.mono (by decide) (by decide)⟩
  · show Steps p.tables e below (T3.setTop (mkF m 10 #[.val (.ref y)] [(.int (Int32.ofNat ds.length))])) _
    exact retI X3 hx Bd.returns (hb hby own_d_jdk_42_method_54_code_10) hr
  · show Q_own_strlen Z y ty ky ds gCS h0 n0 _ T3.heap _
    rw [hh3]
    exact ⟨rfl, N3, rfl⟩
theorem own_pn_own_sisL : plainName "java/lang/String" = true := by first | (simp [plainName, overriddenIn]; done) | decide +kernel
theorem own_ef_own_sisL (m : MethodId) (y : Addr) : entryFrame m #[(.ref y)] 1 = mkF m 0 #[.val (.ref y)] [] := by first | (simp [entryFrame, mkF, argsToLocals, own_cI, own_cJ, own_cR, own_cN]; done) | rfl
abbrev own_F_own_sisL (m : MethodId) (y : Addr) : JFrame := entryFrame m #[(.ref y)] 1
def Q_own_sisL (Z : State) (y : Addr) (gCS : Int32) (h0 : Heap) (n0 : Nat) (v : Option Value) (h : Heap) (L : List Loc) : Prop := v = some (.int (1 : Int32)) ∧ Fr n0 L ∧ h = h0
set_option maxRecDepth 65536 in
set_option maxHeartbeats 40000000 in
theorem own_sisL (l : Launch) (Z : State) (a0 : Array Value) (hw : ∀ d ∈ tables_1, d.before a0 Z = true) (ws : List Jvm.Cond) (y : Addr) (gCS : Int32) (h0 : Heap) (n0 : Nat) (O0 : Old Z n0 h0) (hp0 : Fld Z h0 y "java/lang/String" "coder" "B" (.int (0 : Int32))) (hp1 : Sta Z Z.heap "java/lang/String" "COMPACT_STRINGS" "Z" (.int gCS)) (hG1 : ¬ gCS = (0 : Int32)) :
    MetFree l (⟨"java/lang/String", "isLatin1", "()Z"⟩ : MethodName) (head1 (Jvm.Cond.code (⟨"java/lang/String", "isLatin1", "()Z"⟩ : MethodName) jdk_42_method_154_code 1 (some .boolean) :: ws) ({ frames := 0, cells := 0, slots := 0, locals := 0 } : Room)) (fun aa_ U_ => aa_ = #[(.ref y)] ∧ Z.Warmed39 U_.vm ∧ U_.heap = h0) (fun _ _ _ _ _ => True) (fun _ U_ o_ V_ => ∃ v_ L_, o_ = .returned v_ ∧ Q_own_sisL Z y gCS h0 n0 v_ V_.heap L_ ∧ FrameEnd U_ o_ V_ L_ ({ frames := 0, cells := 0, slots := 0, locals := 0 } : Room).cells ({ frames := 0, cells := 0, slots := 0, locals := 0 } : Room).slots) := by
  refine MetFree.of_bodySF (plainFor_of_name own_pn_own_sisL) hisR ?_
  intro p e s m args below meth c s₁ Bd hml0 hP hK
  obtain ⟨rfl, hZ, hh⟩ := hP
  have hx := Bd.exec
  have hby := Bd.bytes
  have hml : c.maxLocals = 1 := hml0
  have hown : s.vm.findClass "java/lang/String" = some m.cls := findClass_of_methodNamed Bd.named
  have hnm := (name_of_methodNamed Bd.named Bd.method).1
  have X0 : Stand p l e ({ frames := 0, cells := 0, slots := 0, locals := 0 } : Room) s m #[(.ref y)] below meth c s₁ [] 0 0 := Stand.of_body Bd
  have e0 : s₁.heap = h0 := by rw [← hh, Bd.state]; rfl
  have N0 := Fr.nil n0
  have K0 : Keep h0 h0 [] := Keep.refl _ _
  have r0 : GoTo p.tables e below s₁ (own_F_own_sisL m y) s₁ (mkF m 0 #[.val (.ref y)] []) := fun tt_ kk_ => castTop (own_ef_own_sisL m y) kk_
  obtain ⟨T1, X1, e1, st1⟩ := getS2 X0 hx hZ hown (host := "") (Or.inl (hw _ (List.mem_of_getElem? (i := 57) rfl))) Via.refl e0 (hp1.ext (O0.keep K0 all0).2) (g := (mkF m 0 #[.val (.ref y)] [])) rfl (hb hby own_d_jdk_42_method_154_code_0)
  obtain ⟨T2, X2, e2, st2⟩ := getF X1 hx hZ hown (host := "") (Or.inl (hw _ (List.mem_of_getElem? (i := 58) rfl))) Via.refl e1 hp0 (g := (mkF m 7 #[.val (.ref y)] [(.ref y)])) rfl rfl (hb hby own_d_jdk_42_method_154_code_7)
  obtain ⟨fs, hr, hrun, hended, hW, hsame⟩ := X2.leave (v := some (.int (nar .boolean (1 : Int32)))) (fun h => by rw [Bd.returns] at h; cases h)
  refine ⟨_, _, r0 _ ?_, hrun, hended, _, _, rfl, ?_, ⟨_, rfl⟩, hW, hsame.mono (by decide) (by decide)⟩
  · show Steps p.tables e below (s₁.setTop (mkF m 0 #[.val (.ref y)] [])) _
    refine st1 _ ?_
    show Steps p.tables e below (T1.setTop (mkF m 3 #[.val (.ref y)] [(.int gCS)])) _
    refine XS.ifNo X1.here hx rfl (hb hby own_d_jdk_42_method_154_code_3) rfl ((if0 _ _).trans (feq hG1).1) ?_
    show Steps p.tables e below (T1.setTop (mkF m 6 #[.val (.ref y)] [])) _
    refine XS.aloadN X1.here hx rfl (hb hby own_d_jdk_42_method_154_code_6) rfl rfl ?_
    show Steps p.tables e below (T1.setTop (mkF m 7 #[.val (.ref y)] [(.ref y)])) _
    refine st2 _ ?_
    show Steps p.tables e below (T2.setTop (mkF m 10 #[.val (.ref y)] [(.int (0 : Int32))])) _
    refine XS.ifNo X2.here hx rfl (hb hby own_d_jdk_42_method_154_code_10) rfl ((if0 _ _).trans (teq rfl).2) ?_
    show Steps p.tables e below (T2.setTop (mkF m 13 #[.val (.ref y)] [])) _
    refine XS.iconst X2.here hx rfl (hb hby own_d_jdk_42_method_154_code_13) ?_
    show Steps p.tables e below (T2.setTop (mkF m 14 #[.val (.ref y)] [(.int (1 : Int32))])) _
    refine XS.goto X2.here hx rfl (pc0 := 14) (pc' := 18) rfl (hb hby own_d_jdk_42_method_154_code_14) (by decide) (by decide) ?_
    show Steps p.tables e below (T2.setTop (mkF m 18 #[.val (.ref y)] [(.int (1 : Int32))])) _
    exact retN X2 hx (t := .boolean) Bd.returns (by simp) (hb hby own_d_jdk_42_method_154_code_18) hr
  · show Q_own_sisL Z y gCS h0 n0 _ T2.heap _
    rw [e2]
    exact ⟨rfl, N0, rfl⟩
theorem own_pn_own_pchk : plainName "jdk/internal/util/Preconditions" = true := by first | (simp [plainName, overriddenIn]; done) | decide +kernel
theorem own_ef_own_pchk (m : MethodId) (i : Nat) (n : Nat) (gFM : Value) (hcv0 : gFM.category = 1) : entryFrame m #[(.int (Int32.ofNat i)), (.int (Int32.ofNat n)), gFM] 3 = mkF m 0 #[.val (.int (Int32.ofNat i)), .val (.int (Int32.ofNat n)), .val gFM] [] := by first | (simp [entryFrame, mkF, argsToLocals, own_cI, own_cJ, own_cR, own_cN, hcv0]; done) | rfl
abbrev own_F_own_pchk (m : MethodId) (i : Nat) (n : Nat) (gFM : Value) : JFrame := entryFrame m #[(.int (Int32.ofNat i)), (.int (Int32.ofNat n)), gFM] 3
def Q_own_pchk (Z : State) (i : Nat) (n : Nat) (gFM : Value) (h0 : Heap) (n0 : Nat) (v : Option Value) (h : Heap) (L : List Loc) : Prop := v = some (.int (Int32.ofNat i)) ∧ Fr n0 L ∧ h = h0
set_option maxRecDepth 65536 in
set_option maxHeartbeats 40000000 in
theorem own_pchk (l : Launch) (Z : State) (a0 : Array Value) (hw : ∀ d ∈ tables_1, d.before a0 Z = true) (ws : List Jvm.Cond) (i : Nat) (n : Nat) (gFM : Value) (h0 : Heap) (n0 : Nat) (O0 : Old Z n0 h0) (hG3 : gFM.isRef = true) (hin : i < n) (hn6 : n ≤ 1000000) :
    MetFree l (⟨"jdk/internal/util/Preconditions", "checkIndex", "(IILjava/util/function/BiFunction;)I"⟩ : MethodName) (head1 (Jvm.Cond.code (⟨"jdk/internal/util/Preconditions", "checkIndex", "(IILjava/util/function/BiFunction;)I"⟩ : MethodName) jdk_41_method_11_code 3 (some .int) :: ws) ({ frames := 0, cells := 0, slots := 0, locals := 0 } : Room)) (fun aa_ U_ => aa_ = #[(.int (Int32.ofNat i)), (.int (Int32.ofNat n)), gFM] ∧ Z.Warmed39 U_.vm ∧ U_.heap = h0) (fun _ _ _ _ _ => True) (fun _ U_ o_ V_ => ∃ v_ L_, o_ = .returned v_ ∧ Q_own_pchk Z i n gFM h0 n0 v_ V_.heap L_ ∧ FrameEnd U_ o_ V_ L_ ({ frames := 0, cells := 0, slots := 0, locals := 0 } : Room).cells ({ frames := 0, cells := 0, slots := 0, locals := 0 } : Room).slots) := by
  refine MetFree.of_bodySF (plainFor_of_name own_pn_own_pchk) hisR ?_
  intro p e s m args below meth c s₁ Bd hml0 hP hK
  obtain ⟨rfl, hZ, hh⟩ := hP
  have hx := Bd.exec
  have hby := Bd.bytes
  have hml : c.maxLocals = 3 := hml0
  have hown : s.vm.findClass "jdk/internal/util/Preconditions" = some m.cls := findClass_of_methodNamed Bd.named
  have hnm := (name_of_methodNamed Bd.named Bd.method).1
  have X0 : Stand p l e ({ frames := 0, cells := 0, slots := 0, locals := 0 } : Room) s m #[(.int (Int32.ofNat i)), (.int (Int32.ofNat n)), gFM] below meth c s₁ [] 0 0 := Stand.of_body Bd
  have e0 : s₁.heap = h0 := by rw [← hh, Bd.state]; rfl
  have N0 := Fr.nil n0
  have K0 : Keep h0 h0 [] := Keep.refl _ _
  have r0 : GoTo p.tables e below s₁ (own_F_own_pchk m i n gFM) s₁ (mkF m 0 #[.val (.int (Int32.ofNat i)), .val (.int (Int32.ofNat n)), .val gFM] []) := fun tt_ kk_ => castTop (own_ef_own_pchk m i n gFM (own_cat hG3)) kk_
  obtain ⟨fs, hr, hrun, hended, hW, hsame⟩ := X0.leave (v := some (.int (Int32.ofNat i))) (fun h => by rw [Bd.returns] at h; cases h)
  refine ⟨_, _, r0 _ ?_, hrun, hended, _, _, rfl, ?_, ⟨_, rfl⟩, hW, hsame.mono (by decide) (by decide)⟩
  · show Steps p.tables e below (s₁.setTop (mkF m 0 #[.val (.int (Int32.ofNat i)), .val (.int (Int32.ofNat n)), .val gFM] [])) _
    refine XS.iloadN X0.here hx rfl (hb hby own_d_jdk_41_method_11_code_0) rfl ?_
    show Steps p.tables e below (s₁.setTop (mkF m 1 #[.val (.int (Int32.ofNat i)), .val (.int (Int32.ofNat n)), .val gFM] [(.int (Int32.ofNat i))])) _
    refine XS.ifNo X0.here hx rfl (hb hby own_d_jdk_41_method_11_code_1) rfl ((if0 _ _).trans (flt (own_negN (by omega))).1) ?_
    show Steps p.tables e below (s₁.setTop (mkF m 4 #[.val (.int (Int32.ofNat i)), .val (.int (Int32.ofNat n)), .val gFM] [])) _
    refine XS.iloadN X0.here hx rfl (hb hby own_d_jdk_41_method_11_code_4) rfl ?_
    show Steps p.tables e below (s₁.setTop (mkF m 5 #[.val (.int (Int32.ofNat i)), .val (.int (Int32.ofNat n)), .val gFM] [(.int (Int32.ofNat i))])) _
    refine XS.iloadN X0.here hx rfl (hb hby own_d_jdk_41_method_11_code_5) rfl ?_
    show Steps p.tables e below (s₁.setTop (mkF m 6 #[.val (.int (Int32.ofNat i)), .val (.int (Int32.ofNat n)), .val gFM] [(.int (Int32.ofNat n)), (.int (Int32.ofNat i))])) _
    refine XS.icmpYes X0.here hx rfl (pc0 := 6) (pc' := 16) rfl (hb hby own_d_jdk_41_method_11_code_6) rfl (tlt ((own_ltN (by omega) hn6).mpr hin)).1 (by decide) (by decide) ?_
    show Steps p.tables e below (s₁.setTop (mkF m 16 #[.val (.int (Int32.ofNat i)), .val (.int (Int32.ofNat n)), .val gFM] [])) _
    refine XS.iloadN X0.here hx rfl (hb hby own_d_jdk_41_method_11_code_16) rfl ?_
    show Steps p.tables e below (s₁.setTop (mkF m 17 #[.val (.int (Int32.ofNat i)), .val (.int (Int32.ofNat n)), .val gFM] [(.int (Int32.ofNat i))])) _
    exact retI X0 hx Bd.returns (hb hby own_d_jdk_41_method_11_code_17) hr
  · show Q_own_pchk Z i n gFM h0 n0 _ s₁.heap _
    rw [e0]
    exact ⟨rfl, N0, rfl⟩
theorem own_pn_own_schk : plainName "java/lang/String" = true := by first | (simp [plainName, overriddenIn]; done) | decide +kernel
theorem own_ef_own_schk (m : MethodId) (i : Nat) (n : Nat) : entryFrame m #[(.int (Int32.ofNat i)), (.int (Int32.ofNat n))] 2 = mkF m 0 #[.val (.int (Int32.ofNat i)), .val (.int (Int32.ofNat n))] [] := by first | (simp [entryFrame, mkF, argsToLocals, own_cI, own_cJ, own_cR, own_cN]; done) | rfl
abbrev own_F_own_schk (m : MethodId) (i : Nat) (n : Nat) : JFrame := entryFrame m #[(.int (Int32.ofNat i)), (.int (Int32.ofNat n))] 2
def Q_own_schk (Z : State) (i : Nat) (n : Nat) (gFM : Value) (h0 : Heap) (n0 : Nat) (v : Option Value) (h : Heap) (L : List Loc) : Prop := v = none ∧ Fr n0 L ∧ h = h0
set_option maxRecDepth 65536 in
set_option maxHeartbeats 40000000 in
theorem own_schk (l : Launch) (Z : State) (a0 : Array Value) (hw : ∀ d ∈ tables_1, d.before a0 Z = true) (ws : List Jvm.Cond) (i : Nat) (n : Nat) (gFM : Value) (h0 : Heap) (n0 : Nat) (O0 : Old Z n0 h0) (hp0 : Sta Z Z.heap "jdk/internal/util/Preconditions" "SIOOBE_FORMATTER" "Ljava/util/function/BiFunction;" gFM) (hG3 : gFM.isRef = true) (hin : i < n) (hn6 : n ≤ 1000000) :
    MetFree l (⟨"java/lang/String", "checkIndex", "(II)V"⟩ : MethodName) (head1 (Jvm.Cond.code (⟨"java/lang/String", "checkIndex", "(II)V"⟩ : MethodName) jdk_42_method_155_code 2 none :: ws) ({ frames := 1, cells := 0, slots := 0, locals := 14 } : Room)) (fun aa_ U_ => aa_ = #[(.int (Int32.ofNat i)), (.int (Int32.ofNat n))] ∧ Z.Warmed39 U_.vm ∧ U_.heap = h0) (fun _ _ _ _ _ => True) (fun _ U_ o_ V_ => ∃ v_ L_, o_ = .returned v_ ∧ Q_own_schk Z i n gFM h0 n0 v_ V_.heap L_ ∧ FrameEnd U_ o_ V_ L_ ({ frames := 1, cells := 0, slots := 0, locals := 14 } : Room).cells ({ frames := 1, cells := 0, slots := 0, locals := 14 } : Room).slots) := by
  refine MetFree.of_bodySF (plainFor_of_name own_pn_own_schk) hisR ?_
  intro p e s m args below meth c s₁ Bd hml0 hP hK
  obtain ⟨rfl, hZ, hh⟩ := hP
  have hx := Bd.exec
  have hby := Bd.bytes
  have hml : c.maxLocals = 2 := hml0
  have hown : s.vm.findClass "java/lang/String" = some m.cls := findClass_of_methodNamed Bd.named
  have hnm := (name_of_methodNamed Bd.named Bd.method).1
  have X0 : Stand p l e ({ frames := 1, cells := 0, slots := 0, locals := 14 } : Room) s m #[(.int (Int32.ofNat i)), (.int (Int32.ofNat n))] below meth c s₁ [] 0 0 := Stand.of_body Bd
  have e0 : s₁.heap = h0 := by rw [← hh, Bd.state]; rfl
  have N0 := Fr.nil n0
  have K0 : Keep h0 h0 [] := Keep.refl _ _
  have r0 : GoTo p.tables e below s₁ (own_F_own_schk m i n) s₁ (mkF m 0 #[.val (.int (Int32.ofNat i)), .val (.int (Int32.ofNat n))] []) := fun tt_ kk_ => castTop (own_ef_own_schk m i n) kk_
  obtain ⟨T1, X1, e1, st1⟩ := getS2 X0 hx hZ hown (host := "") (Or.inl (hw _ (List.mem_of_getElem? (i := 193) rfl))) Via.refl e0 (hp0.ext (O0.keep K0 all0).2) (g := (mkF m 2 #[.val (.int (Int32.ofNat i)), .val (.int (Int32.ofNat n))] [(.int (Int32.ofNat n)), (.int (Int32.ofNat i))])) rfl (hb hby own_d_jdk_42_method_155_code_2)
  obtain ⟨_, _, ⟨T2, L2, k2, n2⟩, -, X2, ⟨Lc2, hQ2, l2, y2, z2⟩, st2⟩ := Jvm.LawKit.callS X1 hx (y := (⟨"jdk/internal/util/Preconditions", "checkIndex", "(IILjava/util/function/BiFunction;)I"⟩ : MethodName)) hown (mvT hZ (hw _ (List.mem_of_getElem? (i := 195) rfl))) (mvT hZ (hw _ (List.mem_of_getElem? (i := 196) rfl))) (mvT hZ (hw _ (List.mem_of_getElem? (i := 194) rfl))) (mvT hZ (hw _ (List.mem_of_getElem? (i := 197) rfl))) (by decide) (backOf (W := 0) (own_pchk l Z a0 hw [] (i) (n) (gFM) h0 n0 (O0.keep K0 all0) (hG3) (hin) (hn6)) hZ (hw _ (List.mem_of_getElem? (i := 197) rfl)) (hw _ (List.mem_of_getElem? (i := 194) rfl)) (by decide) (by decide)) (g := (mkF m 5 #[.val (.int (Int32.ofNat i)), .val (.int (Int32.ofNat n))] [gFM, (.int (Int32.ofNat n)), (.int (Int32.ofNat i))])) rfl (by rw [hml]; rfl) (argsL := [(.int (Int32.ofNat i)), (.int (Int32.ofNat n)), gFM]) (rest := []) (lenOf own_pd2 rfl) rfl (by show 2 * 0 + _ ≤ _; exact Nat.le_of_eq rfl) (hb hby own_d_jdk_42_method_155_code_5) (fun _ _ => ⟨rfl, e1, (by decide : 0 + 0 ≤ _), (by decide : 0 + 0 ≤ _)⟩)
  dsimp only [Pt.U, Pt.locs, Pt.cells, Pt.slots] at X2 l2 y2 z2 st2 hQ2
  subst l2 y2 z2
  obtain ⟨rfl, Nq2, hh2⟩ := hQ2
  have N2 := Fr.app N0 Nq2
  obtain ⟨fs, hr, hrun, hended, hW, hsame⟩ := X2.leave (v := none) (fun _ => rfl)
  refine ⟨_, _, r0 _ ?_, hrun, hended, _, _, rfl, ?_, ⟨_, rfl⟩, hW, hsame.mono (by decide) (by decide)⟩
  · show Steps p.tables e below (s₁.setTop (mkF m 0 #[.val (.int (Int32.ofNat i)), .val (.int (Int32.ofNat n))] [])) _
    refine XS.iloadN X0.here hx rfl (hb hby own_d_jdk_42_method_155_code_0) rfl ?_
    show Steps p.tables e below (s₁.setTop (mkF m 1 #[.val (.int (Int32.ofNat i)), .val (.int (Int32.ofNat n))] [(.int (Int32.ofNat i))])) _
    refine XS.iloadN X0.here hx rfl (hb hby own_d_jdk_42_method_155_code_1) rfl ?_
    show Steps p.tables e below (s₁.setTop (mkF m 2 #[.val (.int (Int32.ofNat i)), .val (.int (Int32.ofNat n))] [(.int (Int32.ofNat n)), (.int (Int32.ofNat i))])) _
    refine st1 _ ?_
    show Steps p.tables e below (T1.setTop (mkF m 5 #[.val (.int (Int32.ofNat i)), .val (.int (Int32.ofNat n))] [gFM, (.int (Int32.ofNat n)), (.int (Int32.ofNat i))])) _
    refine st2 _ ?_
    show Steps p.tables e below (T2.setTop (mkF m 8 #[.val (.int (Int32.ofNat i)), .val (.int (Int32.ofNat n))] [(.int (Int32.ofNat i))])) _
    refine XS.pop X2.here hx rfl (hb hby own_d_jdk_42_method_155_code_8) rfl rfl ?_
    show Steps p.tables e below (T2.setTop (mkF m 9 #[.val (.int (Int32.ofNat i)), .val (.int (Int32.ofNat n))] [])) _
    exact X2.returnOut hx Bd.returns (hb hby own_d_jdk_42_method_155_code_9) hr
  · show Q_own_schk Z i n gFM h0 n0 _ T2.heap _
    rw [hh2]
    exact ⟨rfl, N2, rfl⟩
theorem own_pn_own_l1ch : plainName "java/lang/StringLatin1" = true := by first | (simp [plainName, overriddenIn]; done) | decide +kernel
theorem own_ef_own_l1ch (m : MethodId) (ty : Addr) (i : Nat) : entryFrame m #[(.ref ty), (.int (Int32.ofNat i))] 2 = mkF m 0 #[.val (.ref ty), .val (.int (Int32.ofNat i))] [] := by first | (simp [entryFrame, mkF, argsToLocals, own_cI, own_cJ, own_cR, own_cN]; done) | rfl
abbrev own_F_own_l1ch (m : MethodId) (ty : Addr) (i : Nat) : JFrame := entryFrame m #[(.ref ty), (.int (Int32.ofNat i))] 2
def Q_own_l1ch (Z : State) (ty : Addr) (ky : ClassId) (ds : List Int32) (i : Nat) (gFM : Value) (h0 : Heap) (n0 : Nat) (v : Option Value) (h : Heap) (L : List Loc) : Prop := v = some (.int (ds.getD i 0)) ∧ Fr n0 L ∧ h = h0
set_option maxRecDepth 65536 in
set_option maxHeartbeats 40000000 in
theorem own_l1ch (l : Launch) (Z : State) (a0 : Array Value) (hw : ∀ d ∈ tables_1, d.before a0 Z = true) (ws : List Jvm.Cond) (ty : Addr) (ky : ClassId) (ds : List Int32) (i : Nat) (gFM : Value) (h0 : Heap) (n0 : Nat) (O0 : Old Z n0 h0) (hp0 : Arv Z h0 ty ky .byte (Int32.ofNat ds.length) ((ds.map fun c => c.toInt8.toInt32).map Value.int) (.int (0 : Int32))) (hrg : ∀ c ∈ ds, ¬ c < 0 ∧ ¬ (255 : Int32) < c) (hin : i < ds.length) (hn4 : ds.length ≤ 4000) (hp4 : Sta Z Z.heap "jdk/internal/util/Preconditions" "SIOOBE_FORMATTER" "Ljava/util/function/BiFunction;" gFM) (hG3 : gFM.isRef = true) :
    MetFree l (⟨"java/lang/StringLatin1", "charAt", "([BI)C"⟩ : MethodName) (head1 (Jvm.Cond.code (⟨"java/lang/StringLatin1", "charAt", "([BI)C"⟩ : MethodName) jdk_43_method_2_code 2 (some .char) :: ws) ({ frames := 2, cells := 0, slots := 0, locals := 27 } : Room)) (fun aa_ U_ => aa_ = #[(.ref ty), (.int (Int32.ofNat i))] ∧ Z.Warmed39 U_.vm ∧ U_.heap = h0) (fun _ _ _ _ _ => True) (fun _ U_ o_ V_ => ∃ v_ L_, o_ = .returned v_ ∧ Q_own_l1ch Z ty ky ds i gFM h0 n0 v_ V_.heap L_ ∧ FrameEnd U_ o_ V_ L_ ({ frames := 2, cells := 0, slots := 0, locals := 27 } : Room).cells ({ frames := 2, cells := 0, slots := 0, locals := 27 } : Room).slots) := by
  refine MetFree.of_bodySF (plainFor_of_name own_pn_own_l1ch) hisR ?_
  intro p e s m args below meth c s₁ Bd hml0 hP hK
  obtain ⟨rfl, hZ, hh⟩ := hP
  have hx := Bd.exec
  have hby := Bd.bytes
  have hml : c.maxLocals = 2 := hml0
  have hown : s.vm.findClass "java/lang/StringLatin1" = some m.cls := findClass_of_methodNamed Bd.named
  have hnm := (name_of_methodNamed Bd.named Bd.method).1
  have X0 : Stand p l e ({ frames := 2, cells := 0, slots := 0, locals := 27 } : Room) s m #[(.ref ty), (.int (Int32.ofNat i))] below meth c s₁ [] 0 0 := Stand.of_body Bd
  have e0 : s₁.heap = h0 := by rw [← hh, Bd.state]; rfl
  have N0 := Fr.nil n0
  have K0 : Keep h0 h0 [] := Keep.refl _ _
  have r0 : GoTo p.tables e below s₁ (own_F_own_l1ch m ty i) s₁ (mkF m 0 #[.val (.ref ty), .val (.int (Int32.ofNat i))] []) := fun tt_ kk_ => castTop (own_ef_own_l1ch m ty i) kk_
  obtain ⟨cl1, Ar1, q1, S1, NN1, H1, G1⟩ := id hp0
  obtain ⟨_, _, ⟨T2, L2, k2, n2⟩, -, X2, ⟨Lc2, hQ2, l2, y2, z2⟩, st2⟩ := Jvm.LawKit.callS X0 hx (y := (⟨"java/lang/String", "checkIndex", "(II)V"⟩ : MethodName)) hown (mvT hZ (hw _ (List.mem_of_getElem? (i := 190) rfl))) (mvT hZ (hw _ (List.mem_of_getElem? (i := 191) rfl))) (mvT hZ (hw _ (List.mem_of_getElem? (i := 27) rfl))) (mvT hZ (hw _ (List.mem_of_getElem? (i := 192) rfl))) (by decide) (backOf (W := 0) (own_schk l Z a0 hw [] (i) (ds.length) (gFM) h0 n0 (O0.keep K0 all0) (hp4) (hG3) (hin) (by omega)) hZ (hw _ (List.mem_of_getElem? (i := 192) rfl)) (hw _ (List.mem_of_getElem? (i := 27) rfl)) (by decide) (by decide)) (g := (mkF m 3 #[.val (.ref ty), .val (.int (Int32.ofNat i))] [(.int (Int32.ofNat ds.length)), (.int (Int32.ofNat i))])) rfl (by rw [hml]; rfl) (argsL := [(.int (Int32.ofNat i)), (.int (Int32.ofNat ds.length))]) (rest := []) (lenOf own_pd3 rfl) rfl (by show 2 * 0 + _ ≤ _; exact Nat.le_of_eq rfl) (hb hby own_d_jdk_43_method_2_code_3) (fun _ _ => ⟨rfl, e0, (by decide : 0 + 0 ≤ _), (by decide : 0 + 0 ≤ _)⟩)
  dsimp only [Pt.U, Pt.locs, Pt.cells, Pt.slots] at X2 l2 y2 z2 st2 hQ2
  subst l2 y2 z2
  obtain ⟨rfl, Nq2, hh2⟩ := hQ2
  have N2 := Fr.app N0 Nq2
  obtain ⟨cl3, Ar3, q3, S3, NN3, H3, G3⟩ := id hp0
  have hin3 : ¬ ((Int32.ofNat i) < 0 ∨ cl3.slots.size ≤ ((Int32.ofNat i)).toNatClampNeg) := inb_of S3 ⟨own_negN (by omega), (own_ltN (by omega) (by omega)).mpr hin⟩
  obtain ⟨fs, hr, hrun, hended, hW, hsame⟩ := X2.leave (v := some (.int (nar .char ((((ds.getD i 0).toInt8.toInt32) &&& (255 : Int32)).toUInt32.toUInt16.toUInt32.toInt32)))) (fun h => by rw [Bd.returns] at h; cases h)
  refine ⟨_, _, r0 _ ?_, hrun, hended, _, _, rfl, ?_, ⟨_, rfl⟩, hW, hsame.mono (by decide) (by decide)⟩
  · show Steps p.tables e below (s₁.setTop (mkF m 0 #[.val (.ref ty), .val (.int (Int32.ofNat i))] [])) _
    refine XS.iloadN X0.here hx rfl (hb hby own_d_jdk_43_method_2_code_0) rfl ?_
    show Steps p.tables e below (s₁.setTop (mkF m 1 #[.val (.ref ty), .val (.int (Int32.ofNat i))] [(.int (Int32.ofNat i))])) _
    refine XS.aloadN X0.here hx rfl (hb hby own_d_jdk_43_method_2_code_1) rfl rfl ?_
    show Steps p.tables e below (s₁.setTop (mkF m 2 #[.val (.ref ty), .val (.int (Int32.ofNat i))] [(.ref ty), (.int (Int32.ofNat i))])) _
    refine X0.arraylength hx (by rw [e0]; exact Ar1.1) (State.isArrayOf_alike hZ.alike Ar1.2.1) (g := (mkF m 2 #[.val (.ref ty), .val (.int (Int32.ofNat i))] [(.ref ty), (.int (Int32.ofNat i))])) rfl rfl (hb hby own_d_jdk_43_method_2_code_2) _ ?_
    rw [len_of S1 NN1]
    show Steps p.tables e below (s₁.setTop (mkF m 3 #[.val (.ref ty), .val (.int (Int32.ofNat i))] [(.int (Int32.ofNat ds.length)), (.int (Int32.ofNat i))])) _
    refine st2 _ ?_
    show Steps p.tables e below (T2.setTop (mkF m 6 #[.val (.ref ty), .val (.int (Int32.ofNat i))] [])) _
    refine XS.aloadN X2.here hx rfl (hb hby own_d_jdk_43_method_2_code_6) rfl rfl ?_
    show Steps p.tables e below (T2.setTop (mkF m 7 #[.val (.ref ty), .val (.int (Int32.ofNat i))] [(.ref ty)])) _
    refine XS.iloadN X2.here hx rfl (hb hby own_d_jdk_43_method_2_code_7) rfl ?_
    show Steps p.tables e below (T2.setTop (mkF m 8 #[.val (.ref ty), .val (.int (Int32.ofNat i))] [(.int (Int32.ofNat i)), (.ref ty)])) _
    refine X2.baloadBytes hx (j := (Int32.ofNat i)) (v := (.int ((ds.getD i 0).toInt8.toInt32))) (by rw [hh2]; exact Ar3.1) (State.isArrayOf_alike hZ.alike Ar3.2.1) Ar3.2.2 hin3 (Has.at H3 hin3 (by rw [own_clamp (by omega)]; exact own_map_getD _ _ hin)) (g := (mkF m 8 #[.val (.ref ty), .val (.int (Int32.ofNat i))] [(.int (Int32.ofNat i)), (.ref ty)])) rfl rfl (hb hby own_d_jdk_43_method_2_code_8) _ ?_
    show Steps p.tables e below (T2.setTop (mkF m 9 #[.val (.ref ty), .val (.int (Int32.ofNat i))] [(.int ((ds.getD i 0).toInt8.toInt32))])) _
    refine XS.sipush X2.here hx rfl (hb hby own_d_jdk_43_method_2_code_9) ?_
    show Steps p.tables e below (T2.setTop (mkF m 12 #[.val (.ref ty), .val (.int (Int32.ofNat i))] [(.int (255 : Int32)), (.int ((ds.getD i 0).toInt8.toInt32))])) _
    refine XS.iand X2.here hx rfl (hb hby own_d_jdk_43_method_2_code_12) rfl ?_
    show Steps p.tables e below (T2.setTop (mkF m 13 #[.val (.ref ty), .val (.int (Int32.ofNat i))] [(.int (((ds.getD i 0).toInt8.toInt32) &&& (255 : Int32)))])) _
    refine XS.i2c X2.here hx rfl (hb hby own_d_jdk_43_method_2_code_13) rfl ?_
    show Steps p.tables e below (T2.setTop (mkF m 14 #[.val (.ref ty), .val (.int (Int32.ofNat i))] [(.int ((((ds.getD i 0).toInt8.toInt32) &&& (255 : Int32)).toUInt32.toUInt16.toUInt32.toInt32))])) _
    exact retN X2 hx (t := .char) Bd.returns (by simp) (hb hby own_d_jdk_43_method_2_code_14) hr
  · show Q_own_l1ch Z ty ky ds i gFM h0 n0 _ T2.heap _
    rw [hh2]
    exact ⟨(by rw [(own_chb (own_rngAt hrg hin)).1, (own_chb (own_rngAt hrg hin)).2]), N2, rfl⟩
theorem own_pn_own_chAt : plainName "java/lang/String" = true := by first | (simp [plainName, overriddenIn]; done) | decide +kernel
theorem own_ef_own_chAt (m : MethodId) (y : Addr) (i : Nat) : entryFrame m #[(.ref y), (.int (Int32.ofNat i))] 2 = mkF m 0 #[.val (.ref y), .val (.int (Int32.ofNat i))] [] := by first | (simp [entryFrame, mkF, argsToLocals, own_cI, own_cJ, own_cR, own_cN]; done) | rfl
abbrev own_F_own_chAt (m : MethodId) (y : Addr) (i : Nat) : JFrame := entryFrame m #[(.ref y), (.int (Int32.ofNat i))] 2
def Q_own_chAt (Z : State) (y : Addr) (ty : Addr) (ky : ClassId) (ds : List Int32) (i : Nat) (gCS : Int32) (gFM : Value) (h0 : Heap) (n0 : Nat) (v : Option Value) (h : Heap) (L : List Loc) : Prop := v = some (.int (ds.getD i 0)) ∧ Fr n0 L ∧ h = h0
set_option maxRecDepth 65536 in
set_option maxHeartbeats 40000000 in
theorem own_chAt (l : Launch) (Z : State) (a0 : Array Value) (hw : ∀ d ∈ tables_1, d.before a0 Z = true) (ws : List Jvm.Cond) (y : Addr) (ty : Addr) (ky : ClassId) (ds : List Int32) (i : Nat) (gCS : Int32) (gFM : Value) (h0 : Heap) (n0 : Nat) (O0 : Old Z n0 h0) (hp0 : own_Str Z h0 y ty ky ds) (hin : i < ds.length) (hp2 : Sta Z Z.heap "java/lang/String" "COMPACT_STRINGS" "Z" (.int gCS)) (hG1 : ¬ gCS = (0 : Int32)) (hp4 : Sta Z Z.heap "jdk/internal/util/Preconditions" "SIOOBE_FORMATTER" "Ljava/util/function/BiFunction;" gFM) (hG3 : gFM.isRef = true) :
    MetFree l (⟨"java/lang/String", "charAt", "(I)C"⟩ : MethodName) (head1 (Jvm.Cond.code (⟨"java/lang/String", "charAt", "(I)C"⟩ : MethodName) jdk_42_method_56_code 2 (some .char) :: ws) ({ frames := 3, cells := 0, slots := 0, locals := 40 } : Room)) (fun aa_ U_ => aa_ = #[(.ref y), (.int (Int32.ofNat i))] ∧ Z.Warmed39 U_.vm ∧ U_.heap = h0) (fun _ _ _ _ _ => True) (fun _ U_ o_ V_ => ∃ v_ L_, o_ = .returned v_ ∧ Q_own_chAt Z y ty ky ds i gCS gFM h0 n0 v_ V_.heap L_ ∧ FrameEnd U_ o_ V_ L_ ({ frames := 3, cells := 0, slots := 0, locals := 40 } : Room).cells ({ frames := 3, cells := 0, slots := 0, locals := 40 } : Room).slots) := by
  refine MetFree.of_bodySF (plainFor_of_name own_pn_own_chAt) hisR ?_
  intro p e s m args below meth c s₁ Bd hml0 hP hK
  obtain ⟨rfl, hZ, hh⟩ := hP
  have hx := Bd.exec
  have hby := Bd.bytes
  have hml : c.maxLocals = 2 := hml0
  have hown : s.vm.findClass "java/lang/String" = some m.cls := findClass_of_methodNamed Bd.named
  have hnm := (name_of_methodNamed Bd.named Bd.method).1
  have X0 : Stand p l e ({ frames := 3, cells := 0, slots := 0, locals := 40 } : Room) s m #[(.ref y), (.int (Int32.ofNat i))] below meth c s₁ [] 0 0 := Stand.of_body Bd
  have e0 : s₁.heap = h0 := by rw [← hh, Bd.state]; rfl
  have N0 := Fr.nil n0
  have K0 : Keep h0 h0 [] := Keep.refl _ _
  have r0 : GoTo p.tables e below s₁ (own_F_own_chAt m y i) s₁ (mkF m 0 #[.val (.ref y), .val (.int (Int32.ofNat i))] []) := fun tt_ kk_ => castTop (own_ef_own_chAt m y i) kk_
  have hd4 := hp0.2.2.2.2.2
  obtain ⟨cq1, kq1, qa1, qb1, qc1⟩ := isOf hZ e0 hp0.1
  obtain ⟨_, _, ⟨T1, L1, k1, n1⟩, -, X1, ⟨Lc1, hQ1, l1, y1, z1⟩, st1⟩ := X0.virtualBack hx (y := (⟨"java/lang/String", "isLatin1", "()Z"⟩ : MethodName)) (z := (⟨"java/lang/String", "isLatin1", "()Z"⟩ : MethodName)) hown (mvT hZ (hw _ (List.mem_of_getElem? (i := 181) rfl))) (mvT hZ (hw _ (List.mem_of_getElem? (i := 182) rfl))) (notFace_of_selects (args := #[]) (mvT hZ (hw _ (List.mem_of_getElem? (i := 184) rfl)))) (mvT hZ (hw _ (List.mem_of_getElem? (i := 184) rfl))) (mvT hZ (hw _ (List.mem_of_getElem? (i := 183) rfl))) (by decide) (backOf (W := 0) (own_sisL l Z a0 hw [] (y) (gCS) h0 n0 (O0.keep K0 all0) (hp0.2.2.1) (hp2) (hG1)) hZ (hw _ (List.mem_of_getElem? (i := 185) rfl)) (hw _ (List.mem_of_getElem? (i := 27) rfl)) (by decide) (by decide)) qa1 qc1 (g := (mkF m 1 #[.val (.ref y), .val (.int (Int32.ofNat i))] [(.ref y)])) rfl (by rw [hml]; rfl) (Steps.refl _) (argsL := []) (rest := []) (lenOf own_pd4 rfl) rfl (by show 2 * 0 + _ ≤ _; exact Nat.le_of_eq rfl) (hb hby own_d_jdk_42_method_56_code_1) (fun _ _ => ⟨rfl, e0, (by decide : 0 + 0 ≤ _), (by decide : 0 + 0 ≤ _)⟩)
  dsimp only [Pt.U, Pt.locs, Pt.cells, Pt.slots] at X1 l1 y1 z1 st1 hQ1
  subst l1 y1 z1
  obtain ⟨rfl, Nq1, hh1⟩ := hQ1
  have N1 := Fr.app N0 Nq1
  obtain ⟨T2, X2, e2, st2⟩ := getF X1 hx hZ hown (host := "") (Or.inl (hw _ (List.mem_of_getElem? (i := 50) rfl))) Via.refl hh1 hp0.2.1 (g := (mkF m 8 #[.val (.ref y), .val (.int (Int32.ofNat i))] [(.ref y)])) rfl rfl (hb hby own_d_jdk_42_method_56_code_8)
  obtain ⟨_, _, ⟨T3, L3, k3, n3⟩, -, X3, ⟨Lc3, hQ3, l3, y3, z3⟩, st3⟩ := Jvm.LawKit.callS X2 hx (y := (⟨"java/lang/StringLatin1", "charAt", "([BI)C"⟩ : MethodName)) hown (mvT hZ (hw _ (List.mem_of_getElem? (i := 186) rfl))) (mvT hZ (hw _ (List.mem_of_getElem? (i := 187) rfl))) (mvT hZ (hw _ (List.mem_of_getElem? (i := 188) rfl))) (mvT hZ (hw _ (List.mem_of_getElem? (i := 189) rfl))) (by decide) (backOf (W := 0) (own_l1ch l Z a0 hw [] (ty) (ky) (ds) (i) (gFM) h0 n0 (O0.keep K0 all0) (hp0.2.2.2.1) (hp0.2.2.2.2.1) (hin) (hd4) (hp4) (hG3)) hZ (hw _ (List.mem_of_getElem? (i := 189) rfl)) (hw _ (List.mem_of_getElem? (i := 188) rfl)) (by decide) (by decide)) (g := (mkF m 12 #[.val (.ref y), .val (.int (Int32.ofNat i))] [(.int (Int32.ofNat i)), (.ref ty)])) rfl (by rw [hml]; rfl) (argsL := [(.ref ty), (.int (Int32.ofNat i))]) (rest := []) (lenOf own_pd5 rfl) rfl (by show 2 * 0 + _ ≤ _; exact Nat.le_of_eq rfl) (hb hby own_d_jdk_42_method_56_code_12) (fun _ _ => ⟨rfl, e2, (by decide : 0 + 0 ≤ _), (by decide : 0 + 0 ≤ _)⟩)
  dsimp only [Pt.U, Pt.locs, Pt.cells, Pt.slots] at X3 l3 y3 z3 st3 hQ3
  subst l3 y3 z3
  obtain ⟨rfl, Nq3, hh3⟩ := hQ3
  have N3 := Fr.app N1 Nq3
  obtain ⟨fs, hr, hrun, hended, hW, hsame⟩ := X3.leave (v := some (.int (nar .char (ds.getD i 0)))) (fun h => by rw [Bd.returns] at h; cases h)
  refine ⟨_, _, r0 _ ?_, hrun, hended, _, _, rfl, ?_, ⟨_, rfl⟩, hW, hsame.mono (by decide) (by decide)⟩
  · show Steps p.tables e below (s₁.setTop (mkF m 0 #[.val (.ref y), .val (.int (Int32.ofNat i))] [])) _
    refine XS.aloadN X0.here hx rfl (hb hby own_d_jdk_42_method_56_code_0) rfl rfl ?_
    show Steps p.tables e below (s₁.setTop (mkF m 1 #[.val (.ref y), .val (.int (Int32.ofNat i))] [(.ref y)])) _
    refine st1.trans ?_
    show Steps p.tables e below (T1.setTop (mkF m 4 #[.val (.ref y), .val (.int (Int32.ofNat i))] [(.int (1 : Int32))])) _
    refine XS.ifNo X1.here hx rfl (hb hby own_d_jdk_42_method_56_code_4) rfl ((if0 _ _).trans (feq (by decide)).1) ?_
    show Steps p.tables e below (T1.setTop (mkF m 7 #[.val (.ref y), .val (.int (Int32.ofNat i))] [])) _
    refine XS.aloadN X1.here hx rfl (hb hby own_d_jdk_42_method_56_code_7) rfl rfl ?_
    show Steps p.tables e below (T1.setTop (mkF m 8 #[.val (.ref y), .val (.int (Int32.ofNat i))] [(.ref y)])) _
    refine st2 _ ?_
    show Steps p.tables e below (T2.setTop (mkF m 11 #[.val (.ref y), .val (.int (Int32.ofNat i))] [(.ref ty)])) _
    refine XS.iloadN X2.here hx rfl (hb hby own_d_jdk_42_method_56_code_11) rfl ?_
    show Steps p.tables e below (T2.setTop (mkF m 12 #[.val (.ref y), .val (.int (Int32.ofNat i))] [(.int (Int32.ofNat i)), (.ref ty)])) _
    refine st3 _ ?_
    show Steps p.tables e below (T3.setTop (mkF m 15 #[.val (.ref y), .val (.int (Int32.ofNat i))] [(.int (ds.getD i 0))])) _
    exact retN X3 hx (t := .char) Bd.returns (by simp) (hb hby own_d_jdk_42_method_56_code_15) hr
  · show Q_own_chAt Z y ty ky ds i gCS gFM h0 n0 _ T3.heap _
    rw [hh3]
    exact ⟨(by rw [(own_chb (own_rngAt hp0.2.2.2.2.1 hin)).2]), N3, rfl⟩
theorem own_pn_own_infl : plainName "java/lang/AbstractStringBuilder" = true := by first | (simp [plainName, overriddenIn]; done) | decide +kernel
theorem own_ef_own_infl (m : MethodId) (b : Addr) (y : Addr) : entryFrame m #[(.ref b), (.ref y)] 2 = mkF m 0 #[.val (.ref b), .val (.ref y)] [] := by first | (simp [entryFrame, mkF, argsToLocals, own_cI, own_cJ, own_cR, own_cN]; done) | rfl
abbrev own_F_own_infl (m : MethodId) (b : Addr) (y : Addr) : JFrame := entryFrame m #[(.ref b), (.ref y)] 2
def Q_own_infl (Z : State) (b : Addr) (y : Addr) (gCS : Int32) (h0 : Heap) (n0 : Nat) (v : Option Value) (h : Heap) (L : List Loc) : Prop := v = none ∧ Fr n0 L ∧ h = h0
set_option maxRecDepth 65536 in
set_option maxHeartbeats 40000000 in
theorem own_infl (l : Launch) (Z : State) (a0 : Array Value) (hw : ∀ d ∈ tables_1, d.before a0 Z = true) (ws : List Jvm.Cond) (b : Addr) (y : Addr) (gCS : Int32) (h0 : Heap) (n0 : Nat) (O0 : Old Z n0 h0) (hp0 : Exa Z h0 y "java/lang/String") (hp1 : Fld Z h0 b "java/lang/AbstractStringBuilder" "coder" "B" (.int (0 : Int32))) (hp2 : Fld Z h0 y "java/lang/String" "coder" "B" (.int (0 : Int32))) (hp3 : Sta Z Z.heap "java/lang/String" "COMPACT_STRINGS" "Z" (.int gCS)) (hG1 : ¬ gCS = (0 : Int32)) :
    MetFree l (⟨"java/lang/AbstractStringBuilder", "inflateIfNeededFor", "(Ljava/lang/String;)V"⟩ : MethodName) (head1 (Jvm.Cond.code (⟨"java/lang/AbstractStringBuilder", "inflateIfNeededFor", "(Ljava/lang/String;)V"⟩ : MethodName) jdk_68_method_71_code 2 none :: ws) ({ frames := 1, cells := 0, slots := 0, locals := 13 } : Room)) (fun aa_ U_ => aa_ = #[(.ref b), (.ref y)] ∧ Z.Warmed39 U_.vm ∧ U_.heap = h0) (fun _ _ _ _ _ => True) (fun _ U_ o_ V_ => ∃ v_ L_, o_ = .returned v_ ∧ Q_own_infl Z b y gCS h0 n0 v_ V_.heap L_ ∧ FrameEnd U_ o_ V_ L_ ({ frames := 1, cells := 0, slots := 0, locals := 13 } : Room).cells ({ frames := 1, cells := 0, slots := 0, locals := 13 } : Room).slots) := by
  refine MetFree.of_bodySF (plainFor_of_name own_pn_own_infl) hisR ?_
  intro p e s m args below meth c s₁ Bd hml0 hP hK
  obtain ⟨rfl, hZ, hh⟩ := hP
  have hx := Bd.exec
  have hby := Bd.bytes
  have hml : c.maxLocals = 2 := hml0
  have hown : s.vm.findClass "java/lang/AbstractStringBuilder" = some m.cls := findClass_of_methodNamed Bd.named
  have hnm := (name_of_methodNamed Bd.named Bd.method).1
  have X0 : Stand p l e ({ frames := 1, cells := 0, slots := 0, locals := 13 } : Room) s m #[(.ref b), (.ref y)] below meth c s₁ [] 0 0 := Stand.of_body Bd
  have e0 : s₁.heap = h0 := by rw [← hh, Bd.state]; rfl
  have N0 := Fr.nil n0
  have K0 : Keep h0 h0 [] := Keep.refl _ _
  have r0 : GoTo p.tables e below s₁ (own_F_own_infl m b y) s₁ (mkF m 0 #[.val (.ref b), .val (.ref y)] []) := fun tt_ kk_ => castTop (own_ef_own_infl m b y) kk_
  obtain ⟨T1, X1, e1, st1⟩ := getS2 X0 hx hZ hown (host := "") (Or.inl (hw _ (List.mem_of_getElem? (i := 26) rfl))) Via.refl e0 (hp3.ext (O0.keep K0 all0).2) (g := (mkF m 0 #[.val (.ref b), .val (.ref y)] [])) rfl (hb hby own_d_jdk_68_method_71_code_0)
  obtain ⟨T2, X2, e2, st2⟩ := getF X1 hx hZ hown (host := "") (Or.inl (hw _ (List.mem_of_getElem? (i := 31) rfl))) Via.refl e1 hp1 (g := (mkF m 7 #[.val (.ref b), .val (.ref y)] [(.ref b)])) rfl rfl (hb hby own_d_jdk_68_method_71_code_7)
  obtain ⟨cq3, kq3, qa3, qb3, qc3⟩ := isOf hZ e2 hp0
  obtain ⟨_, _, ⟨T3, L3, k3, n3⟩, -, X3, ⟨Lc3, hQ3, l3, y3, z3⟩, st3⟩ := X2.virtualBack hx (y := (⟨"java/lang/String", "coder", "()B"⟩ : MethodName)) (z := (⟨"java/lang/String", "coder", "()B"⟩ : MethodName)) hown (mvT hZ (hw _ (List.mem_of_getElem? (i := 77) rfl))) (mvT hZ (hw _ (List.mem_of_getElem? (i := 53) rfl))) (notFace_of_selects (args := #[]) (mvT hZ (hw _ (List.mem_of_getElem? (i := 55) rfl)))) (mvT hZ (hw _ (List.mem_of_getElem? (i := 55) rfl))) (mvT hZ (hw _ (List.mem_of_getElem? (i := 54) rfl))) (by decide) (backOf (W := 1) (own_coder l Z a0 hw [] (y) (gCS) h0 n0 (O0.keep K0 all0) (hp2) (hp3) (hG1)) hZ (hw _ (List.mem_of_getElem? (i := 56) rfl)) (hw _ (List.mem_of_getElem? (i := 27) rfl)) (by decide) (by decide)) qa3 qc3 (g := (mkF m 11 #[.val (.ref b), .val (.ref y)] [(.ref y), (.int (0 : Int32))])) rfl (by rw [hml]; rfl) (Steps.refl _) (argsL := []) (rest := [(.int (0 : Int32))]) (lenOf own_pd1 rfl) rfl (by show 2 * 0 + _ ≤ _; exact Nat.le_of_eq rfl) (hb hby own_d_jdk_68_method_71_code_11) (fun _ _ => ⟨rfl, e2, (by decide : 0 + 0 ≤ _), (by decide : 0 + 0 ≤ _)⟩)
  dsimp only [Pt.U, Pt.locs, Pt.cells, Pt.slots] at X3 l3 y3 z3 st3 hQ3
  subst l3 y3 z3
  obtain ⟨rfl, Nq3, hh3⟩ := hQ3
  have N3 := Fr.app N0 Nq3
  obtain ⟨fs, hr, hrun, hended, hW, hsame⟩ := X3.leave (v := none) (fun _ => rfl)
  refine ⟨_, _, r0 _ ?_, hrun, hended, _, _, rfl, ?_, ⟨_, rfl⟩, hW, hsame.mono (by decide) (by decide)⟩
  · show Steps p.tables e below (s₁.setTop (mkF m 0 #[.val (.ref b), .val (.ref y)] [])) _
    refine st1 _ ?_
    show Steps p.tables e below (T1.setTop (mkF m 3 #[.val (.ref b), .val (.ref y)] [(.int gCS)])) _
    refine XS.ifNo X1.here hx rfl (hb hby own_d_jdk_68_method_71_code_3) rfl ((if0 _ _).trans (feq hG1).1) ?_
    show Steps p.tables e below (T1.setTop (mkF m 6 #[.val (.ref b), .val (.ref y)] [])) _
    refine XS.aloadN X1.here hx rfl (hb hby own_d_jdk_68_method_71_code_6) rfl rfl ?_
    show Steps p.tables e below (T1.setTop (mkF m 7 #[.val (.ref b), .val (.ref y)] [(.ref b)])) _
    refine st2 _ ?_
    show Steps p.tables e below (T2.setTop (mkF m 10 #[.val (.ref b), .val (.ref y)] [(.int (0 : Int32))])) _
    refine XS.aloadN X2.here hx rfl (hb hby own_d_jdk_68_method_71_code_10) rfl rfl ?_
    show Steps p.tables e below (T2.setTop (mkF m 11 #[.val (.ref b), .val (.ref y)] [(.ref y), (.int (0 : Int32))])) _
    refine st3.trans ?_
    show Steps p.tables e below (T3.setTop (mkF m 14 #[.val (.ref b), .val (.ref y)] [(.int (0 : Int32)), (.int (0 : Int32))])) _
    refine XS.icmpYes X3.here hx rfl (pc0 := 14) (pc' := 21) rfl (hb hby own_d_jdk_68_method_71_code_14) rfl (teq rfl).1 (by decide) (by decide) ?_
    show Steps p.tables e below (T3.setTop (mkF m 21 #[.val (.ref b), .val (.ref y)] [])) _
    exact X3.returnOut hx Bd.returns (hb hby own_d_jdk_68_method_71_code_21) hr
  · show Q_own_infl Z b y gCS h0 n0 _ T3.heap _
    rw [hh3]
    exact ⟨rfl, N3, rfl⟩
theorem own_pn_own_getBytes : plainName "java/lang/String" = true := by first | (simp [plainName, overriddenIn]; done) | decide +kernel
theorem own_ef_own_getBytes (m : MethodId) (y : Addr) (d : Addr) (cs : List Int32) : entryFrame m #[(.ref y), (.ref d), (.int (Int32.ofNat cs.length)), (.int (0 : Int32))] 4 = mkF m 0 #[.val (.ref y), .val (.ref d), .val (.int (Int32.ofNat cs.length)), .val (.int (0 : Int32))] [] := by first | (simp [entryFrame, mkF, argsToLocals, own_cI, own_cJ, own_cR, own_cN]; done) | rfl
abbrev own_F_own_getBytes (m : MethodId) (y : Addr) (d : Addr) (cs : List Int32) : JFrame := entryFrame m #[(.ref y), (.ref d), (.int (Int32.ofNat cs.length)), (.int (0 : Int32))] 4
def Q_own_getBytes (Z : State) (y : Addr) (ty : Addr) (ky : ClassId) (ds : List Int32) (d : Addr) (kd : ClassId) (N : Nat) (cs : List Int32) (gCS : Int32) (h0 : Heap) (n0 : Nat) (v : Option Value) (h : Heap) (L : List Loc) : Prop := v = none ∧ Fr n0 L ∧ Keep h0 h [d] ∧ (own_By Z h d kd N (cs ++ ds))
set_option maxRecDepth 65536 in
set_option maxHeartbeats 40000000 in
theorem own_getBytes (l : Launch) (Z : State) (a0 : Array Value) (hw : ∀ d ∈ tables_1, d.before a0 Z = true) (ws : List Jvm.Cond) (y : Addr) (ty : Addr) (ky : ClassId) (ds : List Int32) (d : Addr) (kd : ClassId) (N : Nat) (cs : List Int32) (gCS : Int32) (h0 : Heap) (n0 : Nat) (O0 : Old Z n0 h0) (hp0 : own_Str Z h0 y ty ky ds) (hp1 : own_By Z h0 d kd N cs) (hp2 : n0 ≤ d) (hp3 : ty ≠ d) (hfit : cs.length + ds.length ≤ N) (hp5 : Sta Z Z.heap "java/lang/String" "COMPACT_STRINGS" "Z" (.int gCS)) (hG1 : ¬ gCS = (0 : Int32)) :
    MetFree l (⟨"java/lang/String", "getBytes", "([BIB)V"⟩ : MethodName) (head1 (Jvm.Cond.code (⟨"java/lang/String", "getBytes", "([BIB)V"⟩ : MethodName) jdk_42_method_147_code 4 none :: ws) ({ frames := 1, cells := 0, slots := 0, locals := 18 } : Room)) (fun aa_ U_ => aa_ = #[(.ref y), (.ref d), (.int (Int32.ofNat cs.length)), (.int (0 : Int32))] ∧ Z.Warmed39 U_.vm ∧ U_.heap = h0) (fun _ _ _ _ _ => True) (fun _ U_ o_ V_ => ∃ v_ L_, o_ = .returned v_ ∧ Q_own_getBytes Z y ty ky ds d kd N cs gCS h0 n0 v_ V_.heap L_ ∧ FrameEnd U_ o_ V_ L_ ({ frames := 1, cells := 0, slots := 0, locals := 18 } : Room).cells ({ frames := 1, cells := 0, slots := 0, locals := 18 } : Room).slots) := by
  refine MetFree.of_bodySF (plainFor_of_name own_pn_own_getBytes) hisR ?_
  intro p e s m args below meth c s₁ Bd hml0 hP hK
  obtain ⟨rfl, hZ, hh⟩ := hP
  have hx := Bd.exec
  have hby := Bd.bytes
  have hml : c.maxLocals = 4 := hml0
  have hown : s.vm.findClass "java/lang/String" = some m.cls := findClass_of_methodNamed Bd.named
  have hnm := (name_of_methodNamed Bd.named Bd.method).1
  have X0 : Stand p l e ({ frames := 1, cells := 0, slots := 0, locals := 18 } : Room) s m #[(.ref y), (.ref d), (.int (Int32.ofNat cs.length)), (.int (0 : Int32))] below meth c s₁ [] 0 0 := Stand.of_body Bd
  have e0 : s₁.heap = h0 := by rw [← hh, Bd.state]; rfl
  have N0 := Fr.nil n0
  have K0 : Keep h0 h0 [d] := Keep.refl _ _
  have r0 : GoTo p.tables e below s₁ (own_F_own_getBytes m y d cs) s₁ (mkF m 0 #[.val (.ref y), .val (.ref d), .val (.int (Int32.ofNat cs.length)), .val (.int (0 : Int32))] []) := fun tt_ kk_ => castTop (own_ef_own_getBytes m y d cs) kk_
  obtain ⟨vs1, hvl1, hva1, hvc1⟩ := own_By.arv hp1
  have hN6 := hp1.2.2.1
  have hc6 : cs.length ≤ 1000000 := by omega
  have hd6 : ds.length ≤ 1000000 := by omega
  obtain ⟨cq2, kq2, qa2, qb2, qc2⟩ := isOf hZ e0 hp0.1
  obtain ⟨_, _, ⟨T2, L2, k2, n2⟩, -, X2, ⟨Lc2, hQ2, l2, y2, z2⟩, st2⟩ := X0.virtualBack hx (y := (⟨"java/lang/String", "coder", "()B"⟩ : MethodName)) (z := (⟨"java/lang/String", "coder", "()B"⟩ : MethodName)) hown (mvT hZ (hw _ (List.mem_of_getElem? (i := 52) rfl))) (mvT hZ (hw _ (List.mem_of_getElem? (i := 53) rfl))) (notFace_of_selects (args := #[]) (mvT hZ (hw _ (List.mem_of_getElem? (i := 55) rfl)))) (mvT hZ (hw _ (List.mem_of_getElem? (i := 55) rfl))) (mvT hZ (hw _ (List.mem_of_getElem? (i := 54) rfl))) (by decide) (backOf (W := 0) (own_coder l Z a0 hw [] (y) (gCS) h0 n0 (O0.keep K0 (allS hp2 all0)) (hp0.2.2.1) (hp5) (hG1)) hZ (hw _ (List.mem_of_getElem? (i := 56) rfl)) (hw _ (List.mem_of_getElem? (i := 27) rfl)) (by decide) (by decide)) qa2 qc2 (g := (mkF m 1 #[.val (.ref y), .val (.ref d), .val (.int (Int32.ofNat cs.length)), .val (.int (0 : Int32))] [(.ref y)])) rfl (by rw [hml]; rfl) (Steps.refl _) (argsL := []) (rest := []) (lenOf own_pd1 rfl) rfl (by show 2 * 0 + _ ≤ _; exact Nat.le_of_eq rfl) (hb hby own_d_jdk_42_method_147_code_1) (fun _ _ => ⟨rfl, e0, (by decide : 0 + 0 ≤ _), (by decide : 0 + 0 ≤ _)⟩)
  dsimp only [Pt.U, Pt.locs, Pt.cells, Pt.slots] at X2 l2 y2 z2 st2 hQ2
  subst l2 y2 z2
  obtain ⟨rfl, Nq2, hh2⟩ := hQ2
  have N2 := Fr.app N0 Nq2
  obtain ⟨T3, X3, e3, st3⟩ := getF X2 hx hZ hown (host := "") (Or.inl (hw _ (List.mem_of_getElem? (i := 50) rfl))) Via.refl hh2 hp0.2.1 (g := (mkF m 9 #[.val (.ref y), .val (.ref d), .val (.int (Int32.ofNat cs.length)), .val (.int (0 : Int32))] [(.ref y)])) rfl rfl (hb hby own_d_jdk_42_method_147_code_9)
  have r4 : GoTo p.tables e below s₁ (own_F_own_getBytes m y d cs) T3 (mkF m 17 #[.val (.ref y), .val (.ref d), .val (.int (Int32.ofNat cs.length)), .val (.int (0 : Int32))] [(.int ((Int32.ofNat cs.length) <<< ((0 : Int32) &&& 31))), (.ref d), (.int (0 : Int32)), (.ref ty)]) := fun tt_ kk_ => r0 tt_ (by
      show Steps p.tables e below (s₁.setTop (mkF m 0 #[.val (.ref y), .val (.ref d), .val (.int (Int32.ofNat cs.length)), .val (.int (0 : Int32))] [])) _
      refine XS.aloadN X0.here hx rfl (hb hby own_d_jdk_42_method_147_code_0) rfl rfl ?_
      show Steps p.tables e below (s₁.setTop (mkF m 1 #[.val (.ref y), .val (.ref d), .val (.int (Int32.ofNat cs.length)), .val (.int (0 : Int32))] [(.ref y)])) _
      refine st2.trans ?_
      show Steps p.tables e below (T2.setTop (mkF m 4 #[.val (.ref y), .val (.ref d), .val (.int (Int32.ofNat cs.length)), .val (.int (0 : Int32))] [(.int (0 : Int32))])) _
      refine XS.iloadN X2.here hx rfl (hb hby own_d_jdk_42_method_147_code_4) rfl ?_
      show Steps p.tables e below (T2.setTop (mkF m 5 #[.val (.ref y), .val (.ref d), .val (.int (Int32.ofNat cs.length)), .val (.int (0 : Int32))] [(.int (0 : Int32)), (.int (0 : Int32))])) _
      refine XS.icmpNo X2.here hx rfl (hb hby own_d_jdk_42_method_147_code_5) rfl (teq rfl).2 ?_
      show Steps p.tables e below (T2.setTop (mkF m 8 #[.val (.ref y), .val (.ref d), .val (.int (Int32.ofNat cs.length)), .val (.int (0 : Int32))] [])) _
      refine XS.aloadN X2.here hx rfl (hb hby own_d_jdk_42_method_147_code_8) rfl rfl ?_
      show Steps p.tables e below (T2.setTop (mkF m 9 #[.val (.ref y), .val (.ref d), .val (.int (Int32.ofNat cs.length)), .val (.int (0 : Int32))] [(.ref y)])) _
      refine st3 _ ?_
      show Steps p.tables e below (T3.setTop (mkF m 12 #[.val (.ref y), .val (.ref d), .val (.int (Int32.ofNat cs.length)), .val (.int (0 : Int32))] [(.ref ty)])) _
      refine XS.iconst X3.here hx rfl (hb hby own_d_jdk_42_method_147_code_12) ?_
      show Steps p.tables e below (T3.setTop (mkF m 13 #[.val (.ref y), .val (.ref d), .val (.int (Int32.ofNat cs.length)), .val (.int (0 : Int32))] [(.int (0 : Int32)), (.ref ty)])) _
      refine XS.aloadN X3.here hx rfl (hb hby own_d_jdk_42_method_147_code_13) rfl rfl ?_
      show Steps p.tables e below (T3.setTop (mkF m 14 #[.val (.ref y), .val (.ref d), .val (.int (Int32.ofNat cs.length)), .val (.int (0 : Int32))] [(.ref d), (.int (0 : Int32)), (.ref ty)])) _
      refine XS.iloadN X3.here hx rfl (hb hby own_d_jdk_42_method_147_code_14) rfl ?_
      show Steps p.tables e below (T3.setTop (mkF m 15 #[.val (.ref y), .val (.ref d), .val (.int (Int32.ofNat cs.length)), .val (.int (0 : Int32))] [(.int (Int32.ofNat cs.length)), (.ref d), (.int (0 : Int32)), (.ref ty)])) _
      refine XS.iloadN X3.here hx rfl (hb hby own_d_jdk_42_method_147_code_15) rfl ?_
      show Steps p.tables e below (T3.setTop (mkF m 16 #[.val (.ref y), .val (.ref d), .val (.int (Int32.ofNat cs.length)), .val (.int (0 : Int32))] [(.int (0 : Int32)), (.int (Int32.ofNat cs.length)), (.ref d), (.int (0 : Int32)), (.ref ty)])) _
      refine XS.ishl X3.here hx rfl (hb hby own_d_jdk_42_method_147_code_16) rfl ?_
      show Steps p.tables e below (T3.setTop (mkF m 17 #[.val (.ref y), .val (.ref d), .val (.int (Int32.ofNat cs.length)), .val (.int (0 : Int32))] [(.int ((Int32.ofNat cs.length) <<< ((0 : Int32) &&& 31))), (.ref d), (.int (0 : Int32)), (.ref ty)])) _
      exact kk_)
  have r5 : GoTo p.tables e below s₁ (own_F_own_getBytes m y d cs) T3 (mkF m 17 #[.val (.ref y), .val (.ref d), .val (.int (Int32.ofNat cs.length)), .val (.int (0 : Int32))] [(.int (Int32.ofNat cs.length)), (.ref d), (.int (0 : Int32)), (.ref ty)]) := Eq.mp (congrArg (fun zz_ => GoTo p.tables e below s₁ (own_F_own_getBytes m y d cs) T3 (mkF m 17 #[.val (.ref y), .val (.ref d), .val (.int (Int32.ofNat cs.length)), .val (.int (0 : Int32))] [(.int zz_), (.ref d), (.int (0 : Int32)), (.ref ty)])) (show ((Int32.ofNat cs.length) <<< ((0 : Int32) &&& 31)) = (Int32.ofNat cs.length) from own_shl0 _)) r4
  obtain ⟨T6, X6, e6, st6⟩ := getF X3 hx hZ hown (host := "") (Or.inl (hw _ (List.mem_of_getElem? (i := 50) rfl))) Via.refl e3 hp0.2.1 (g := (mkF m 18 #[.val (.ref y), .val (.ref d), .val (.int (Int32.ofNat cs.length)), .val (.int (0 : Int32))] [(.ref y), (.int (Int32.ofNat cs.length)), (.ref d), (.int (0 : Int32)), (.ref ty)])) rfl rfl (hb hby own_d_jdk_42_method_147_code_18)
  obtain ⟨cl7, Ar7, q7, S7, NN7, H7, G7⟩ := id hp0.2.2.2.1
  obtain ⟨us8, hus8⟩ : ∃ us : List Value, us = (List.range ds.length).map fun i => (((ds.map fun c => c.toInt8.toInt32).map Value.int)).getD (0 + i) (.int 0) := ⟨_, rfl⟩
  obtain ⟨T8, h8, L8, X8, e8, N8, Kc8, V8, st8⟩ := cpA X6 hx hZ hown (hw _ (List.mem_of_getElem? (i := 83) rfl)) (hw _ (List.mem_of_getElem? (i := 86) rfl)) (hw _ (List.mem_of_getElem? (i := 84) rfl)) (hw _ (List.mem_of_getElem? (i := 85) rfl)) e6 (us := us8) hp0.2.2.2.1 hva1 (Or.inl ⟨rfl, rfl⟩) (own_negN (by decide : (0 : Nat) ≤ 1000000)) (own_negN hc6) (own_negN hd6) (by have q0 : (Int32.ofNat 0).toNatClampNeg = 0 := rfl; have q0' : (0 : Int32).toNatClampNeg = 0 := rfl; have q1 := own_clamp hd6; (try simp only [List.length_replicate]); omega) (by have q0 : (Int32.ofNat 0).toNatClampNeg = 0 := rfl; have q0' : (0 : Int32).toNatClampNeg = 0 := rfl; have q1 := own_clamp hc6; have q2 := own_clamp hd6; have q3 := own_clamp hN6; (try simp only [List.length_replicate]); omega) (by rw [own_clamp hd6, own_clamp (by decide : (0 : Nat) ≤ 1000000)]; exact hus8) (by have q0 : (Int32.ofNat 0).toNatClampNeg = 0 := rfl; have q0' : (0 : Int32).toNatClampNeg = 0 := rfl; have q1 := own_clamp hc6; have q2 := own_clamp hd6; have qv := hvl1; (try simp only [List.length_replicate]); omega) N2 hp2 (g := (mkF m 22 #[.val (.ref y), .val (.ref d), .val (.int (Int32.ofNat cs.length)), .val (.int (0 : Int32))] [(.int (Int32.ofNat ds.length)), (.int (Int32.ofNat cs.length)), (.ref d), (.int (0 : Int32)), (.ref ty)])) rfl (by rw [hml]; rfl) rfl (hb hby own_d_jdk_42_method_147_code_22) (by decide) (W := 0) (by show 2 * 0 + _ ≤ _; exact Nat.le_of_eq rfl) (by decide)
  rw [own_clamp hc6, own_clamp hd6] at V8
  have K9 : Keep h0 h8 [d] := K0.trans Kc8 (allS (Or.inl (List.mem_of_getElem? (i := 0) rfl)) all0)
  have f10 : Exa Z h8 d "[B" := (hp1.1.keep Kc8)
  obtain ⟨fs, hr, hrun, hended, hW, hsame⟩ := X8.leave (v := none) (fun _ => rfl)
  refine ⟨_, _, r5 _ ?_, hrun, hended, _, _, rfl, ?_, ⟨_, rfl⟩, hW, hsame.mono (by decide) (by decide)⟩
  · show Steps p.tables e below (T3.setTop (mkF m 17 #[.val (.ref y), .val (.ref d), .val (.int (Int32.ofNat cs.length)), .val (.int (0 : Int32))] [(.int (Int32.ofNat cs.length)), (.ref d), (.int (0 : Int32)), (.ref ty)])) _
    refine XS.aloadN X3.here hx rfl (hb hby own_d_jdk_42_method_147_code_17) rfl rfl ?_
    show Steps p.tables e below (T3.setTop (mkF m 18 #[.val (.ref y), .val (.ref d), .val (.int (Int32.ofNat cs.length)), .val (.int (0 : Int32))] [(.ref y), (.int (Int32.ofNat cs.length)), (.ref d), (.int (0 : Int32)), (.ref ty)])) _
    refine st6 _ ?_
    show Steps p.tables e below (T6.setTop (mkF m 21 #[.val (.ref y), .val (.ref d), .val (.int (Int32.ofNat cs.length)), .val (.int (0 : Int32))] [(.ref ty), (.int (Int32.ofNat cs.length)), (.ref d), (.int (0 : Int32)), (.ref ty)])) _
    refine X6.arraylength hx (by rw [e6]; exact Ar7.1) (State.isArrayOf_alike hZ.alike Ar7.2.1) (g := (mkF m 21 #[.val (.ref y), .val (.ref d), .val (.int (Int32.ofNat cs.length)), .val (.int (0 : Int32))] [(.ref ty), (.int (Int32.ofNat cs.length)), (.ref d), (.int (0 : Int32)), (.ref ty)])) rfl rfl (hb hby own_d_jdk_42_method_147_code_21) _ ?_
    rw [len_of S7 NN7]
    show Steps p.tables e below (T6.setTop (mkF m 22 #[.val (.ref y), .val (.ref d), .val (.int (Int32.ofNat cs.length)), .val (.int (0 : Int32))] [(.int (Int32.ofNat ds.length)), (.int (Int32.ofNat cs.length)), (.ref d), (.int (0 : Int32)), (.ref ty)])) _
    refine st8 _ ?_
    show Steps p.tables e below (T8.setTop (mkF m 25 #[.val (.ref y), .val (.ref d), .val (.int (Int32.ofNat cs.length)), .val (.int (0 : Int32))] [])) _
    refine XS.goto X8.here hx rfl (pc0 := 25) (pc' := 43) rfl (hb hby own_d_jdk_42_method_147_code_25) (by decide) (by decide) ?_
    show Steps p.tables e below (T8.setTop (mkF m 43 #[.val (.ref y), .val (.ref d), .val (.int (Int32.ofNat cs.length)), .val (.int (0 : Int32))] [])) _
    exact X8.returnOut hx Bd.returns (hb hby own_d_jdk_42_method_147_code_43) hr
  · show Q_own_getBytes Z y ty ky ds d kd N cs gCS h0 n0 _ T8.heap _
    rw [e8]
    exact ⟨rfl, N8, K9, own_By.app f10 hN6 hvl1 hfit rfl hus8 hvc1 (own_map_getD ds) V8⟩
theorem own_pn_own_put : plainName "java/lang/AbstractStringBuilder" = true := by first | (simp [plainName, overriddenIn]; done) | decide +kernel
theorem own_ef_own_put (m : MethodId) (b : Addr) (cs : List Int32) (y : Addr) : entryFrame m #[(.ref b), (.int (Int32.ofNat cs.length)), (.ref y)] 3 = mkF m 0 #[.val (.ref b), .val (.int (Int32.ofNat cs.length)), .val (.ref y)] [] := by first | (simp [entryFrame, mkF, argsToLocals, own_cI, own_cJ, own_cR, own_cN]; done) | rfl
abbrev own_F_own_put (m : MethodId) (b : Addr) (cs : List Int32) (y : Addr) : JFrame := entryFrame m #[(.ref b), (.int (Int32.ofNat cs.length)), (.ref y)] 3
def Q_own_put (Z : State) (b : Addr) (d : Addr) (kd : ClassId) (N : Nat) (cs : List Int32) (y : Addr) (ty : Addr) (ky : ClassId) (ds : List Int32) (gCS : Int32) (h0 : Heap) (n0 : Nat) (v : Option Value) (h : Heap) (L : List Loc) : Prop := v = none ∧ Fr n0 L ∧ Keep h0 h [d] ∧ (own_By Z h d kd N (cs ++ ds))
set_option maxRecDepth 65536 in
set_option maxHeartbeats 40000000 in
theorem own_put (l : Launch) (Z : State) (a0 : Array Value) (hw : ∀ d ∈ tables_1, d.before a0 Z = true) (ws : List Jvm.Cond) (b : Addr) (d : Addr) (kd : ClassId) (N : Nat) (cs : List Int32) (y : Addr) (ty : Addr) (ky : ClassId) (ds : List Int32) (gCS : Int32) (h0 : Heap) (n0 : Nat) (O0 : Old Z n0 h0) (hp0 : Exa Z h0 b "java/lang/StringBuilder") (hp1 : Fld Z h0 b "java/lang/AbstractStringBuilder" "value" "[B" (.ref d)) (hp2 : Fld Z h0 b "java/lang/AbstractStringBuilder" "coder" "B" (.int (0 : Int32))) (hp3 : own_By Z h0 d kd N cs) (hp4 : own_Str Z h0 y ty ky ds) (hp5 : n0 ≤ d) (hp6 : ty ≠ d) (hfit : cs.length + ds.length ≤ N) (hp8 : Sta Z Z.heap "java/lang/String" "COMPACT_STRINGS" "Z" (.int gCS)) (hG1 : ¬ gCS = (0 : Int32)) :
    MetFree l (⟨"java/lang/AbstractStringBuilder", "putStringAt", "(ILjava/lang/String;)V"⟩ : MethodName) (head1 (Jvm.Cond.code (⟨"java/lang/AbstractStringBuilder", "putStringAt", "(ILjava/lang/String;)V"⟩ : MethodName) jdk_68_method_73_code 3 none :: ws) ({ frames := 2, cells := 0, slots := 0, locals := 33 } : Room)) (fun aa_ U_ => aa_ = #[(.ref b), (.int (Int32.ofNat cs.length)), (.ref y)] ∧ Z.Warmed39 U_.vm ∧ U_.heap = h0) (fun _ _ _ _ _ => True) (fun _ U_ o_ V_ => ∃ v_ L_, o_ = .returned v_ ∧ Q_own_put Z b d kd N cs y ty ky ds gCS h0 n0 v_ V_.heap L_ ∧ FrameEnd U_ o_ V_ L_ ({ frames := 2, cells := 0, slots := 0, locals := 33 } : Room).cells ({ frames := 2, cells := 0, slots := 0, locals := 33 } : Room).slots) := by
  refine MetFree.of_bodySF (plainFor_of_name own_pn_own_put) hisR ?_
  intro p e s m args below meth c s₁ Bd hml0 hP hK
  obtain ⟨rfl, hZ, hh⟩ := hP
  have hx := Bd.exec
  have hby := Bd.bytes
  have hml : c.maxLocals = 3 := hml0
  have hown : s.vm.findClass "java/lang/AbstractStringBuilder" = some m.cls := findClass_of_methodNamed Bd.named
  have hnm := (name_of_methodNamed Bd.named Bd.method).1
  have X0 : Stand p l e ({ frames := 2, cells := 0, slots := 0, locals := 33 } : Room) s m #[(.ref b), (.int (Int32.ofNat cs.length)), (.ref y)] below meth c s₁ [] 0 0 := Stand.of_body Bd
  have e0 : s₁.heap = h0 := by rw [← hh, Bd.state]; rfl
  have N0 := Fr.nil n0
  have K0 : Keep h0 h0 [d] := Keep.refl _ _
  have r0 : GoTo p.tables e below s₁ (own_F_own_put m b cs y) s₁ (mkF m 0 #[.val (.ref b), .val (.int (Int32.ofNat cs.length)), .val (.ref y)] []) := fun tt_ kk_ => castTop (own_ef_own_put m b cs y) kk_
  obtain ⟨cq1, qa1, qb1⟩ := hp0.cell
  obtain ⟨_, _, ⟨T1, L1, k1, n1⟩, -, X1, ⟨Lc1, hQ1, l1, y1, z1⟩, st1⟩ := X0.privateBack hx (y := (⟨"java/lang/AbstractStringBuilder", "inflateIfNeededFor", "(Ljava/lang/String;)V"⟩ : MethodName)) hown (mvT hZ (hw _ (List.mem_of_getElem? (i := 72) rfl))) (mvT hZ (hw _ (List.mem_of_getElem? (i := 73) rfl))) (own_selfSel (mvT hZ (hw _ (List.mem_of_getElem? (i := 75) rfl))) (Cond.privateMethod_at (mvP hZ (hw _ (List.mem_of_getElem? (i := 74) rfl)) (args := #[]))) (mvT hZ (hw _ (List.mem_of_getElem? (i := 73) rfl))) (by decide)) (Cond.privateMethod_at (mvP hZ (hw _ (List.mem_of_getElem? (i := 74) rfl)) (args := #[]))) (mvT hZ (hw _ (List.mem_of_getElem? (i := 76) rfl))) (by decide) (backOf (W := 0) (own_infl l Z a0 hw [] (b) (y) (gCS) h0 n0 (O0.keep K0 (allS hp5 all0)) (hp4.1) (hp2) (hp4.2.2.1) (hp8) (hG1)) hZ (hw _ (List.mem_of_getElem? (i := 76) rfl)) (hw _ (List.mem_of_getElem? (i := 21) rfl)) (by decide) (by decide)) (g := (mkF m 2 #[.val (.ref b), .val (.int (Int32.ofNat cs.length)), .val (.ref y)] [(.ref y), (.ref b)])) rfl (by rw [hml]; rfl) (Steps.refl _) (a := b) (by rw [e0]; exact qa1) qb1 (argsL := [(.ref y)]) (rest := []) (lenOf own_pd6 rfl) rfl (by show 2 * 0 + _ ≤ _; exact Nat.le_of_eq rfl) (hb hby own_d_jdk_68_method_73_code_2) (fun _ _ => ⟨rfl, e0, (by decide : 0 + 0 ≤ _), (by decide : 0 + 0 ≤ _)⟩)
  dsimp only [Pt.U, Pt.locs, Pt.cells, Pt.slots] at X1 l1 y1 z1 st1 hQ1
  subst l1 y1 z1
  obtain ⟨rfl, Nq1, hh1⟩ := hQ1
  have N1 := Fr.app N0 Nq1
  obtain ⟨T2, X2, e2, st2⟩ := getF X1 hx hZ hown (host := "") (Or.inl (hw _ (List.mem_of_getElem? (i := 29) rfl))) Via.refl hh1 hp1 (g := (mkF m 7 #[.val (.ref b), .val (.int (Int32.ofNat cs.length)), .val (.ref y)] [(.ref b), (.ref y)])) rfl rfl (hb hby own_d_jdk_68_method_73_code_7)
  obtain ⟨T3, X3, e3, st3⟩ := getF X2 hx hZ hown (host := "") (Or.inl (hw _ (List.mem_of_getElem? (i := 31) rfl))) Via.refl e2 hp2 (g := (mkF m 12 #[.val (.ref b), .val (.int (Int32.ofNat cs.length)), .val (.ref y)] [(.ref b), (.int (Int32.ofNat cs.length)), (.ref d), (.ref y)])) rfl rfl (hb hby own_d_jdk_68_method_73_code_12)
  obtain ⟨cq4, kq4, qa4, qb4, qc4⟩ := isOf hZ e3 hp4.1
  obtain ⟨_, _, ⟨T4, L4, k4, n4⟩, -, X4, ⟨Lc4, hQ4, l4, y4, z4⟩, st4⟩ := X3.virtualBack hx (y := (⟨"java/lang/String", "getBytes", "([BIB)V"⟩ : MethodName)) (z := (⟨"java/lang/String", "getBytes", "([BIB)V"⟩ : MethodName)) hown (mvT hZ (hw _ (List.mem_of_getElem? (i := 78) rfl))) (mvT hZ (hw _ (List.mem_of_getElem? (i := 79) rfl))) (notFace_of_selects (args := #[]) (mvT hZ (hw _ (List.mem_of_getElem? (i := 81) rfl)))) (mvT hZ (hw _ (List.mem_of_getElem? (i := 81) rfl))) (mvT hZ (hw _ (List.mem_of_getElem? (i := 80) rfl))) (by decide) (backOf (W := 0) (own_getBytes l Z a0 hw [] (y) (ty) (ky) (ds) (d) (kd) (N) (cs) (gCS) h0 n0 (O0.keep K0 (allS hp5 all0)) (hp4) (hp3) (hp5) (hp6) (hfit) (hp8) (hG1)) hZ (hw _ (List.mem_of_getElem? (i := 82) rfl)) (hw _ (List.mem_of_getElem? (i := 27) rfl)) (by decide) (by decide)) qa4 qc4 (g := (mkF m 15 #[.val (.ref b), .val (.int (Int32.ofNat cs.length)), .val (.ref y)] [(.int (0 : Int32)), (.int (Int32.ofNat cs.length)), (.ref d), (.ref y)])) rfl (by rw [hml]; rfl) (Steps.refl _) (argsL := [(.ref d), (.int (Int32.ofNat cs.length)), (.int (0 : Int32))]) (rest := []) (lenOf own_pd7 rfl) rfl (by show 2 * 0 + _ ≤ _; exact Nat.le_of_eq rfl) (hb hby own_d_jdk_68_method_73_code_15) (fun _ _ => ⟨rfl, e3, (by decide : 0 + 0 ≤ _), (by decide : 0 + 0 ≤ _)⟩)
  dsimp only [Pt.U, Pt.locs, Pt.cells, Pt.slots] at X4 l4 y4 z4 st4 hQ4
  subst l4 y4 z4
  obtain ⟨rfl, Nq4, Kq4, po4_0⟩ := hQ4
  have N4 := Fr.app N1 Nq4
  have K5 : Keep h0 T4.heap [d] := K0.trans Kq4 (allS (Or.inl (List.mem_of_getElem? (i := 0) rfl)) all0)
  obtain ⟨fs, hr, hrun, hended, hW, hsame⟩ := X4.leave (v := none) (fun _ => rfl)
  refine ⟨_, _, r0 _ ?_, hrun, hended, _, _, rfl, ?_, ⟨_, rfl⟩, hW, hsame.mono (by decide) (by decide)⟩
  · show Steps p.tables e below (s₁.setTop (mkF m 0 #[.val (.ref b), .val (.int (Int32.ofNat cs.length)), .val (.ref y)] [])) _
    refine XS.aloadN X0.here hx rfl (hb hby own_d_jdk_68_method_73_code_0) rfl rfl ?_
    show Steps p.tables e below (s₁.setTop (mkF m 1 #[.val (.ref b), .val (.int (Int32.ofNat cs.length)), .val (.ref y)] [(.ref b)])) _
    refine XS.aloadN X0.here hx rfl (hb hby own_d_jdk_68_method_73_code_1) rfl rfl ?_
    show Steps p.tables e below (s₁.setTop (mkF m 2 #[.val (.ref b), .val (.int (Int32.ofNat cs.length)), .val (.ref y)] [(.ref y), (.ref b)])) _
    refine st1.trans ?_
    show Steps p.tables e below (T1.setTop (mkF m 5 #[.val (.ref b), .val (.int (Int32.ofNat cs.length)), .val (.ref y)] [])) _
    refine XS.aloadN X1.here hx rfl (hb hby own_d_jdk_68_method_73_code_5) rfl rfl ?_
    show Steps p.tables e below (T1.setTop (mkF m 6 #[.val (.ref b), .val (.int (Int32.ofNat cs.length)), .val (.ref y)] [(.ref y)])) _
    refine XS.aloadN X1.here hx rfl (hb hby own_d_jdk_68_method_73_code_6) rfl rfl ?_
    show Steps p.tables e below (T1.setTop (mkF m 7 #[.val (.ref b), .val (.int (Int32.ofNat cs.length)), .val (.ref y)] [(.ref b), (.ref y)])) _
    refine st2 _ ?_
    show Steps p.tables e below (T2.setTop (mkF m 10 #[.val (.ref b), .val (.int (Int32.ofNat cs.length)), .val (.ref y)] [(.ref d), (.ref y)])) _
    refine XS.iloadN X2.here hx rfl (hb hby own_d_jdk_68_method_73_code_10) rfl ?_
    show Steps p.tables e below (T2.setTop (mkF m 11 #[.val (.ref b), .val (.int (Int32.ofNat cs.length)), .val (.ref y)] [(.int (Int32.ofNat cs.length)), (.ref d), (.ref y)])) _
    refine XS.aloadN X2.here hx rfl (hb hby own_d_jdk_68_method_73_code_11) rfl rfl ?_
    show Steps p.tables e below (T2.setTop (mkF m 12 #[.val (.ref b), .val (.int (Int32.ofNat cs.length)), .val (.ref y)] [(.ref b), (.int (Int32.ofNat cs.length)), (.ref d), (.ref y)])) _
    refine st3 _ ?_
    show Steps p.tables e below (T3.setTop (mkF m 15 #[.val (.ref b), .val (.int (Int32.ofNat cs.length)), .val (.ref y)] [(.int (0 : Int32)), (.int (Int32.ofNat cs.length)), (.ref d), (.ref y)])) _
    refine st4.trans ?_
    show Steps p.tables e below (T4.setTop (mkF m 18 #[.val (.ref b), .val (.int (Int32.ofNat cs.length)), .val (.ref y)] [])) _
    exact X4.returnOut hx Bd.returns (hb hby own_d_jdk_68_method_73_code_18) hr
  · show Q_own_put Z b d kd N cs y ty ky ds gCS h0 n0 _ T4.heap _
    exact ⟨rfl, N4, K5, po4_0⟩
theorem own_pn_own_aappS : plainName "java/lang/AbstractStringBuilder" = true := by first | (simp [plainName, overriddenIn]; done) | decide +kernel
theorem own_ef_own_aappS (m : MethodId) (b : Addr) (y : Addr) : entryFrame m #[(.ref b), (.ref y)] 3 = mkF m 0 #[.val (.ref b), .val (.ref y), .unset] [] := by first | (simp [entryFrame, mkF, argsToLocals, own_cI, own_cJ, own_cR, own_cN]; done) | rfl
abbrev own_F_own_aappS (m : MethodId) (b : Addr) (y : Addr) : JFrame := entryFrame m #[(.ref b), (.ref y)] 3
def Q_own_aappS (Z : State) (b : Addr) (d : Addr) (kd : ClassId) (N : Nat) (cs : List Int32) (y : Addr) (ty : Addr) (ky : ClassId) (ds : List Int32) (gCS : Int32) (h0 : Heap) (n0 : Nat) (v : Option Value) (h : Heap) (L : List Loc) : Prop := ∃ (d2 : Addr), ∃ (k2 : ClassId), ∃ (N2 : Nat), v = some (.ref b) ∧ Fr n0 L ∧ Keep h0 h [b, d] ∧ (d2 = d ∨ h0.size ≤ d2) ∧ (n0 ≤ d2) ∧ (own_SB Z h b d2 k2 N2 (cs ++ ds)) ∧ (N ≤ N2 ∧ (N2 = N ∨ N2 ≤ 100))
set_option maxRecDepth 65536 in
set_option maxHeartbeats 40000000 in
theorem own_aappS (l : Launch) (Z : State) (a0 : Array Value) (hw : ∀ d ∈ tables_1, d.before a0 Z = true) (ws : List Jvm.Cond) (b : Addr) (d : Addr) (kd : ClassId) (N : Nat) (cs : List Int32) (y : Addr) (ty : Addr) (ky : ClassId) (ds : List Int32) (gCS : Int32) (h0 : Heap) (n0 : Nat) (O0 : Old Z n0 h0) (hp0 : own_SB Z h0 b d kd N cs) (hp1 : n0 ≤ b) (hp2 : n0 ≤ d) (hp3 : own_Str Z h0 y ty ky ds) (hp4 : y ≠ b) (hp5 : y ≠ d) (hp6 : ty ≠ b) (hp7 : ty ≠ d) (hNp : 0 < N) (hcap : N < cs.length + ds.length → False) (hNb : N ≤ 100000) (hp11 : Sta Z Z.heap "java/lang/String" "COMPACT_STRINGS" "Z" (.int gCS)) (hG1 : ¬ gCS = (0 : Int32)) :
    MetFree l (⟨"java/lang/AbstractStringBuilder", "append", "(Ljava/lang/String;)Ljava/lang/AbstractStringBuilder;"⟩ : MethodName) (head1 (Jvm.Cond.code (⟨"java/lang/AbstractStringBuilder", "append", "(Ljava/lang/String;)Ljava/lang/AbstractStringBuilder;"⟩ : MethodName) jdk_68_method_22_code 3 (some (.object "java/lang/AbstractStringBuilder")) :: ws) ({ frames := 3, cells := 0, slots := 0, locals := 47 } : Room)) (fun aa_ U_ => aa_ = #[(.ref b), (.ref y)] ∧ Z.Warmed39 U_.vm ∧ U_.heap = h0) (fun _ _ _ _ _ => True) (fun _ U_ o_ V_ => ∃ v_ L_, o_ = .returned v_ ∧ Q_own_aappS Z b d kd N cs y ty ky ds gCS h0 n0 v_ V_.heap L_ ∧ FrameEnd U_ o_ V_ L_ ({ frames := 3, cells := 0, slots := 0, locals := 47 } : Room).cells ({ frames := 3, cells := 0, slots := 0, locals := 47 } : Room).slots) := by
  refine MetFree.of_bodySF (plainFor_of_name own_pn_own_aappS) hisR ?_
  intro p e s m args below meth c s₁ Bd hml0 hP hK
  obtain ⟨rfl, hZ, hh⟩ := hP
  have hx := Bd.exec
  have hby := Bd.bytes
  have hml : c.maxLocals = 3 := hml0
  have hown : s.vm.findClass "java/lang/AbstractStringBuilder" = some m.cls := findClass_of_methodNamed Bd.named
  have hnm := (name_of_methodNamed Bd.named Bd.method).1
  have X0 : Stand p l e ({ frames := 3, cells := 0, slots := 0, locals := 47 } : Room) s m #[(.ref b), (.ref y)] below meth c s₁ [] 0 0 := Stand.of_body Bd
  have e0 : s₁.heap = h0 := by rw [← hh, Bd.state]; rfl
  have N0 := Fr.nil n0
  have K0 : Keep h0 h0 [b, d] := Keep.refl _ _
  have r0 : GoTo p.tables e below s₁ (own_F_own_aappS m b y) s₁ (mkF m 0 #[.val (.ref b), .val (.ref y), .unset] []) := fun tt_ kk_ => castTop (own_ef_own_aappS m b y) kk_
  have hcl := hp0.2.2.2.2.1.2.1
  have hdl := hp3.2.2.2.2.2
  obtain ⟨cq1, kq1, qa1, qb1, qc1⟩ := isOf hZ e0 hp3.1
  obtain ⟨_, _, ⟨T1, L1, k1, n1⟩, -, X1, ⟨Lc1, hQ1, l1, y1, z1⟩, st1⟩ := X0.virtualBack hx (y := (⟨"java/lang/String", "length", "()I"⟩ : MethodName)) (z := (⟨"java/lang/String", "length", "()I"⟩ : MethodName)) hown (mvT hZ (hw _ (List.mem_of_getElem? (i := 45) rfl))) (mvT hZ (hw _ (List.mem_of_getElem? (i := 46) rfl))) (notFace_of_selects (args := #[]) (mvT hZ (hw _ (List.mem_of_getElem? (i := 48) rfl)))) (mvT hZ (hw _ (List.mem_of_getElem? (i := 48) rfl))) (mvT hZ (hw _ (List.mem_of_getElem? (i := 47) rfl))) (by decide) (backOf (W := 0) (own_strlen l Z a0 hw [] (y) (ty) (ky) (ds) (gCS) h0 n0 (O0.keep K0 (allS hp1 (allS hp2 all0))) (hp3) (hp11) (hG1)) hZ (hw _ (List.mem_of_getElem? (i := 49) rfl)) (hw _ (List.mem_of_getElem? (i := 27) rfl)) (by decide) (by decide)) qa1 qc1 (g := (mkF m 10 #[.val (.ref b), .val (.ref y), .unset] [(.ref y)])) rfl (by rw [hml]; rfl) (Steps.refl _) (argsL := []) (rest := []) (lenOf own_pd8 rfl) rfl (by show 2 * 0 + _ ≤ _; exact Nat.le_of_eq rfl) (hb hby own_d_jdk_68_method_22_code_10) (fun _ _ => ⟨rfl, e0, (by decide : 0 + 0 ≤ _), (by decide : 0 + 0 ≤ _)⟩)
  dsimp only [Pt.U, Pt.locs, Pt.cells, Pt.slots] at X1 l1 y1 z1 st1 hQ1
  subst l1 y1 z1
  obtain ⟨rfl, Nq1, hh1⟩ := hQ1
  have N1 := Fr.app N0 Nq1
  obtain ⟨T2, X2, e2, st2⟩ := getF X1 hx hZ hown (host := "") (Or.inl (hw _ (List.mem_of_getElem? (i := 60) rfl))) Via.refl hh1 hp0.2.2.2.1 (g := (mkF m 16 #[.val (.ref b), .val (.ref y), .val (.int (Int32.ofNat ds.length))] [(.ref b), (.ref b)])) rfl rfl (hb hby own_d_jdk_68_method_22_code_16)
  have r3 : GoTo p.tables e below s₁ (own_F_own_aappS m b y) T2 (mkF m 21 #[.val (.ref b), .val (.ref y), .val (.int (Int32.ofNat ds.length))] [(.int ((Int32.ofNat cs.length) + (Int32.ofNat ds.length))), (.ref b)]) := fun tt_ kk_ => r0 tt_ (by
      show Steps p.tables e below (s₁.setTop (mkF m 0 #[.val (.ref b), .val (.ref y), .unset] [])) _
      refine XS.aloadN X0.here hx rfl (hb hby own_d_jdk_68_method_22_code_0) rfl rfl ?_
      show Steps p.tables e below (s₁.setTop (mkF m 1 #[.val (.ref b), .val (.ref y), .unset] [(.ref y)])) _
      refine XS.ifnonnullYes X0.here hx rfl (pc0 := 1) (pc' := 9) rfl (hb hby own_d_jdk_68_method_22_code_1) rfl (by decide) (by decide) ?_
      show Steps p.tables e below (s₁.setTop (mkF m 9 #[.val (.ref b), .val (.ref y), .unset] [])) _
      refine XS.aloadN X0.here hx rfl (hb hby own_d_jdk_68_method_22_code_9) rfl rfl ?_
      show Steps p.tables e below (s₁.setTop (mkF m 10 #[.val (.ref b), .val (.ref y), .unset] [(.ref y)])) _
      refine st1.trans ?_
      show Steps p.tables e below (T1.setTop (mkF m 13 #[.val (.ref b), .val (.ref y), .unset] [(.int (Int32.ofNat ds.length))])) _
      refine XS.istoreN X1.here hx rfl (hb hby own_d_jdk_68_method_22_code_13) rfl (l' := #[.val (.ref b), .val (.ref y), .val (.int (Int32.ofNat ds.length))]) rfl ?_
      show Steps p.tables e below (T1.setTop (mkF m 14 #[.val (.ref b), .val (.ref y), .val (.int (Int32.ofNat ds.length))] [])) _
      refine XS.aloadN X1.here hx rfl (hb hby own_d_jdk_68_method_22_code_14) rfl rfl ?_
      show Steps p.tables e below (T1.setTop (mkF m 15 #[.val (.ref b), .val (.ref y), .val (.int (Int32.ofNat ds.length))] [(.ref b)])) _
      refine XS.aloadN X1.here hx rfl (hb hby own_d_jdk_68_method_22_code_15) rfl rfl ?_
      show Steps p.tables e below (T1.setTop (mkF m 16 #[.val (.ref b), .val (.ref y), .val (.int (Int32.ofNat ds.length))] [(.ref b), (.ref b)])) _
      refine st2 _ ?_
      show Steps p.tables e below (T2.setTop (mkF m 19 #[.val (.ref b), .val (.ref y), .val (.int (Int32.ofNat ds.length))] [(.int (Int32.ofNat cs.length)), (.ref b)])) _
      refine XS.iloadN X2.here hx rfl (hb hby own_d_jdk_68_method_22_code_19) rfl ?_
      show Steps p.tables e below (T2.setTop (mkF m 20 #[.val (.ref b), .val (.ref y), .val (.int (Int32.ofNat ds.length))] [(.int (Int32.ofNat ds.length)), (.int (Int32.ofNat cs.length)), (.ref b)])) _
      refine XS.iadd X2.here hx rfl (hb hby own_d_jdk_68_method_22_code_20) rfl ?_
      show Steps p.tables e below (T2.setTop (mkF m 21 #[.val (.ref b), .val (.ref y), .val (.int (Int32.ofNat ds.length))] [(.int ((Int32.ofNat cs.length) + (Int32.ofNat ds.length))), (.ref b)])) _
      exact kk_)
  have r4 : GoTo p.tables e below s₁ (own_F_own_aappS m b y) T2 (mkF m 21 #[.val (.ref b), .val (.ref y), .val (.int (Int32.ofNat ds.length))] [(.int (Int32.ofNat (cs.length + ds.length))), (.ref b)]) := Eq.mp (congrArg (fun zz_ => GoTo p.tables e below s₁ (own_F_own_aappS m b y) T2 (mkF m 21 #[.val (.ref b), .val (.ref y), .val (.int (Int32.ofNat ds.length))] [(.int zz_), (.ref b)])) (show ((Int32.ofNat cs.length) + (Int32.ofNat ds.length)) = (Int32.ofNat (cs.length + ds.length)) from own_addN)) r3
  obtain ⟨cq5, qa5, qb5⟩ := hp0.1.cell
  obtain ⟨_, _, ⟨T5, L5, k5, n5⟩, -, X5, ⟨Lc5, hQ5, l5, y5, z5⟩, st5⟩ := X2.privateBack hx (y := (⟨"java/lang/AbstractStringBuilder", "ensureCapacityInternal", "(I)V"⟩ : MethodName)) hown (mvT hZ (hw _ (List.mem_of_getElem? (i := 62) rfl))) (mvT hZ (hw _ (List.mem_of_getElem? (i := 63) rfl))) (own_selfSel (mvT hZ (hw _ (List.mem_of_getElem? (i := 65) rfl))) (Cond.privateMethod_at (mvP hZ (hw _ (List.mem_of_getElem? (i := 64) rfl)) (args := #[]))) (mvT hZ (hw _ (List.mem_of_getElem? (i := 63) rfl))) (by decide)) (Cond.privateMethod_at (mvP hZ (hw _ (List.mem_of_getElem? (i := 64) rfl)) (args := #[]))) (mvT hZ (hw _ (List.mem_of_getElem? (i := 66) rfl))) (by decide) (backOf (W := 0) (own_ens l Z a0 hw [] (b) (d) (kd) (N) (cs) ((cs.length + ds.length)) h0 n0 (O0.keep K0 (allS hp1 (allS hp2 all0))) (hp0) (hp1) (hp2) (by omega) (hNp) (hcap) (hNb)) hZ (hw _ (List.mem_of_getElem? (i := 66) rfl)) (hw _ (List.mem_of_getElem? (i := 21) rfl)) (by decide) (by decide)) (g := (mkF m 21 #[.val (.ref b), .val (.ref y), .val (.int (Int32.ofNat ds.length))] [(.int (Int32.ofNat (cs.length + ds.length))), (.ref b)])) rfl (by rw [hml]; rfl) (Steps.refl _) (a := b) (by rw [e2]; exact qa5) qb5 (argsL := [(.int (Int32.ofNat (cs.length + ds.length)))]) (rest := []) (lenOf own_pd0 rfl) rfl (by show 2 * 0 + _ ≤ _; exact Nat.le_of_eq rfl) (hb hby own_d_jdk_68_method_22_code_21) (fun _ _ => ⟨rfl, e2, (by decide : 0 + 0 ≤ _), (by decide : 0 + 0 ≤ _)⟩)
  dsimp only [Pt.U, Pt.locs, Pt.cells, Pt.slots] at X5 l5 y5 z5 st5 hQ5
  subst l5 y5 z5
  obtain ⟨d2_5, k2_5, N2_5, rfl, Nq5, Kq5, po5_0, po5_1, po5_2, po5_3⟩ := hQ5
  have N5 := Fr.app N1 Nq5
  have ne6 : b ≠ d2_5 := own_orne po5_0 (ne_exa hp0.1 hp0.2.2.2.2.1.1 (by decide)) hp0.1.lt
  have ne7 : y ≠ d2_5 := own_orne po5_0 hp5 hp3.1.lt
  have ne8 : ty ≠ d2_5 := own_orne po5_0 hp7 hp3.2.2.2.1.lt
  have g9 : n0 ≤ d2_5 := own_orle po5_0 hp2 (Nat.le_trans (own_le O0) K0.1)
  have K10 : Keep h0 T5.heap [b, d] := K0.trans Kq5 (allS (Or.inl (List.mem_of_getElem? (i := 0) rfl)) all0)
  obtain ⟨hm1, hm2, hm3⟩ := po5_3
  obtain ⟨T11, X11, e11, st11⟩ := getF X5 hx hZ hown (host := "") (Or.inl (hw _ (List.mem_of_getElem? (i := 60) rfl))) Via.refl rfl po5_2.2.2.2.1 (g := (mkF m 26 #[.val (.ref b), .val (.ref y), .val (.int (Int32.ofNat ds.length))] [(.ref b), (.ref b)])) rfl rfl (hb hby own_d_jdk_68_method_22_code_26)
  have f12 : own_Str Z T5.heap y ty ky ds := (hp3.keep Kq5 (ninS hp4 nin0) (ninS hp6 nin0))
  obtain ⟨cq13, qa13, qb13⟩ := po5_2.1.cell
  obtain ⟨_, _, ⟨T13, L13, k13, n13⟩, -, X13, ⟨Lc13, hQ13, l13, y13, z13⟩, st13⟩ := X11.privateBack hx (y := (⟨"java/lang/AbstractStringBuilder", "putStringAt", "(ILjava/lang/String;)V"⟩ : MethodName)) hown (mvT hZ (hw _ (List.mem_of_getElem? (i := 67) rfl))) (mvT hZ (hw _ (List.mem_of_getElem? (i := 68) rfl))) (own_selfSel (mvT hZ (hw _ (List.mem_of_getElem? (i := 70) rfl))) (Cond.privateMethod_at (mvP hZ (hw _ (List.mem_of_getElem? (i := 69) rfl)) (args := #[]))) (mvT hZ (hw _ (List.mem_of_getElem? (i := 68) rfl))) (by decide)) (Cond.privateMethod_at (mvP hZ (hw _ (List.mem_of_getElem? (i := 69) rfl)) (args := #[]))) (mvT hZ (hw _ (List.mem_of_getElem? (i := 71) rfl))) (by decide) (backOf (W := 0) (own_put l Z a0 hw [] (b) (d2_5) (k2_5) (N2_5) (cs) (y) (ty) (ky) (ds) (gCS) T5.heap n0 (O0.keep K10 (allS hp1 (allS hp2 all0))) (po5_2.1) (po5_2.2.1) (po5_2.2.2.1) (po5_2.2.2.2.2.1) (f12) (po5_1) (ne8) (hm1) (hp11) (hG1)) hZ (hw _ (List.mem_of_getElem? (i := 71) rfl)) (hw _ (List.mem_of_getElem? (i := 21) rfl)) (by decide) (by decide)) (g := (mkF m 30 #[.val (.ref b), .val (.ref y), .val (.int (Int32.ofNat ds.length))] [(.ref y), (.int (Int32.ofNat cs.length)), (.ref b)])) rfl (by rw [hml]; rfl) (Steps.refl _) (a := b) (by rw [e11]; exact qa13) qb13 (argsL := [(.int (Int32.ofNat cs.length)), (.ref y)]) (rest := []) (lenOf own_pd9 rfl) rfl (by show 2 * 0 + _ ≤ _; exact Nat.le_of_eq rfl) (hb hby own_d_jdk_68_method_22_code_30) (fun _ _ => ⟨rfl, e11, (by decide : 0 + 0 ≤ _), (by decide : 0 + 0 ≤ _)⟩)
  dsimp only [Pt.U, Pt.locs, Pt.cells, Pt.slots] at X13 l13 y13 z13 st13 hQ13
  subst l13 y13 z13
  obtain ⟨rfl, Nq13, Kq13, po13_0⟩ := hQ13
  have N13 := Fr.app N5 Nq13
  have K14 : Keep h0 T13.heap [b, d] := K10.trans Kq13 (allS ((po5_0).elim (fun q => Or.inl (q ▸ List.mem_of_getElem? (i := 1) rfl)) (fun q => Or.inr (Nat.le_trans K0.1 q))) all0)
  have f15 : Fld Z T13.heap b "java/lang/AbstractStringBuilder" "count" "I" (.int (Int32.ofNat cs.length)) := (po5_2.2.2.2.1.keep Kq13 (ninS (ne_exa po5_2.1 po5_2.2.2.2.2.1.1 (by decide)) nin0))
  obtain ⟨T16, X16, e16, st16⟩ := getF X13 hx hZ hown (host := "") (Or.inl (hw _ (List.mem_of_getElem? (i := 60) rfl))) Via.refl rfl f15 (g := (mkF m 35 #[.val (.ref b), .val (.ref y), .val (.int (Int32.ofNat ds.length))] [(.ref b), (.ref b)])) rfl rfl (hb hby own_d_jdk_68_method_22_code_35)
  have r17 : GoTo p.tables e below s₁ (own_F_own_aappS m b y) T16 (mkF m 40 #[.val (.ref b), .val (.ref y), .val (.int (Int32.ofNat ds.length))] [(.int ((Int32.ofNat cs.length) + (Int32.ofNat ds.length))), (.ref b)]) := fun tt_ kk_ => r4 tt_ (by
      show Steps p.tables e below (T2.setTop (mkF m 21 #[.val (.ref b), .val (.ref y), .val (.int (Int32.ofNat ds.length))] [(.int (Int32.ofNat (cs.length + ds.length))), (.ref b)])) _
      refine st5.trans ?_
      show Steps p.tables e below (T5.setTop (mkF m 24 #[.val (.ref b), .val (.ref y), .val (.int (Int32.ofNat ds.length))] [])) _
      refine XS.aloadN X5.here hx rfl (hb hby own_d_jdk_68_method_22_code_24) rfl rfl ?_
      show Steps p.tables e below (T5.setTop (mkF m 25 #[.val (.ref b), .val (.ref y), .val (.int (Int32.ofNat ds.length))] [(.ref b)])) _
      refine XS.aloadN X5.here hx rfl (hb hby own_d_jdk_68_method_22_code_25) rfl rfl ?_
      show Steps p.tables e below (T5.setTop (mkF m 26 #[.val (.ref b), .val (.ref y), .val (.int (Int32.ofNat ds.length))] [(.ref b), (.ref b)])) _
      refine st11 _ ?_
      show Steps p.tables e below (T11.setTop (mkF m 29 #[.val (.ref b), .val (.ref y), .val (.int (Int32.ofNat ds.length))] [(.int (Int32.ofNat cs.length)), (.ref b)])) _
      refine XS.aloadN X11.here hx rfl (hb hby own_d_jdk_68_method_22_code_29) rfl rfl ?_
      show Steps p.tables e below (T11.setTop (mkF m 30 #[.val (.ref b), .val (.ref y), .val (.int (Int32.ofNat ds.length))] [(.ref y), (.int (Int32.ofNat cs.length)), (.ref b)])) _
      refine st13.trans ?_
      show Steps p.tables e below (T13.setTop (mkF m 33 #[.val (.ref b), .val (.ref y), .val (.int (Int32.ofNat ds.length))] [])) _
      refine XS.aloadN X13.here hx rfl (hb hby own_d_jdk_68_method_22_code_33) rfl rfl ?_
      show Steps p.tables e below (T13.setTop (mkF m 34 #[.val (.ref b), .val (.ref y), .val (.int (Int32.ofNat ds.length))] [(.ref b)])) _
      refine XS.dup X13.here hx rfl (hb hby own_d_jdk_68_method_22_code_34) rfl rfl ?_
      show Steps p.tables e below (T13.setTop (mkF m 35 #[.val (.ref b), .val (.ref y), .val (.int (Int32.ofNat ds.length))] [(.ref b), (.ref b)])) _
      refine st16 _ ?_
      show Steps p.tables e below (T16.setTop (mkF m 38 #[.val (.ref b), .val (.ref y), .val (.int (Int32.ofNat ds.length))] [(.int (Int32.ofNat cs.length)), (.ref b)])) _
      refine XS.iloadN X16.here hx rfl (hb hby own_d_jdk_68_method_22_code_38) rfl ?_
      show Steps p.tables e below (T16.setTop (mkF m 39 #[.val (.ref b), .val (.ref y), .val (.int (Int32.ofNat ds.length))] [(.int (Int32.ofNat ds.length)), (.int (Int32.ofNat cs.length)), (.ref b)])) _
      refine XS.iadd X16.here hx rfl (hb hby own_d_jdk_68_method_22_code_39) rfl ?_
      show Steps p.tables e below (T16.setTop (mkF m 40 #[.val (.ref b), .val (.ref y), .val (.int (Int32.ofNat ds.length))] [(.int ((Int32.ofNat cs.length) + (Int32.ofNat ds.length))), (.ref b)])) _
      exact kk_)
  have r18 : GoTo p.tables e below s₁ (own_F_own_aappS m b y) T16 (mkF m 40 #[.val (.ref b), .val (.ref y), .val (.int (Int32.ofNat ds.length))] [(.int (Int32.ofNat (cs ++ ds).length)), (.ref b)]) := Eq.mp (congrArg (fun zz_ => GoTo p.tables e below s₁ (own_F_own_aappS m b y) T16 (mkF m 40 #[.val (.ref b), .val (.ref y), .val (.int (Int32.ofNat ds.length))] [(.int zz_), (.ref b)])) (show ((Int32.ofNat cs.length) + (Int32.ofNat ds.length)) = (Int32.ofNat (cs ++ ds).length) from (by rw [List.length_append]; exact own_addN))) r17
  have f19 : Exa Z T13.heap b "java/lang/StringBuilder" := (po5_2.1.keep Kq13)
  obtain ⟨T20, h20, X20, e20, W20, st20⟩ := putF X16 hx hZ hown (host := "") (Or.inl (hw _ (List.mem_of_getElem? (i := 60) rfl))) Via.refl e16 f15 f19 (Or.inl (hw _ (List.mem_of_getElem? (i := 61) rfl))) (hw _ (List.mem_of_getElem? (i := 12) rfl)) (ty := .int) (by decide) rfl rfl (g := (mkF m 40 #[.val (.ref b), .val (.ref y), .val (.int (Int32.ofNat ds.length))] [(.int (Int32.ofNat (cs ++ ds).length)), (.ref b)])) rfl rfl (hb hby own_d_jdk_68_method_22_code_40)
  have K21 : Keep h0 h20 [b, d] := K14.wr W20 (Or.inl (List.mem_of_getElem? (i := 0) rfl))
  have Fw20 : Fld Z h20 b "java/lang/AbstractStringBuilder" "count" "I" (.int (Int32.ofNat (cs ++ ds).length)) := f15.same W20
  have N20 := Fr.snoc X20 N13 hp1
  have f22 : own_By Z h20 d2_5 k2_5 N2_5 (cs ++ ds) := (po13_0.other W20 (Ne.symm (ne_exa po5_2.1 po5_2.2.2.2.2.1.1 (by decide))))
  have f23 : Exa Z h20 b "java/lang/StringBuilder" := (f19.wr W20)
  have f24 : Fld Z h20 b "java/lang/AbstractStringBuilder" "value" "[B" (.ref d2_5) := ((po5_2.2.1.keep Kq13 (ninS (ne_exa po5_2.1 po5_2.2.2.2.2.1.1 (by decide)) nin0)).other W20 (Or.inr (Jvm.RoadKit.slot_ne (Or.inl (hw _ (List.mem_of_getElem? (i := 30) rfl))) (Or.inl (hw _ (List.mem_of_getElem? (i := 61) rfl))) (by decide) (t := (.array .byte)) (t' := .int) (by decide) (by decide))))
  have f25 : Fld Z h20 b "java/lang/AbstractStringBuilder" "coder" "B" (.int (0 : Int32)) := ((po5_2.2.2.1.keep Kq13 (ninS (ne_exa po5_2.1 po5_2.2.2.2.2.1.1 (by decide)) nin0)).other W20 (Or.inr (Jvm.RoadKit.slot_ne (Or.inl (hw _ (List.mem_of_getElem? (i := 32) rfl))) (Or.inl (hw _ (List.mem_of_getElem? (i := 61) rfl))) (by decide) (t := .byte) (t' := .int) (by decide) (by decide))))
  obtain ⟨fs, hr, hrun, hended, hW, hsame⟩ := X20.leave (v := some (.ref b)) (fun h => by rw [Bd.returns] at h; cases h)
  refine ⟨_, _, r18 _ ?_, hrun, hended, _, _, rfl, ?_, ⟨_, rfl⟩, hW, hsame.mono (by decide) (by decide)⟩
  · show Steps p.tables e below (T16.setTop (mkF m 40 #[.val (.ref b), .val (.ref y), .val (.int (Int32.ofNat ds.length))] [(.int (Int32.ofNat (cs ++ ds).length)), (.ref b)])) _
    refine st20 _ ?_
    show Steps p.tables e below (T20.setTop (mkF m 43 #[.val (.ref b), .val (.ref y), .val (.int (Int32.ofNat ds.length))] [])) _
    refine XS.aloadN X20.here hx rfl (hb hby own_d_jdk_68_method_22_code_43) rfl rfl ?_
    show Steps p.tables e below (T20.setTop (mkF m 44 #[.val (.ref b), .val (.ref y), .val (.int (Int32.ofNat ds.length))] [(.ref b)])) _
    exact retOut X20 hx (t := (.object "java/lang/AbstractStringBuilder")) Bd.returns rfl (Or.inr (Or.inr (Or.inr (Or.inr ⟨rfl, rfl, rfl⟩)))) (hb hby own_d_jdk_68_method_22_code_44) hr
  · show Q_own_aappS Z b d kd N cs y ty ky ds gCS h0 n0 _ T20.heap _
    rw [e20]
    exact ⟨d2_5, k2_5, N2_5, rfl, N20, K21, (po5_0.imp id (fun q => Nat.le_trans K0.1 q)), po5_1, ⟨f23, f24, f25, Fw20, f22, (own_rngApp hp0.2.2.2.2.2 hp3.2.2.2.2.1)⟩, ⟨hm2, hm3⟩⟩
theorem own_pn_own_appS : plainName "java/lang/StringBuilder" = true := by first | (simp [plainName, overriddenIn]; done) | decide +kernel
theorem own_ef_own_appS (m : MethodId) (b : Addr) (y : Addr) : entryFrame m #[(.ref b), (.ref y)] 2 = mkF m 0 #[.val (.ref b), .val (.ref y)] [] := by first | (simp [entryFrame, mkF, argsToLocals, own_cI, own_cJ, own_cR, own_cN]; done) | rfl
abbrev own_F_own_appS (m : MethodId) (b : Addr) (y : Addr) : JFrame := entryFrame m #[(.ref b), (.ref y)] 2
def Q_own_appS (Z : State) (b : Addr) (d : Addr) (kd : ClassId) (N : Nat) (cs : List Int32) (y : Addr) (ty : Addr) (ky : ClassId) (ds : List Int32) (gCS : Int32) (h0 : Heap) (n0 : Nat) (v : Option Value) (h : Heap) (L : List Loc) : Prop := ∃ (d2 : Addr), ∃ (k2 : ClassId), ∃ (N2 : Nat), v = some (.ref b) ∧ Fr n0 L ∧ Keep h0 h [b, d] ∧ (d2 = d ∨ h0.size ≤ d2) ∧ (n0 ≤ d2) ∧ (own_SB Z h b d2 k2 N2 (cs ++ ds)) ∧ (N ≤ N2 ∧ (N2 = N ∨ N2 ≤ 100))
set_option maxRecDepth 65536 in
set_option maxHeartbeats 40000000 in
theorem own_appS (l : Launch) (Z : State) (a0 : Array Value) (hw : ∀ d ∈ tables_1, d.before a0 Z = true) (ws : List Jvm.Cond) (b : Addr) (d : Addr) (kd : ClassId) (N : Nat) (cs : List Int32) (y : Addr) (ty : Addr) (ky : ClassId) (ds : List Int32) (gCS : Int32) (h0 : Heap) (n0 : Nat) (O0 : Old Z n0 h0) (hp0 : own_SB Z h0 b d kd N cs) (hp1 : n0 ≤ b) (hp2 : n0 ≤ d) (hp3 : own_Str Z h0 y ty ky ds) (hp4 : y ≠ b) (hp5 : y ≠ d) (hp6 : ty ≠ b) (hp7 : ty ≠ d) (hNp : 0 < N) (hcap : N < cs.length + ds.length → False) (hNb : N ≤ 100000) (hp11 : Sta Z Z.heap "java/lang/String" "COMPACT_STRINGS" "Z" (.int gCS)) (hG1 : ¬ gCS = (0 : Int32)) :
    MetFree l (⟨"java/lang/StringBuilder", "append", "(Ljava/lang/String;)Ljava/lang/StringBuilder;"⟩ : MethodName) (head1 (Jvm.Cond.code (⟨"java/lang/StringBuilder", "append", "(Ljava/lang/String;)Ljava/lang/StringBuilder;"⟩ : MethodName) jdk_67_method_7_code 2 (some (.object "java/lang/StringBuilder")) :: ws) ({ frames := 4, cells := 0, slots := 0, locals := 61 } : Room)) (fun aa_ U_ => aa_ = #[(.ref b), (.ref y)] ∧ Z.Warmed39 U_.vm ∧ U_.heap = h0) (fun _ _ _ _ _ => True) (fun _ U_ o_ V_ => ∃ v_ L_, o_ = .returned v_ ∧ Q_own_appS Z b d kd N cs y ty ky ds gCS h0 n0 v_ V_.heap L_ ∧ FrameEnd U_ o_ V_ L_ ({ frames := 4, cells := 0, slots := 0, locals := 61 } : Room).cells ({ frames := 4, cells := 0, slots := 0, locals := 61 } : Room).slots) := by
  refine MetFree.of_bodySF (plainFor_of_name own_pn_own_appS) hisR ?_
  intro p e s m args below meth c s₁ Bd hml0 hP hK
  obtain ⟨rfl, hZ, hh⟩ := hP
  have hx := Bd.exec
  have hby := Bd.bytes
  have hml : c.maxLocals = 2 := hml0
  have hown : s.vm.findClass "java/lang/StringBuilder" = some m.cls := findClass_of_methodNamed Bd.named
  have hnm := (name_of_methodNamed Bd.named Bd.method).1
  have X0 : Stand p l e ({ frames := 4, cells := 0, slots := 0, locals := 61 } : Room) s m #[(.ref b), (.ref y)] below meth c s₁ [] 0 0 := Stand.of_body Bd
  have e0 : s₁.heap = h0 := by rw [← hh, Bd.state]; rfl
  have N0 := Fr.nil n0
  have K0 : Keep h0 h0 [b, d] := Keep.refl _ _
  have r0 : GoTo p.tables e below s₁ (own_F_own_appS m b y) s₁ (mkF m 0 #[.val (.ref b), .val (.ref y)] []) := fun tt_ kk_ => castTop (own_ef_own_appS m b y) kk_
  obtain ⟨_, _, ⟨T1, L1, k1, n1⟩, -, X1, ⟨Lc1, hQ1, l1, y1, z1⟩, st1⟩ := superBack X0 hx hZ (y := (⟨"java/lang/AbstractStringBuilder", "append", "(Ljava/lang/String;)Ljava/lang/AbstractStringBuilder;"⟩ : MethodName)) hown (hw _ (List.mem_of_getElem? (i := 40) rfl)) (own_sameSelf (y := (⟨"java/lang/AbstractStringBuilder", "append", "(Ljava/lang/String;)Ljava/lang/AbstractStringBuilder;"⟩ : MethodName)) (hw _ (List.mem_of_getElem? (i := 65) rfl)) rfl (hw _ (List.mem_of_getElem? (i := 41) rfl)) (by decide)) (hw _ (List.mem_of_getElem? (i := 41) rfl)) (hw _ (List.mem_of_getElem? (i := 42) rfl)) (by decide) (backOf (W := 0) (own_aappS l Z a0 hw [] (b) (d) (kd) (N) (cs) (y) (ty) (ky) (ds) (gCS) h0 n0 (O0.keep K0 (allS hp1 (allS hp2 all0))) (hp0) (hp1) (hp2) (hp3) (hp4) (hp5) (hp6) (hp7) (hNp) (hcap) (hNb) (hp11) (hG1)) hZ (hw _ (List.mem_of_getElem? (i := 44) rfl)) (hw _ (List.mem_of_getElem? (i := 21) rfl)) (by decide) (by decide)) e0 (Ins.self hp0.1) (g := (mkF m 2 #[.val (.ref b), .val (.ref y)] [(.ref y), (.ref b)])) rfl (by rw [hml]; rfl) (hw _ (List.mem_of_getElem? (i := 44) rfl)) (argsL := [(.ref y)]) (rest := []) (lenOf own_pd10 rfl) rfl (by show 2 * 0 + _ ≤ _; exact Nat.le_of_eq rfl) (hb hby own_d_jdk_67_method_7_code_2) (fun _ _ => ⟨rfl, e0, (by decide : 0 + 0 ≤ _), (by decide : 0 + 0 ≤ _)⟩)
  dsimp only [Pt.U, Pt.locs, Pt.cells, Pt.slots] at X1 l1 y1 z1 st1 hQ1
  subst l1 y1 z1
  obtain ⟨d2_1, k2_1, N2_1, rfl, Nq1, Kq1, po1_0, po1_1, po1_2, po1_3⟩ := hQ1
  have N1 := Fr.app N0 Nq1
  have ne2 : y ≠ d2_1 := own_orne po1_0 hp5 hp3.1.lt
  have ne3 : ty ≠ d2_1 := own_orne po1_0 hp7 hp3.2.2.2.1.lt
  have g4 : n0 ≤ d2_1 := own_orle po1_0 hp2 (Nat.le_trans (own_le O0) K0.1)
  have K5 : Keep h0 T1.heap [b, d] := K0.trans Kq1 (allS (Or.inl (List.mem_of_getElem? (i := 0) rfl)) (allS (Or.inl (List.mem_of_getElem? (i := 1) rfl)) all0))
  obtain ⟨fs, hr, hrun, hended, hW, hsame⟩ := X1.leave (v := some (.ref b)) (fun h => by rw [Bd.returns] at h; cases h)
  refine ⟨_, _, r0 _ ?_, hrun, hended, _, _, rfl, ?_, ⟨_, rfl⟩, hW, hsame.mono (by decide) (by decide)⟩
  · show Steps p.tables e below (s₁.setTop (mkF m 0 #[.val (.ref b), .val (.ref y)] [])) _
    refine XS.aloadN X0.here hx rfl (hb hby own_d_jdk_67_method_7_code_0) rfl rfl ?_
    show Steps p.tables e below (s₁.setTop (mkF m 1 #[.val (.ref b), .val (.ref y)] [(.ref b)])) _
    refine XS.aloadN X0.here hx rfl (hb hby own_d_jdk_67_method_7_code_1) rfl rfl ?_
    show Steps p.tables e below (s₁.setTop (mkF m 2 #[.val (.ref b), .val (.ref y)] [(.ref y), (.ref b)])) _
    refine st1.trans ?_
    show Steps p.tables e below (T1.setTop (mkF m 5 #[.val (.ref b), .val (.ref y)] [(.ref b)])) _
    refine XS.pop X1.here hx rfl (hb hby own_d_jdk_67_method_7_code_5) rfl rfl ?_
    show Steps p.tables e below (T1.setTop (mkF m 6 #[.val (.ref b), .val (.ref y)] [])) _
    refine XS.aloadN X1.here hx rfl (hb hby own_d_jdk_67_method_7_code_6) rfl rfl ?_
    show Steps p.tables e below (T1.setTop (mkF m 7 #[.val (.ref b), .val (.ref y)] [(.ref b)])) _
    exact retOut X1 hx (t := (.object "java/lang/StringBuilder")) Bd.returns rfl (Or.inr (Or.inr (Or.inr (Or.inr ⟨rfl, rfl, rfl⟩)))) (hb hby own_d_jdk_67_method_7_code_7) hr
  · show Q_own_appS Z b d kd N cs y ty ky ds gCS h0 n0 _ T1.heap _
    exact ⟨d2_1, k2_1, N2_1, rfl, N1, K5, (po1_0.imp id (fun q => Nat.le_trans K0.1 q)), po1_1, po1_2, po1_3⟩
theorem own_pn_own_chk : plainName "java/util/Arrays" = true := by first | (simp [plainName, overriddenIn]; done) | decide +kernel
theorem own_ef_own_chk (m : MethodId) (x : Nat) : entryFrame m #[(.int (0 : Int32)), (.int (Int32.ofNat x))] 2 = mkF m 0 #[.val (.int (0 : Int32)), .val (.int (Int32.ofNat x))] [] := by first | (simp [entryFrame, mkF, argsToLocals, own_cI, own_cJ, own_cR, own_cN]; done) | rfl
abbrev own_F_own_chk (m : MethodId) (x : Nat) : JFrame := entryFrame m #[(.int (0 : Int32)), (.int (Int32.ofNat x))] 2
def Q_own_chk (Z : State) (x : Nat) (h0 : Heap) (n0 : Nat) (v : Option Value) (h : Heap) (L : List Loc) : Prop := v = none ∧ Fr n0 L ∧ h = h0
set_option maxRecDepth 65536 in
set_option maxHeartbeats 40000000 in
theorem own_chk (l : Launch) (Z : State) (a0 : Array Value) (hw : ∀ d ∈ tables_1, d.before a0 Z = true) (ws : List Jvm.Cond) (x : Nat) (h0 : Heap) (n0 : Nat) (O0 : Old Z n0 h0) (hxs : x ≤ 1000000) :
    MetFree l (⟨"java/util/Arrays", "checkLength", "(II)V"⟩ : MethodName) (head1 (Jvm.Cond.code (⟨"java/util/Arrays", "checkLength", "(II)V"⟩ : MethodName) jdk_65_method_131_code 2 none :: ws) ({ frames := 0, cells := 0, slots := 0, locals := 0 } : Room)) (fun aa_ U_ => aa_ = #[(.int (0 : Int32)), (.int (Int32.ofNat x))] ∧ Z.Warmed39 U_.vm ∧ U_.heap = h0) (fun _ _ _ _ _ => True) (fun _ U_ o_ V_ => ∃ v_ L_, o_ = .returned v_ ∧ Q_own_chk Z x h0 n0 v_ V_.heap L_ ∧ FrameEnd U_ o_ V_ L_ ({ frames := 0, cells := 0, slots := 0, locals := 0 } : Room).cells ({ frames := 0, cells := 0, slots := 0, locals := 0 } : Room).slots) := by
  refine MetFree.of_bodySF (plainFor_of_name own_pn_own_chk) hisR ?_
  intro p e s m args below meth c s₁ Bd hml0 hP hK
  obtain ⟨rfl, hZ, hh⟩ := hP
  have hx := Bd.exec
  have hby := Bd.bytes
  have hml : c.maxLocals = 2 := hml0
  have hown : s.vm.findClass "java/util/Arrays" = some m.cls := findClass_of_methodNamed Bd.named
  have hnm := (name_of_methodNamed Bd.named Bd.method).1
  have X0 : Stand p l e ({ frames := 0, cells := 0, slots := 0, locals := 0 } : Room) s m #[(.int (0 : Int32)), (.int (Int32.ofNat x))] below meth c s₁ [] 0 0 := Stand.of_body Bd
  have e0 : s₁.heap = h0 := by rw [← hh, Bd.state]; rfl
  have N0 := Fr.nil n0
  have K0 : Keep h0 h0 [] := Keep.refl _ _
  have r0 : GoTo p.tables e below s₁ (own_F_own_chk m x) s₁ (mkF m 0 #[.val (.int (0 : Int32)), .val (.int (Int32.ofNat x))] []) := fun tt_ kk_ => castTop (own_ef_own_chk m x) kk_
  obtain ⟨fs, hr, hrun, hended, hW, hsame⟩ := X0.leave (v := none) (fun _ => rfl)
  refine ⟨_, _, r0 _ ?_, hrun, hended, _, _, rfl, ?_, ⟨_, rfl⟩, hW, hsame.mono (by decide) (by decide)⟩
  · show Steps p.tables e below (s₁.setTop (mkF m 0 #[.val (.int (0 : Int32)), .val (.int (Int32.ofNat x))] [])) _
    refine XS.iloadN X0.here hx rfl (hb hby own_d_jdk_65_method_131_code_0) rfl ?_
    show Steps p.tables e below (s₁.setTop (mkF m 1 #[.val (.int (0 : Int32)), .val (.int (Int32.ofNat x))] [(.int (Int32.ofNat x))])) _
    refine XS.iloadN X0.here hx rfl (hb hby own_d_jdk_65_method_131_code_1) rfl ?_
    show Steps p.tables e below (s₁.setTop (mkF m 2 #[.val (.int (0 : Int32)), .val (.int (Int32.ofNat x))] [(.int (0 : Int32)), (.int (Int32.ofNat x))])) _
    refine XS.icmpYes X0.here hx rfl (pc0 := 2) (pc' := 37) rfl (hb hby own_d_jdk_65_method_131_code_2) rfl (flt (own_negN hxs)).2.1 (by decide) (by decide) ?_
    show Steps p.tables e below (s₁.setTop (mkF m 37 #[.val (.int (0 : Int32)), .val (.int (Int32.ofNat x))] [])) _
    exact X0.returnOut hx Bd.returns (hb hby own_d_jdk_65_method_131_code_37) hr
  · show Q_own_chk Z x h0 n0 _ s₁.heap _
    rw [e0]
    exact ⟨rfl, N0, rfl⟩
theorem own_pn_own_corb : plainName "java/util/Arrays" = true := by first | (simp [plainName, overriddenIn]; done) | decide +kernel
theorem own_ef_own_corb (m : MethodId) (d : Addr) (cs : List Int32) : entryFrame m #[(.ref d), (.int (0 : Int32)), (.int (Int32.ofNat cs.length))] 5 = mkF m 0 #[.val (.ref d), .val (.int (0 : Int32)), .val (.int (Int32.ofNat cs.length)), .unset, .unset] [] := by first | (simp [entryFrame, mkF, argsToLocals, own_cI, own_cJ, own_cR, own_cN]; done) | rfl
abbrev own_F_own_corb (m : MethodId) (d : Addr) (cs : List Int32) : JFrame := entryFrame m #[(.ref d), (.int (0 : Int32)), (.int (Int32.ofNat cs.length))] 5
def Q_own_corb (Z : State) (d : Addr) (kd : ClassId) (N : Nat) (cs : List Int32) (h0 : Heap) (n0 : Nat) (v : Option Value) (h : Heap) (L : List Loc) : Prop := ∃ (b2 : Addr), ∃ (k2 : ClassId), v = some (.ref b2) ∧ Fr n0 L ∧ Keep h0 h [] ∧ (h0.size ≤ b2) ∧ (n0 ≤ b2) ∧ (Arv Z h b2 k2 .byte (Int32.ofNat cs.length) ((cs.map fun c => c.toInt8.toInt32).map Value.int) (.int (0 : Int32))) ∧ (Exa Z h b2 "[B")
set_option maxRecDepth 65536 in
set_option maxHeartbeats 40000000 in
theorem own_corb (l : Launch) (Z : State) (a0 : Array Value) (hw : ∀ d ∈ tables_1, d.before a0 Z = true) (ws : List Jvm.Cond) (d : Addr) (kd : ClassId) (N : Nat) (cs : List Int32) (h0 : Heap) (n0 : Nat) (O0 : Old Z n0 h0) (hp0 : own_By Z h0 d kd N cs) (hcc : cs.length ≤ 100) :
    MetFree l (⟨"java/util/Arrays", "copyOfRangeByte", "([BII)[B"⟩ : MethodName) (head1 (Jvm.Cond.code (⟨"java/util/Arrays", "copyOfRangeByte", "([BII)[B"⟩ : MethodName) jdk_65_method_133_code 5 (some (.array .byte)) :: ws) ({ frames := 1, cells := 1, slots := 100, locals := 18 } : Room)) (fun aa_ U_ => aa_ = #[(.ref d), (.int (0 : Int32)), (.int (Int32.ofNat cs.length))] ∧ Z.Warmed39 U_.vm ∧ U_.heap = h0) (fun _ _ _ _ _ => True) (fun _ U_ o_ V_ => ∃ v_ L_, o_ = .returned v_ ∧ Q_own_corb Z d kd N cs h0 n0 v_ V_.heap L_ ∧ FrameEnd U_ o_ V_ L_ ({ frames := 1, cells := 1, slots := 100, locals := 18 } : Room).cells ({ frames := 1, cells := 1, slots := 100, locals := 18 } : Room).slots) := by
  refine MetFree.of_bodySF (plainFor_of_name own_pn_own_corb) hisR ?_
  intro p e s m args below meth c s₁ Bd hml0 hP hK
  obtain ⟨rfl, hZ, hh⟩ := hP
  have hx := Bd.exec
  have hby := Bd.bytes
  have hml : c.maxLocals = 5 := hml0
  have hown : s.vm.findClass "java/util/Arrays" = some m.cls := findClass_of_methodNamed Bd.named
  have hnm := (name_of_methodNamed Bd.named Bd.method).1
  have X0 : Stand p l e ({ frames := 1, cells := 1, slots := 100, locals := 18 } : Room) s m #[(.ref d), (.int (0 : Int32)), (.int (Int32.ofNat cs.length))] below meth c s₁ [] 0 0 := Stand.of_body Bd
  have e0 : s₁.heap = h0 := by rw [← hh, Bd.state]; rfl
  have N0 := Fr.nil n0
  have K0 : Keep h0 h0 [] := Keep.refl _ _
  have r0 : GoTo p.tables e below s₁ (own_F_own_corb m d cs) s₁ (mkF m 0 #[.val (.ref d), .val (.int (0 : Int32)), .val (.int (Int32.ofNat cs.length)), .unset, .unset] []) := fun tt_ kk_ => castTop (own_ef_own_corb m d cs) kk_
  obtain ⟨vs1, hvl1, hva1, hvc1⟩ := own_By.arv hp0
  have hN6 := hp0.2.2.1
  have hcN := hp0.2.1
  have hc6 : cs.length ≤ 1000000 := by omega
  obtain ⟨_, _, ⟨T2, L2, k2, n2⟩, -, X2, ⟨Lc2, hQ2, l2, y2, z2⟩, st2⟩ := Jvm.LawKit.callS X0 hx (y := (⟨"java/util/Arrays", "checkLength", "(II)V"⟩ : MethodName)) hown (mvT hZ (hw _ (List.mem_of_getElem? (i := 168) rfl))) (mvT hZ (hw _ (List.mem_of_getElem? (i := 169) rfl))) (mvT hZ (hw _ (List.mem_of_getElem? (i := 128) rfl))) (mvT hZ (hw _ (List.mem_of_getElem? (i := 170) rfl))) (by decide) (backOf (W := 0) (own_chk l Z a0 hw [] (cs.length) h0 n0 (O0.keep K0 all0) (hc6)) hZ (hw _ (List.mem_of_getElem? (i := 170) rfl)) (hw _ (List.mem_of_getElem? (i := 128) rfl)) (by decide) (by decide)) (g := (mkF m 2 #[.val (.ref d), .val (.int (0 : Int32)), .val (.int (Int32.ofNat cs.length)), .unset, .unset] [(.int (Int32.ofNat cs.length)), (.int (0 : Int32))])) rfl (by rw [hml]; rfl) (argsL := [(.int (0 : Int32)), (.int (Int32.ofNat cs.length))]) (rest := []) (lenOf own_pd3 rfl) rfl (by show 2 * 0 + _ ≤ _; exact Nat.le_of_eq rfl) (hb hby own_d_jdk_65_method_133_code_2) (fun _ _ => ⟨rfl, e0, (by decide : 0 + 0 ≤ _), (by decide : 0 + 0 ≤ _)⟩)
  dsimp only [Pt.U, Pt.locs, Pt.cells, Pt.slots] at X2 l2 y2 z2 st2 hQ2
  subst l2 y2 z2
  obtain ⟨rfl, Nq2, hh2⟩ := hQ2
  have N2 := Fr.app N0 Nq2
  have r3 : GoTo p.tables e below s₁ (own_F_own_corb m d cs) T2 (mkF m 8 #[.val (.ref d), .val (.int (0 : Int32)), .val (.int (Int32.ofNat cs.length)), .unset, .unset] [(.int ((Int32.ofNat cs.length) - (0 : Int32)))]) := fun tt_ kk_ => r0 tt_ (by
      show Steps p.tables e below (s₁.setTop (mkF m 0 #[.val (.ref d), .val (.int (0 : Int32)), .val (.int (Int32.ofNat cs.length)), .unset, .unset] [])) _
      refine XS.iloadN X0.here hx rfl (hb hby own_d_jdk_65_method_133_code_0) rfl ?_
      show Steps p.tables e below (s₁.setTop (mkF m 1 #[.val (.ref d), .val (.int (0 : Int32)), .val (.int (Int32.ofNat cs.length)), .unset, .unset] [(.int (0 : Int32))])) _
      refine XS.iloadN X0.here hx rfl (hb hby own_d_jdk_65_method_133_code_1) rfl ?_
      show Steps p.tables e below (s₁.setTop (mkF m 2 #[.val (.ref d), .val (.int (0 : Int32)), .val (.int (Int32.ofNat cs.length)), .unset, .unset] [(.int (Int32.ofNat cs.length)), (.int (0 : Int32))])) _
      refine st2 _ ?_
      show Steps p.tables e below (T2.setTop (mkF m 5 #[.val (.ref d), .val (.int (0 : Int32)), .val (.int (Int32.ofNat cs.length)), .unset, .unset] [])) _
      refine XS.iloadN X2.here hx rfl (hb hby own_d_jdk_65_method_133_code_5) rfl ?_
      show Steps p.tables e below (T2.setTop (mkF m 6 #[.val (.ref d), .val (.int (0 : Int32)), .val (.int (Int32.ofNat cs.length)), .unset, .unset] [(.int (Int32.ofNat cs.length))])) _
      refine XS.iloadN X2.here hx rfl (hb hby own_d_jdk_65_method_133_code_6) rfl ?_
      show Steps p.tables e below (T2.setTop (mkF m 7 #[.val (.ref d), .val (.int (0 : Int32)), .val (.int (Int32.ofNat cs.length)), .unset, .unset] [(.int (0 : Int32)), (.int (Int32.ofNat cs.length))])) _
      refine XS.isub X2.here hx rfl (hb hby own_d_jdk_65_method_133_code_7) rfl ?_
      show Steps p.tables e below (T2.setTop (mkF m 8 #[.val (.ref d), .val (.int (0 : Int32)), .val (.int (Int32.ofNat cs.length)), .unset, .unset] [(.int ((Int32.ofNat cs.length) - (0 : Int32)))])) _
      exact kk_)
  have r4 : GoTo p.tables e below s₁ (own_F_own_corb m d cs) T2 (mkF m 8 #[.val (.ref d), .val (.int (0 : Int32)), .val (.int (Int32.ofNat cs.length)), .unset, .unset] [(.int (Int32.ofNat cs.length))]) := Eq.mp (congrArg (fun zz_ => GoTo p.tables e below s₁ (own_F_own_corb m d cs) T2 (mkF m 8 #[.val (.ref d), .val (.int (0 : Int32)), .val (.int (Int32.ofNat cs.length)), .unset, .unset] [(.int zz_)])) (show ((Int32.ofNat cs.length) - (0 : Int32)) = (Int32.ofNat cs.length) from (own_subN (a := cs.length) (b := 0) (Nat.zero_le _)))) r3
  obtain ⟨T5, h5, k5, X5, e5, E5, A5, Ex5, st5⟩ := newPE X2 hx hZ (hw _ (List.mem_of_getElem? (i := 28) rfl)) hh2 (g := (mkF m 10 #[.val (.ref d), .val (.int (0 : Int32)), .val (.int (Int32.ofNat cs.length)), .val (.int (Int32.ofNat cs.length)), .unset] [(.int (Int32.ofNat cs.length))])) rfl (hb hby own_d_jdk_65_method_133_code_10) rfl (own_negN hc6) (cap := 100) (by rw [own_clamp hc6]; exact hcc) (by decide) (by decide) (by decide) (ad := "[B") (by decide)
  obtain ⟨b5, gg5⟩ : ∃ z, z = h0.size := ⟨_, rfl⟩
  rw [← gg5] at A5 Ex5 st5
  have ne6 : d ≠ b5 := Nat.ne_of_lt (Nat.lt_of_lt_of_le hp0.lt (Nat.le_of_eq gg5.symm))
  have g7 : n0 ≤ b5 := Nat.le_trans (Nat.le_trans (own_le O0) K0.1) (Nat.le_of_eq gg5.symm)
  have b8 : h0.size ≤ b5 := Nat.le_trans K0.1 (Nat.le_of_eq gg5.symm)
  have K9 : Keep h0 h5 [] := K0.ext E5
  have V5 : Arv Z h5 b5 k5 .byte (Int32.ofNat cs.length) [] (.int (0 : Int32)) := Arv.new A5 (own_negN hc6)
  have Vp : Arv Z h5 b5 k5 .byte (Int32.ofNat cs.length) (List.replicate cs.length (Value.int 0)) (.int 0) := V5.pad (fun i => by rw [own_getD_rep]; simp)
  have f10 : Arv Z h5 d kd .byte (Int32.ofNat N) vs1 (.int (0 : Int32)) := (hva1.ext E5)
  obtain ⟨cl11, Ar11, q11, S11, NN11, H11, G11⟩ := id f10
  have r12 : GoTo p.tables e below s₁ (own_F_own_corb m d cs) T5 (mkF m 23 #[.val (.ref d), .val (.int (0 : Int32)), .val (.int (Int32.ofNat cs.length)), .val (.int (Int32.ofNat cs.length)), .val (.ref b5)] [(.int ((Int32.ofNat N) - (0 : Int32))), (.int (0 : Int32)), (.ref b5), (.int (0 : Int32)), (.ref d)]) := fun tt_ kk_ => r4 tt_ (by
      show Steps p.tables e below (T2.setTop (mkF m 8 #[.val (.ref d), .val (.int (0 : Int32)), .val (.int (Int32.ofNat cs.length)), .unset, .unset] [(.int (Int32.ofNat cs.length))])) _
      refine XS.istoreN X2.here hx rfl (hb hby own_d_jdk_65_method_133_code_8) rfl (l' := #[.val (.ref d), .val (.int (0 : Int32)), .val (.int (Int32.ofNat cs.length)), .val (.int (Int32.ofNat cs.length)), .unset]) rfl ?_
      show Steps p.tables e below (T2.setTop (mkF m 9 #[.val (.ref d), .val (.int (0 : Int32)), .val (.int (Int32.ofNat cs.length)), .val (.int (Int32.ofNat cs.length)), .unset] [])) _
      refine XS.iloadN X2.here hx rfl (hb hby own_d_jdk_65_method_133_code_9) rfl ?_
      show Steps p.tables e below (T2.setTop (mkF m 10 #[.val (.ref d), .val (.int (0 : Int32)), .val (.int (Int32.ofNat cs.length)), .val (.int (Int32.ofNat cs.length)), .unset] [(.int (Int32.ofNat cs.length))])) _
      refine st5 _ ?_
      show Steps p.tables e below (T5.setTop (mkF m 12 #[.val (.ref d), .val (.int (0 : Int32)), .val (.int (Int32.ofNat cs.length)), .val (.int (Int32.ofNat cs.length)), .unset] [(.ref b5)])) _
      refine XS.astore X5.here hx rfl (hb hby own_d_jdk_65_method_133_code_12) rfl rfl (l' := #[.val (.ref d), .val (.int (0 : Int32)), .val (.int (Int32.ofNat cs.length)), .val (.int (Int32.ofNat cs.length)), .val (.ref b5)]) rfl ?_
      show Steps p.tables e below (T5.setTop (mkF m 14 #[.val (.ref d), .val (.int (0 : Int32)), .val (.int (Int32.ofNat cs.length)), .val (.int (Int32.ofNat cs.length)), .val (.ref b5)] [])) _
      refine XS.aloadN X5.here hx rfl (hb hby own_d_jdk_65_method_133_code_14) rfl rfl ?_
      show Steps p.tables e below (T5.setTop (mkF m 15 #[.val (.ref d), .val (.int (0 : Int32)), .val (.int (Int32.ofNat cs.length)), .val (.int (Int32.ofNat cs.length)), .val (.ref b5)] [(.ref d)])) _
      refine XS.iloadN X5.here hx rfl (hb hby own_d_jdk_65_method_133_code_15) rfl ?_
      show Steps p.tables e below (T5.setTop (mkF m 16 #[.val (.ref d), .val (.int (0 : Int32)), .val (.int (Int32.ofNat cs.length)), .val (.int (Int32.ofNat cs.length)), .val (.ref b5)] [(.int (0 : Int32)), (.ref d)])) _
      refine XS.aload X5.here hx rfl (hb hby own_d_jdk_65_method_133_code_16) rfl rfl ?_
      show Steps p.tables e below (T5.setTop (mkF m 18 #[.val (.ref d), .val (.int (0 : Int32)), .val (.int (Int32.ofNat cs.length)), .val (.int (Int32.ofNat cs.length)), .val (.ref b5)] [(.ref b5), (.int (0 : Int32)), (.ref d)])) _
      refine XS.iconst X5.here hx rfl (hb hby own_d_jdk_65_method_133_code_18) ?_
      show Steps p.tables e below (T5.setTop (mkF m 19 #[.val (.ref d), .val (.int (0 : Int32)), .val (.int (Int32.ofNat cs.length)), .val (.int (Int32.ofNat cs.length)), .val (.ref b5)] [(.int (0 : Int32)), (.ref b5), (.int (0 : Int32)), (.ref d)])) _
      refine XS.aloadN X5.here hx rfl (hb hby own_d_jdk_65_method_133_code_19) rfl rfl ?_
      show Steps p.tables e below (T5.setTop (mkF m 20 #[.val (.ref d), .val (.int (0 : Int32)), .val (.int (Int32.ofNat cs.length)), .val (.int (Int32.ofNat cs.length)), .val (.ref b5)] [(.ref d), (.int (0 : Int32)), (.ref b5), (.int (0 : Int32)), (.ref d)])) _
      refine X5.arraylength hx (by rw [e5]; exact Ar11.1) (State.isArrayOf_alike hZ.alike Ar11.2.1) (g := (mkF m 20 #[.val (.ref d), .val (.int (0 : Int32)), .val (.int (Int32.ofNat cs.length)), .val (.int (Int32.ofNat cs.length)), .val (.ref b5)] [(.ref d), (.int (0 : Int32)), (.ref b5), (.int (0 : Int32)), (.ref d)])) rfl rfl (hb hby own_d_jdk_65_method_133_code_20) _ ?_
      rw [len_of S11 NN11]
      show Steps p.tables e below (T5.setTop (mkF m 21 #[.val (.ref d), .val (.int (0 : Int32)), .val (.int (Int32.ofNat cs.length)), .val (.int (Int32.ofNat cs.length)), .val (.ref b5)] [(.int (Int32.ofNat N)), (.int (0 : Int32)), (.ref b5), (.int (0 : Int32)), (.ref d)])) _
      refine XS.iloadN X5.here hx rfl (hb hby own_d_jdk_65_method_133_code_21) rfl ?_
      show Steps p.tables e below (T5.setTop (mkF m 22 #[.val (.ref d), .val (.int (0 : Int32)), .val (.int (Int32.ofNat cs.length)), .val (.int (Int32.ofNat cs.length)), .val (.ref b5)] [(.int (0 : Int32)), (.int (Int32.ofNat N)), (.int (0 : Int32)), (.ref b5), (.int (0 : Int32)), (.ref d)])) _
      refine XS.isub X5.here hx rfl (hb hby own_d_jdk_65_method_133_code_22) rfl ?_
      show Steps p.tables e below (T5.setTop (mkF m 23 #[.val (.ref d), .val (.int (0 : Int32)), .val (.int (Int32.ofNat cs.length)), .val (.int (Int32.ofNat cs.length)), .val (.ref b5)] [(.int ((Int32.ofNat N) - (0 : Int32))), (.int (0 : Int32)), (.ref b5), (.int (0 : Int32)), (.ref d)])) _
      exact kk_)
  have r13 : GoTo p.tables e below s₁ (own_F_own_corb m d cs) T5 (mkF m 23 #[.val (.ref d), .val (.int (0 : Int32)), .val (.int (Int32.ofNat cs.length)), .val (.int (Int32.ofNat cs.length)), .val (.ref b5)] [(.int (Int32.ofNat N)), (.int (0 : Int32)), (.ref b5), (.int (0 : Int32)), (.ref d)]) := Eq.mp (congrArg (fun zz_ => GoTo p.tables e below s₁ (own_F_own_corb m d cs) T5 (mkF m 23 #[.val (.ref d), .val (.int (0 : Int32)), .val (.int (Int32.ofNat cs.length)), .val (.int (Int32.ofNat cs.length)), .val (.ref b5)] [(.int zz_), (.int (0 : Int32)), (.ref b5), (.int (0 : Int32)), (.ref d)])) (show ((Int32.ofNat N) - (0 : Int32)) = (Int32.ofNat N) from (own_subN (a := N) (b := 0) (Nat.zero_le _)))) r12
  obtain ⟨_, _, ⟨T14, L14, k14, n14⟩, -, X14, ⟨Lc14, hQ14, l14, y14, z14⟩, st14⟩ := Jvm.LawKit.callS X5 hx (y := (⟨"java/lang/Math", "min", "(II)I"⟩ : MethodName)) hown (mvT hZ (hw _ (List.mem_of_getElem? (i := 171) rfl))) (mvT hZ (hw _ (List.mem_of_getElem? (i := 172) rfl))) (mvT hZ (hw _ (List.mem_of_getElem? (i := 118) rfl))) (mvT hZ (hw _ (List.mem_of_getElem? (i := 173) rfl))) (by decide) (backOf (W := 4) (own_minN l Z a0 hw [] (N) (cs.length) h5 n0 (O0.keep K9 all0) (hN6) (hc6)) hZ (hw _ (List.mem_of_getElem? (i := 173) rfl)) (hw _ (List.mem_of_getElem? (i := 118) rfl)) (by decide) (by decide)) (g := (mkF m 24 #[.val (.ref d), .val (.int (0 : Int32)), .val (.int (Int32.ofNat cs.length)), .val (.int (Int32.ofNat cs.length)), .val (.ref b5)] [(.int (Int32.ofNat cs.length)), (.int (Int32.ofNat N)), (.int (0 : Int32)), (.ref b5), (.int (0 : Int32)), (.ref d)])) rfl (by rw [hml]; rfl) (argsL := [(.int (Int32.ofNat N)), (.int (Int32.ofNat cs.length))]) (rest := [(.int (0 : Int32)), (.ref b5), (.int (0 : Int32)), (.ref d)]) (lenOf own_pd11 rfl) rfl (by show 2 * 0 + _ ≤ _; exact Nat.le_of_eq rfl) (hb hby own_d_jdk_65_method_133_code_24) (fun _ _ => ⟨rfl, e5, (by decide : 1 + 0 ≤ _), (by decide : 100 + 0 ≤ _)⟩)
  dsimp only [Pt.U, Pt.locs, Pt.cells, Pt.slots] at X14 l14 y14 z14 st14 hQ14
  subst l14 y14 z14
  obtain ⟨rfl, Nq14, hh14⟩ := hQ14
  have N14 := Fr.app N2 Nq14
  have r15 : GoTo p.tables e below s₁ (own_F_own_corb m d cs) T14 (mkF m 27 #[.val (.ref d), .val (.int (0 : Int32)), .val (.int (Int32.ofNat cs.length)), .val (.int (Int32.ofNat cs.length)), .val (.ref b5)] [(.int (Int32.ofNat (min N cs.length))), (.int (0 : Int32)), (.ref b5), (.int (0 : Int32)), (.ref d)]) := fun tt_ kk_ => r13 tt_ (by
      show Steps p.tables e below (T5.setTop (mkF m 23 #[.val (.ref d), .val (.int (0 : Int32)), .val (.int (Int32.ofNat cs.length)), .val (.int (Int32.ofNat cs.length)), .val (.ref b5)] [(.int (Int32.ofNat N)), (.int (0 : Int32)), (.ref b5), (.int (0 : Int32)), (.ref d)])) _
      refine XS.iloadN X5.here hx rfl (hb hby own_d_jdk_65_method_133_code_23) rfl ?_
      show Steps p.tables e below (T5.setTop (mkF m 24 #[.val (.ref d), .val (.int (0 : Int32)), .val (.int (Int32.ofNat cs.length)), .val (.int (Int32.ofNat cs.length)), .val (.ref b5)] [(.int (Int32.ofNat cs.length)), (.int (Int32.ofNat N)), (.int (0 : Int32)), (.ref b5), (.int (0 : Int32)), (.ref d)])) _
      refine st14 _ ?_
      show Steps p.tables e below (T14.setTop (mkF m 27 #[.val (.ref d), .val (.int (0 : Int32)), .val (.int (Int32.ofNat cs.length)), .val (.int (Int32.ofNat cs.length)), .val (.ref b5)] [(.int (Int32.ofNat (min N cs.length))), (.int (0 : Int32)), (.ref b5), (.int (0 : Int32)), (.ref d)])) _
      exact kk_)
  have r16 : GoTo p.tables e below s₁ (own_F_own_corb m d cs) T14 (mkF m 27 #[.val (.ref d), .val (.int (0 : Int32)), .val (.int (Int32.ofNat cs.length)), .val (.int (Int32.ofNat cs.length)), .val (.ref b5)] [(.int (Int32.ofNat cs.length)), (.int (0 : Int32)), (.ref b5), (.int (0 : Int32)), (.ref d)]) := Eq.mp (congrArg (fun zz_ => GoTo p.tables e below s₁ (own_F_own_corb m d cs) T14 (mkF m 27 #[.val (.ref d), .val (.int (0 : Int32)), .val (.int (Int32.ofNat cs.length)), .val (.int (Int32.ofNat cs.length)), .val (.ref b5)] [(.int zz_), (.int (0 : Int32)), (.ref b5), (.int (0 : Int32)), (.ref d)])) (show (Int32.ofNat (min N cs.length)) = (Int32.ofNat cs.length) from by rw [Nat.min_eq_right hcN])) r15
  obtain ⟨us17, hus17⟩ : ∃ us : List Value, us = (List.range cs.length).map fun i => (vs1).getD (0 + i) (.int 0) := ⟨_, rfl⟩
  obtain ⟨T17, h17, L17, X17, e17, N17, Kc17, V17, st17⟩ := cpA X14 hx hZ hown (hw _ (List.mem_of_getElem? (i := 174) rfl)) (hw _ (List.mem_of_getElem? (i := 86) rfl)) (hw _ (List.mem_of_getElem? (i := 84) rfl)) (hw _ (List.mem_of_getElem? (i := 85) rfl)) hh14 (us := us17) f10 Vp (Or.inl ⟨rfl, rfl⟩) (own_negN (by decide : (0 : Nat) ≤ 1000000)) (own_negN (by decide : (0 : Nat) ≤ 1000000)) (own_negN hc6) (by have q0 : (Int32.ofNat 0).toNatClampNeg = 0 := rfl; have q0' : (0 : Int32).toNatClampNeg = 0 := rfl; have q1 := own_clamp hc6; have q2 := own_clamp hN6; (try simp only [List.length_replicate]); omega) (by have q0 : (Int32.ofNat 0).toNatClampNeg = 0 := rfl; have q0' : (0 : Int32).toNatClampNeg = 0 := rfl; have q1 := own_clamp hc6; (try simp only [List.length_replicate]); omega) (by rw [own_clamp hc6, own_clamp (by decide : (0 : Nat) ≤ 1000000)]; exact hus17) (by have q0 : (Int32.ofNat 0).toNatClampNeg = 0 := rfl; have q0' : (0 : Int32).toNatClampNeg = 0 := rfl; have q1 := own_clamp hc6; (try simp only [List.length_replicate]); omega) N14 g7 (g := (mkF m 27 #[.val (.ref d), .val (.int (0 : Int32)), .val (.int (Int32.ofNat cs.length)), .val (.int (Int32.ofNat cs.length)), .val (.ref b5)] [(.int (Int32.ofNat cs.length)), (.int (0 : Int32)), (.ref b5), (.int (0 : Int32)), (.ref d)])) rfl (by rw [hml]; rfl) rfl (hb hby own_d_jdk_65_method_133_code_27) (by decide) (W := 0) (by show 2 * 0 + _ ≤ _; exact Nat.le_of_eq rfl) (by decide)
  rw [own_clamp (by decide : (0 : Nat) ≤ 1000000), own_clamp hc6] at V17
  have K18 : Keep h0 h17 [] := K9.trans Kc17 (allS (Or.inr b8) all0)
  have f19 : Exa Z h17 b5 "[B" := (Ex5.keep Kc17)
  obtain ⟨-, -, -, vq, hq1, hq2, hq3⟩ := own_By.cp f19 hc6 (Nat.le_refl _) (Nat.le_refl _) hus17 hvc1 V17
  obtain ⟨fs, hr, hrun, hended, hW, hsame⟩ := X17.leave (v := some (.ref b5)) (fun h => by rw [Bd.returns] at h; cases h)
  refine ⟨_, _, r16 _ ?_, hrun, hended, _, _, rfl, ?_, ⟨_, rfl⟩, hW, hsame.mono (by decide) (by decide)⟩
  · show Steps p.tables e below (T14.setTop (mkF m 27 #[.val (.ref d), .val (.int (0 : Int32)), .val (.int (Int32.ofNat cs.length)), .val (.int (Int32.ofNat cs.length)), .val (.ref b5)] [(.int (Int32.ofNat cs.length)), (.int (0 : Int32)), (.ref b5), (.int (0 : Int32)), (.ref d)])) _
    refine st17 _ ?_
    show Steps p.tables e below (T17.setTop (mkF m 30 #[.val (.ref d), .val (.int (0 : Int32)), .val (.int (Int32.ofNat cs.length)), .val (.int (Int32.ofNat cs.length)), .val (.ref b5)] [])) _
    refine XS.aload X17.here hx rfl (hb hby own_d_jdk_65_method_133_code_30) rfl rfl ?_
    show Steps p.tables e below (T17.setTop (mkF m 32 #[.val (.ref d), .val (.int (0 : Int32)), .val (.int (Int32.ofNat cs.length)), .val (.int (Int32.ofNat cs.length)), .val (.ref b5)] [(.ref b5)])) _
    exact retOut X17 hx (t := (.array .byte)) Bd.returns rfl (Or.inr (Or.inr (Or.inr (Or.inr ⟨rfl, rfl, rfl⟩)))) (hb hby own_d_jdk_65_method_133_code_32) hr
  · show Q_own_corb Z d kd N cs h0 n0 _ T17.heap _
    rw [e17]
    exact ⟨b5, k5, rfl, N17, K18, b8, g7, own_arvStr hq1 hq3 hq2, f19⟩
theorem own_pn_own_cor : plainName "java/util/Arrays" = true := by first | (simp [plainName, overriddenIn]; done) | decide +kernel
theorem own_ef_own_cor (m : MethodId) (d : Addr) (cs : List Int32) : entryFrame m #[(.ref d), (.int (0 : Int32)), (.int (Int32.ofNat cs.length))] 3 = mkF m 0 #[.val (.ref d), .val (.int (0 : Int32)), .val (.int (Int32.ofNat cs.length))] [] := by first | (simp [entryFrame, mkF, argsToLocals, own_cI, own_cJ, own_cR, own_cN]; done) | rfl
abbrev own_F_own_cor (m : MethodId) (d : Addr) (cs : List Int32) : JFrame := entryFrame m #[(.ref d), (.int (0 : Int32)), (.int (Int32.ofNat cs.length))] 3
def Q_own_cor (Z : State) (d : Addr) (kd : ClassId) (N : Nat) (cs : List Int32) (h0 : Heap) (n0 : Nat) (v : Option Value) (h : Heap) (L : List Loc) : Prop := ∃ (b2 : Addr), ∃ (k2 : ClassId), v = some (.ref b2) ∧ Fr n0 L ∧ Keep h0 h [] ∧ (h0.size ≤ b2) ∧ (n0 ≤ b2) ∧ (Arv Z h b2 k2 .byte (Int32.ofNat cs.length) ((cs.map fun c => c.toInt8.toInt32).map Value.int) (.int (0 : Int32))) ∧ (Exa Z h b2 "[B")
set_option maxRecDepth 65536 in
set_option maxHeartbeats 40000000 in
theorem own_cor (l : Launch) (Z : State) (a0 : Array Value) (hw : ∀ d ∈ tables_1, d.before a0 Z = true) (ws : List Jvm.Cond) (d : Addr) (kd : ClassId) (N : Nat) (cs : List Int32) (h0 : Heap) (n0 : Nat) (O0 : Old Z n0 h0) (hp0 : own_By Z h0 d kd N cs) (hcc : cs.length ≤ 100) (hcN0 : ¬ cs.length = N) :
    MetFree l (⟨"java/util/Arrays", "copyOfRange", "([BII)[B"⟩ : MethodName) (head1 (Jvm.Cond.code (⟨"java/util/Arrays", "copyOfRange", "([BII)[B"⟩ : MethodName) jdk_65_method_132_code 3 (some (.array .byte)) :: ws) ({ frames := 2, cells := 1, slots := 100, locals := 34 } : Room)) (fun aa_ U_ => aa_ = #[(.ref d), (.int (0 : Int32)), (.int (Int32.ofNat cs.length))] ∧ Z.Warmed39 U_.vm ∧ U_.heap = h0) (fun _ _ _ _ _ => True) (fun _ U_ o_ V_ => ∃ v_ L_, o_ = .returned v_ ∧ Q_own_cor Z d kd N cs h0 n0 v_ V_.heap L_ ∧ FrameEnd U_ o_ V_ L_ ({ frames := 2, cells := 1, slots := 100, locals := 34 } : Room).cells ({ frames := 2, cells := 1, slots := 100, locals := 34 } : Room).slots) := by
  refine MetFree.of_bodySF (plainFor_of_name own_pn_own_cor) hisR ?_
  intro p e s m args below meth c s₁ Bd hml0 hP hK
  obtain ⟨rfl, hZ, hh⟩ := hP
  have hx := Bd.exec
  have hby := Bd.bytes
  have hml : c.maxLocals = 3 := hml0
  have hown : s.vm.findClass "java/util/Arrays" = some m.cls := findClass_of_methodNamed Bd.named
  have hnm := (name_of_methodNamed Bd.named Bd.method).1
  have X0 : Stand p l e ({ frames := 2, cells := 1, slots := 100, locals := 34 } : Room) s m #[(.ref d), (.int (0 : Int32)), (.int (Int32.ofNat cs.length))] below meth c s₁ [] 0 0 := Stand.of_body Bd
  have e0 : s₁.heap = h0 := by rw [← hh, Bd.state]; rfl
  have N0 := Fr.nil n0
  have K0 : Keep h0 h0 [] := Keep.refl _ _
  have r0 : GoTo p.tables e below s₁ (own_F_own_cor m d cs) s₁ (mkF m 0 #[.val (.ref d), .val (.int (0 : Int32)), .val (.int (Int32.ofNat cs.length))] []) := fun tt_ kk_ => castTop (own_ef_own_cor m d cs) kk_
  obtain ⟨vs1, hvl1, hva1, hvc1⟩ := own_By.arv hp0
  have hN6 := hp0.2.2.1
  have hcN := hp0.2.1
  have hc6 : cs.length ≤ 1000000 := by omega
  obtain ⟨cl2, Ar2, q2, S2, NN2, H2, G2⟩ := id hva1
  have r3 : GoTo p.tables e below s₁ (own_F_own_cor m d cs) s₁ (mkF m 7 #[.val (.ref d), .val (.int (0 : Int32)), .val (.int (Int32.ofNat cs.length))] [(.int (Int32.ofNat N)), (.int (Int32.ofNat cs.length))]) := fun tt_ kk_ => r0 tt_ (by
      show Steps p.tables e below (s₁.setTop (mkF m 0 #[.val (.ref d), .val (.int (0 : Int32)), .val (.int (Int32.ofNat cs.length))] [])) _
      refine XS.iloadN X0.here hx rfl (hb hby own_d_jdk_65_method_132_code_0) rfl ?_
      show Steps p.tables e below (s₁.setTop (mkF m 1 #[.val (.ref d), .val (.int (0 : Int32)), .val (.int (Int32.ofNat cs.length))] [(.int (0 : Int32))])) _
      refine XS.ifNo X0.here hx rfl (hb hby own_d_jdk_65_method_132_code_1) rfl ((if0 _ _).trans (teq rfl).2) ?_
      show Steps p.tables e below (s₁.setTop (mkF m 4 #[.val (.ref d), .val (.int (0 : Int32)), .val (.int (Int32.ofNat cs.length))] [])) _
      refine XS.iloadN X0.here hx rfl (hb hby own_d_jdk_65_method_132_code_4) rfl ?_
      show Steps p.tables e below (s₁.setTop (mkF m 5 #[.val (.ref d), .val (.int (0 : Int32)), .val (.int (Int32.ofNat cs.length))] [(.int (Int32.ofNat cs.length))])) _
      refine XS.aloadN X0.here hx rfl (hb hby own_d_jdk_65_method_132_code_5) rfl rfl ?_
      show Steps p.tables e below (s₁.setTop (mkF m 6 #[.val (.ref d), .val (.int (0 : Int32)), .val (.int (Int32.ofNat cs.length))] [(.ref d), (.int (Int32.ofNat cs.length))])) _
      refine X0.arraylength hx (by rw [e0]; exact Ar2.1) (State.isArrayOf_alike hZ.alike Ar2.2.1) (g := (mkF m 6 #[.val (.ref d), .val (.int (0 : Int32)), .val (.int (Int32.ofNat cs.length))] [(.ref d), (.int (Int32.ofNat cs.length))])) rfl rfl (hb hby own_d_jdk_65_method_132_code_6) _ ?_
      rw [len_of S2 NN2]
      show Steps p.tables e below (s₁.setTop (mkF m 7 #[.val (.ref d), .val (.int (0 : Int32)), .val (.int (Int32.ofNat cs.length))] [(.int (Int32.ofNat N)), (.int (Int32.ofNat cs.length))])) _
      exact kk_)
  by_cases hcn : cs.length = N
  · exact (hcN0 hcn).elim
  · obtain ⟨_, _, ⟨T4, L4, k4, n4⟩, -, X4, ⟨Lc4, hQ4, l4, y4, z4⟩, st4⟩ := Jvm.LawKit.callS X0 hx (y := (⟨"java/util/Arrays", "copyOfRangeByte", "([BII)[B"⟩ : MethodName)) hown (mvT hZ (hw _ (List.mem_of_getElem? (i := 165) rfl))) (mvT hZ (hw _ (List.mem_of_getElem? (i := 166) rfl))) (mvT hZ (hw _ (List.mem_of_getElem? (i := 128) rfl))) (mvT hZ (hw _ (List.mem_of_getElem? (i := 167) rfl))) (by decide) (backOf (W := 0) (own_corb l Z a0 hw [] (d) (kd) (N) (cs) h0 n0 (O0.keep K0 all0) (hp0) (hcc)) hZ (hw _ (List.mem_of_getElem? (i := 167) rfl)) (hw _ (List.mem_of_getElem? (i := 128) rfl)) (by decide) (by decide)) (g := (mkF m 13 #[.val (.ref d), .val (.int (0 : Int32)), .val (.int (Int32.ofNat cs.length))] [(.int (Int32.ofNat cs.length)), (.int (0 : Int32)), (.ref d)])) rfl (by rw [hml]; rfl) (argsL := [(.ref d), (.int (0 : Int32)), (.int (Int32.ofNat cs.length))]) (rest := []) (lenOf own_pd12 rfl) rfl (by show 2 * 0 + _ ≤ _; exact Nat.le_of_eq rfl) (hb hby own_d_jdk_65_method_132_code_13) (fun _ _ => ⟨rfl, e0, (by decide : 0 + 1 ≤ _), (by decide : 0 + 100 ≤ _)⟩)
    dsimp only [Pt.U, Pt.locs, Pt.cells, Pt.slots] at X4 l4 y4 z4 st4 hQ4
    subst l4 y4 z4
    obtain ⟨b2_4, k2_4, rfl, Nq4, Kq4, po4_0, po4_1, po4_2, po4_3⟩ := hQ4
    have N4 := Fr.app N0 Nq4
    have ne5 : d ≠ b2_4 := Nat.ne_of_lt (Nat.lt_of_lt_of_le hp0.lt po4_0)
    have g6 : n0 ≤ b2_4 := Nat.le_trans (Nat.le_trans (own_le O0) K0.1) po4_0
    have b7 : h0.size ≤ b2_4 := Nat.le_trans K0.1 po4_0
    have K8 : Keep h0 T4.heap [] := K0.trans Kq4 all0
    obtain ⟨fs, hr, hrun, hended, hW, hsame⟩ := X4.leave (v := some (.ref b2_4)) (fun h => by rw [Bd.returns] at h; cases h)
    refine ⟨_, _, r3 _ ?_, hrun, hended, _, _, rfl, ?_, ⟨_, rfl⟩, hW, hsame.mono (by decide) (by decide)⟩
    · show Steps p.tables e below (s₁.setTop (mkF m 7 #[.val (.ref d), .val (.int (0 : Int32)), .val (.int (Int32.ofNat cs.length))] [(.int (Int32.ofNat N)), (.int (Int32.ofNat cs.length))])) _
      refine XS.icmpNo X0.here hx rfl (hb hby own_d_jdk_65_method_132_code_7) rfl (feq (fun q => hcn ((own_eqN hc6 hN6).mp q))).1 ?_
      show Steps p.tables e below (s₁.setTop (mkF m 10 #[.val (.ref d), .val (.int (0 : Int32)), .val (.int (Int32.ofNat cs.length))] [])) _
      refine XS.aloadN X0.here hx rfl (hb hby own_d_jdk_65_method_132_code_10) rfl rfl ?_
      show Steps p.tables e below (s₁.setTop (mkF m 11 #[.val (.ref d), .val (.int (0 : Int32)), .val (.int (Int32.ofNat cs.length))] [(.ref d)])) _
      refine XS.iloadN X0.here hx rfl (hb hby own_d_jdk_65_method_132_code_11) rfl ?_
      show Steps p.tables e below (s₁.setTop (mkF m 12 #[.val (.ref d), .val (.int (0 : Int32)), .val (.int (Int32.ofNat cs.length))] [(.int (0 : Int32)), (.ref d)])) _
      refine XS.iloadN X0.here hx rfl (hb hby own_d_jdk_65_method_132_code_12) rfl ?_
      show Steps p.tables e below (s₁.setTop (mkF m 13 #[.val (.ref d), .val (.int (0 : Int32)), .val (.int (Int32.ofNat cs.length))] [(.int (Int32.ofNat cs.length)), (.int (0 : Int32)), (.ref d)])) _
      refine st4 _ ?_
      show Steps p.tables e below (T4.setTop (mkF m 16 #[.val (.ref d), .val (.int (0 : Int32)), .val (.int (Int32.ofNat cs.length))] [(.ref b2_4)])) _
      exact retOut X4 hx (t := (.array .byte)) Bd.returns rfl (Or.inr (Or.inr (Or.inr (Or.inr ⟨rfl, rfl, rfl⟩)))) (hb hby own_d_jdk_65_method_132_code_16) hr
    · show Q_own_cor Z d kd N cs h0 n0 _ T4.heap _
      exact ⟨b2_4, k2_4, rfl, N4, K8, b7, po4_1, po4_2, po4_3⟩
theorem own_pn_own_agetValue : plainName "java/lang/AbstractStringBuilder" = true := by first | (simp [plainName, overriddenIn]; done) | decide +kernel
theorem own_ef_own_agetValue (m : MethodId) (b : Addr) : entryFrame m #[(.ref b)] 1 = mkF m 0 #[.val (.ref b)] [] := by first | (simp [entryFrame, mkF, argsToLocals, own_cI, own_cJ, own_cR, own_cN]; done) | rfl
abbrev own_F_own_agetValue (m : MethodId) (b : Addr) : JFrame := entryFrame m #[(.ref b)] 1
def Q_own_agetValue (Z : State) (b : Addr) (d : Addr) (h0 : Heap) (n0 : Nat) (v : Option Value) (h : Heap) (L : List Loc) : Prop := v = some (.ref d) ∧ Fr n0 L ∧ h = h0
set_option maxRecDepth 65536 in
set_option maxHeartbeats 40000000 in
theorem own_agetValue (l : Launch) (Z : State) (a0 : Array Value) (hw : ∀ d ∈ tables_1, d.before a0 Z = true) (ws : List Jvm.Cond) (b : Addr) (d : Addr) (h0 : Heap) (n0 : Nat) (O0 : Old Z n0 h0) (hp0 : Fld Z h0 b "java/lang/AbstractStringBuilder" "value" "[B" (.ref d)) :
    MetFree l (⟨"java/lang/AbstractStringBuilder", "getValue", "()[B"⟩ : MethodName) (head1 (Jvm.Cond.code (⟨"java/lang/AbstractStringBuilder", "getValue", "()[B"⟩ : MethodName) jdk_68_method_64_code 1 (some (.array .byte)) :: ws) ({ frames := 0, cells := 0, slots := 0, locals := 0 } : Room)) (fun aa_ U_ => aa_ = #[(.ref b)] ∧ Z.Warmed39 U_.vm ∧ U_.heap = h0) (fun _ _ _ _ _ => True) (fun _ U_ o_ V_ => ∃ v_ L_, o_ = .returned v_ ∧ Q_own_agetValue Z b d h0 n0 v_ V_.heap L_ ∧ FrameEnd U_ o_ V_ L_ ({ frames := 0, cells := 0, slots := 0, locals := 0 } : Room).cells ({ frames := 0, cells := 0, slots := 0, locals := 0 } : Room).slots) := by
  refine MetFree.of_bodySF (plainFor_of_name own_pn_own_agetValue) hisR ?_
  intro p e s m args below meth c s₁ Bd hml0 hP hK
  obtain ⟨rfl, hZ, hh⟩ := hP
  have hx := Bd.exec
  have hby := Bd.bytes
  have hml : c.maxLocals = 1 := hml0
  have hown : s.vm.findClass "java/lang/AbstractStringBuilder" = some m.cls := findClass_of_methodNamed Bd.named
  have hnm := (name_of_methodNamed Bd.named Bd.method).1
  have X0 : Stand p l e ({ frames := 0, cells := 0, slots := 0, locals := 0 } : Room) s m #[(.ref b)] below meth c s₁ [] 0 0 := Stand.of_body Bd
  have e0 : s₁.heap = h0 := by rw [← hh, Bd.state]; rfl
  have N0 := Fr.nil n0
  have K0 : Keep h0 h0 [] := Keep.refl _ _
  have r0 : GoTo p.tables e below s₁ (own_F_own_agetValue m b) s₁ (mkF m 0 #[.val (.ref b)] []) := fun tt_ kk_ => castTop (own_ef_own_agetValue m b) kk_
  obtain ⟨T1, X1, e1, st1⟩ := getF X0 hx hZ hown (host := "") (Or.inl (hw _ (List.mem_of_getElem? (i := 29) rfl))) Via.refl e0 hp0 (g := (mkF m 1 #[.val (.ref b)] [(.ref b)])) rfl rfl (hb hby own_d_jdk_68_method_64_code_1)
  obtain ⟨fs, hr, hrun, hended, hW, hsame⟩ := X1.leave (v := some (.ref d)) (fun h => by rw [Bd.returns] at h; cases h)
  refine ⟨_, _, r0 _ ?_, hrun, hended, _, _, rfl, ?_, ⟨_, rfl⟩, hW, hsame.mono (by decide) (by decide)⟩
  · show Steps p.tables e below (s₁.setTop (mkF m 0 #[.val (.ref b)] [])) _
    refine XS.aloadN X0.here hx rfl (hb hby own_d_jdk_68_method_64_code_0) rfl rfl ?_
    show Steps p.tables e below (s₁.setTop (mkF m 1 #[.val (.ref b)] [(.ref b)])) _
    refine st1 _ ?_
    show Steps p.tables e below (T1.setTop (mkF m 4 #[.val (.ref b)] [(.ref d)])) _
    exact retOut X1 hx (t := (.array .byte)) Bd.returns rfl (Or.inr (Or.inr (Or.inr (Or.inr ⟨rfl, rfl, rfl⟩)))) (hb hby own_d_jdk_68_method_64_code_4) hr
  · show Q_own_agetValue Z b d h0 n0 _ T1.heap _
    rw [e1]
    exact ⟨rfl, N0, rfl⟩
theorem own_pn_own_alength : plainName "java/lang/AbstractStringBuilder" = true := by first | (simp [plainName, overriddenIn]; done) | decide +kernel
theorem own_ef_own_alength (m : MethodId) (b : Addr) : entryFrame m #[(.ref b)] 1 = mkF m 0 #[.val (.ref b)] [] := by first | (simp [entryFrame, mkF, argsToLocals, own_cI, own_cJ, own_cR, own_cN]; done) | rfl
abbrev own_F_own_alength (m : MethodId) (b : Addr) : JFrame := entryFrame m #[(.ref b)] 1
def Q_own_alength (Z : State) (b : Addr) (cs : List Int32) (h0 : Heap) (n0 : Nat) (v : Option Value) (h : Heap) (L : List Loc) : Prop := v = some (.int (Int32.ofNat cs.length)) ∧ Fr n0 L ∧ h = h0
set_option maxRecDepth 65536 in
set_option maxHeartbeats 40000000 in
theorem own_alength (l : Launch) (Z : State) (a0 : Array Value) (hw : ∀ d ∈ tables_1, d.before a0 Z = true) (ws : List Jvm.Cond) (b : Addr) (cs : List Int32) (h0 : Heap) (n0 : Nat) (O0 : Old Z n0 h0) (hp0 : Fld Z h0 b "java/lang/AbstractStringBuilder" "count" "I" (.int (Int32.ofNat cs.length))) :
    MetFree l (⟨"java/lang/AbstractStringBuilder", "length", "()I"⟩ : MethodName) (head1 (Jvm.Cond.code (⟨"java/lang/AbstractStringBuilder", "length", "()I"⟩ : MethodName) jdk_68_method_6_code 1 (some .int) :: ws) ({ frames := 0, cells := 0, slots := 0, locals := 0 } : Room)) (fun aa_ U_ => aa_ = #[(.ref b)] ∧ Z.Warmed39 U_.vm ∧ U_.heap = h0) (fun _ _ _ _ _ => True) (fun _ U_ o_ V_ => ∃ v_ L_, o_ = .returned v_ ∧ Q_own_alength Z b cs h0 n0 v_ V_.heap L_ ∧ FrameEnd U_ o_ V_ L_ ({ frames := 0, cells := 0, slots := 0, locals := 0 } : Room).cells ({ frames := 0, cells := 0, slots := 0, locals := 0 } : Room).slots) := by
  refine MetFree.of_bodySF (plainFor_of_name own_pn_own_alength) hisR ?_
  intro p e s m args below meth c s₁ Bd hml0 hP hK
  obtain ⟨rfl, hZ, hh⟩ := hP
  have hx := Bd.exec
  have hby := Bd.bytes
  have hml : c.maxLocals = 1 := hml0
  have hown : s.vm.findClass "java/lang/AbstractStringBuilder" = some m.cls := findClass_of_methodNamed Bd.named
  have hnm := (name_of_methodNamed Bd.named Bd.method).1
  have X0 : Stand p l e ({ frames := 0, cells := 0, slots := 0, locals := 0 } : Room) s m #[(.ref b)] below meth c s₁ [] 0 0 := Stand.of_body Bd
  have e0 : s₁.heap = h0 := by rw [← hh, Bd.state]; rfl
  have N0 := Fr.nil n0
  have K0 : Keep h0 h0 [] := Keep.refl _ _
  have r0 : GoTo p.tables e below s₁ (own_F_own_alength m b) s₁ (mkF m 0 #[.val (.ref b)] []) := fun tt_ kk_ => castTop (own_ef_own_alength m b) kk_
  obtain ⟨T1, X1, e1, st1⟩ := getF X0 hx hZ hown (host := "") (Or.inl (hw _ (List.mem_of_getElem? (i := 60) rfl))) Via.refl e0 hp0 (g := (mkF m 1 #[.val (.ref b)] [(.ref b)])) rfl rfl (hb hby own_d_jdk_68_method_6_code_1)
  obtain ⟨fs, hr, hrun, hended, hW, hsame⟩ := X1.leave (v := some (.int (Int32.ofNat cs.length))) (fun h => by rw [Bd.returns] at h; cases h)
  refine ⟨_, _, r0 _ ?_, hrun, hended, _, _, rfl, ?_, ⟨_, rfl⟩, hW, hsame.mono (by decide) (by decide)⟩
  · show Steps p.tables e below (s₁.setTop (mkF m 0 #[.val (.ref b)] [])) _
    refine XS.aloadN X0.here hx rfl (hb hby own_d_jdk_68_method_6_code_0) rfl rfl ?_
    show Steps p.tables e below (s₁.setTop (mkF m 1 #[.val (.ref b)] [(.ref b)])) _
    refine st1 _ ?_
    show Steps p.tables e below (T1.setTop (mkF m 4 #[.val (.ref b)] [(.int (Int32.ofNat cs.length))])) _
    exact retI X1 hx Bd.returns (hb hby own_d_jdk_68_method_6_code_4) hr
  · show Q_own_alength Z b cs h0 n0 _ T1.heap _
    rw [e1]
    exact ⟨rfl, N0, rfl⟩
theorem own_pn_own_slength : plainName "java/lang/StringBuilder" = true := by first | (simp [plainName, overriddenIn]; done) | decide +kernel
theorem own_ef_own_slength (m : MethodId) (b : Addr) : entryFrame m #[(.ref b)] 1 = mkF m 0 #[.val (.ref b)] [] := by first | (simp [entryFrame, mkF, argsToLocals, own_cI, own_cJ, own_cR, own_cN]; done) | rfl
abbrev own_F_own_slength (m : MethodId) (b : Addr) : JFrame := entryFrame m #[(.ref b)] 1
def Q_own_slength (Z : State) (b : Addr) (cs : List Int32) (h0 : Heap) (n0 : Nat) (v : Option Value) (h : Heap) (L : List Loc) : Prop := v = some (.int (Int32.ofNat cs.length)) ∧ Fr n0 L ∧ h = h0
set_option maxRecDepth 65536 in
set_option maxHeartbeats 40000000 in
theorem own_slength (l : Launch) (Z : State) (a0 : Array Value) (hw : ∀ d ∈ tables_1, d.before a0 Z = true) (ws : List Jvm.Cond) (b : Addr) (cs : List Int32) (h0 : Heap) (n0 : Nat) (O0 : Old Z n0 h0) (hp0 : Exa Z h0 b "java/lang/StringBuilder") (hp1 : Fld Z h0 b "java/lang/AbstractStringBuilder" "count" "I" (.int (Int32.ofNat cs.length))) :
    MetFree l (⟨"java/lang/StringBuilder", "length", "()I"⟩ : MethodName) (head1 (Jvm.Cond.code (⟨"java/lang/StringBuilder", "length", "()I"⟩ : MethodName) jdk_67_method_93_code 1 (some .int) :: ws) ({ frames := 1, cells := 0, slots := 0, locals := 12 } : Room)) (fun aa_ U_ => aa_ = #[(.ref b)] ∧ Z.Warmed39 U_.vm ∧ U_.heap = h0) (fun _ _ _ _ _ => True) (fun _ U_ o_ V_ => ∃ v_ L_, o_ = .returned v_ ∧ Q_own_slength Z b cs h0 n0 v_ V_.heap L_ ∧ FrameEnd U_ o_ V_ L_ ({ frames := 1, cells := 0, slots := 0, locals := 12 } : Room).cells ({ frames := 1, cells := 0, slots := 0, locals := 12 } : Room).slots) := by
  refine MetFree.of_bodySF (plainFor_of_name own_pn_own_slength) hisR ?_
  intro p e s m args below meth c s₁ Bd hml0 hP hK
  obtain ⟨rfl, hZ, hh⟩ := hP
  have hx := Bd.exec
  have hby := Bd.bytes
  have hml : c.maxLocals = 1 := hml0
  have hown : s.vm.findClass "java/lang/StringBuilder" = some m.cls := findClass_of_methodNamed Bd.named
  have hnm := (name_of_methodNamed Bd.named Bd.method).1
  have X0 : Stand p l e ({ frames := 1, cells := 0, slots := 0, locals := 12 } : Room) s m #[(.ref b)] below meth c s₁ [] 0 0 := Stand.of_body Bd
  have e0 : s₁.heap = h0 := by rw [← hh, Bd.state]; rfl
  have N0 := Fr.nil n0
  have K0 : Keep h0 h0 [] := Keep.refl _ _
  have r0 : GoTo p.tables e below s₁ (own_F_own_slength m b) s₁ (mkF m 0 #[.val (.ref b)] []) := fun tt_ kk_ => castTop (own_ef_own_slength m b) kk_
  obtain ⟨_, _, ⟨T1, L1, k1, n1⟩, -, X1, ⟨Lc1, hQ1, l1, y1, z1⟩, st1⟩ := superBack X0 hx hZ (y := (⟨"java/lang/AbstractStringBuilder", "length", "()I"⟩ : MethodName)) hown (hw _ (List.mem_of_getElem? (i := 155) rfl)) (own_sameSelf (y := (⟨"java/lang/AbstractStringBuilder", "length", "()I"⟩ : MethodName)) (hw _ (List.mem_of_getElem? (i := 65) rfl)) rfl (hw _ (List.mem_of_getElem? (i := 151) rfl)) (by decide)) (hw _ (List.mem_of_getElem? (i := 151) rfl)) (hw _ (List.mem_of_getElem? (i := 42) rfl)) (by decide) (backOf (W := 0) (own_alength l Z a0 hw [] (b) (cs) h0 n0 (O0.keep K0 all0) (hp1)) hZ (hw _ (List.mem_of_getElem? (i := 156) rfl)) (hw _ (List.mem_of_getElem? (i := 21) rfl)) (by decide) (by decide)) e0 (Ins.self hp0) (g := (mkF m 1 #[.val (.ref b)] [(.ref b)])) rfl (by rw [hml]; rfl) (hw _ (List.mem_of_getElem? (i := 156) rfl)) (argsL := []) (rest := []) (lenOf own_pd8 rfl) rfl (by show 2 * 0 + _ ≤ _; exact Nat.le_of_eq rfl) (hb hby own_d_jdk_67_method_93_code_1) (fun _ _ => ⟨rfl, e0, (by decide : 0 + 0 ≤ _), (by decide : 0 + 0 ≤ _)⟩)
  dsimp only [Pt.U, Pt.locs, Pt.cells, Pt.slots] at X1 l1 y1 z1 st1 hQ1
  subst l1 y1 z1
  obtain ⟨rfl, Nq1, hh1⟩ := hQ1
  have N1 := Fr.app N0 Nq1
  obtain ⟨fs, hr, hrun, hended, hW, hsame⟩ := X1.leave (v := some (.int (Int32.ofNat cs.length))) (fun h => by rw [Bd.returns] at h; cases h)
  refine ⟨_, _, r0 _ ?_, hrun, hended, _, _, rfl, ?_, ⟨_, rfl⟩, hW, hsame.mono (by decide) (by decide)⟩
  · show Steps p.tables e below (s₁.setTop (mkF m 0 #[.val (.ref b)] [])) _
    refine XS.aloadN X0.here hx rfl (hb hby own_d_jdk_67_method_93_code_0) rfl rfl ?_
    show Steps p.tables e below (s₁.setTop (mkF m 1 #[.val (.ref b)] [(.ref b)])) _
    refine st1.trans ?_
    show Steps p.tables e below (T1.setTop (mkF m 4 #[.val (.ref b)] [(.int (Int32.ofNat cs.length))])) _
    exact retI X1 hx Bd.returns (hb hby own_d_jdk_67_method_93_code_4) hr
  · show Q_own_slength Z b cs h0 n0 _ T1.heap _
    rw [hh1]
    exact ⟨rfl, N1, rfl⟩
theorem own_pn_own_strA : plainName "java/lang/String" = true := by first | (simp [plainName, overriddenIn]; done) | decide +kernel
theorem own_ef_own_strA (m : MethodId) (x : Addr) (b : Addr) : entryFrame m #[(.ref x), (.ref b), .null] 5 = mkF m 0 #[.val (.ref x), .val (.ref b), .val .null, .unset, .unset] [] := by first | (simp [entryFrame, mkF, argsToLocals, own_cI, own_cJ, own_cR, own_cN]; done) | rfl
abbrev own_F_own_strA (m : MethodId) (x : Addr) (b : Addr) : JFrame := entryFrame m #[(.ref x), (.ref b), .null] 5
def Q_own_strA (Z : State) (x : Addr) (b : Addr) (d : Addr) (kd : ClassId) (N : Nat) (cs : List Int32) (gCS : Int32) (h0 : Heap) (n0 : Nat) (v : Option Value) (h : Heap) (L : List Loc) : Prop := ∃ (t : Addr), ∃ (kt : ClassId), v = none ∧ Fr n0 L ∧ Keep h0 h [x] ∧ (h0.size ≤ t) ∧ (n0 ≤ t) ∧ (own_Str Z h x t kt cs)
set_option maxRecDepth 65536 in
set_option maxHeartbeats 40000000 in
theorem own_strA (l : Launch) (Z : State) (a0 : Array Value) (hw : ∀ d ∈ tables_1, d.before a0 Z = true) (ws : List Jvm.Cond) (x : Addr) (b : Addr) (d : Addr) (kd : ClassId) (N : Nat) (cs : List Int32) (gCS : Int32) (h0 : Heap) (n0 : Nat) (O0 : Old Z n0 h0) (hp0 : Exa Z h0 x "java/lang/String") (hp1 : n0 ≤ x) (hp2 : Fld Z h0 x "java/lang/String" "value" "[B" .null) (hp3 : Fld Z h0 x "java/lang/String" "coder" "B" (.int (0 : Int32))) (hp4 : own_SB Z h0 b d kd N cs) (hp5 : x ≠ b) (hp6 : x ≠ d) (hcc : cs.length ≤ 100) (hcN0 : ¬ cs.length = N) (hp9 : Sta Z Z.heap "java/lang/String" "COMPACT_STRINGS" "Z" (.int gCS)) (hG1 : ¬ gCS = (0 : Int32)) :
    MetFree l (⟨"java/lang/String", "<init>", "(Ljava/lang/AbstractStringBuilder;Ljava/lang/Void;)V"⟩ : MethodName) (head1 (Jvm.Cond.code (⟨"java/lang/String", "<init>", "(Ljava/lang/AbstractStringBuilder;Ljava/lang/Void;)V"⟩ : MethodName) jdk_42_method_150_code 5 none :: ws) ({ frames := 3, cells := 1, slots := 100, locals := 49 } : Room)) (fun aa_ U_ => aa_ = #[(.ref x), (.ref b), .null] ∧ Z.Warmed39 U_.vm ∧ U_.heap = h0) (fun _ _ _ _ _ => True) (fun _ U_ o_ V_ => ∃ v_ L_, o_ = .returned v_ ∧ Q_own_strA Z x b d kd N cs gCS h0 n0 v_ V_.heap L_ ∧ FrameEnd U_ o_ V_ L_ ({ frames := 3, cells := 1, slots := 100, locals := 49 } : Room).cells ({ frames := 3, cells := 1, slots := 100, locals := 49 } : Room).slots) := by
  refine MetFree.of_bodySF (plainFor_of_name own_pn_own_strA) hisR ?_
  intro p e s m args below meth c s₁ Bd hml0 hP hK
  obtain ⟨rfl, hZ, hh⟩ := hP
  have hx := Bd.exec
  have hby := Bd.bytes
  have hml : c.maxLocals = 5 := hml0
  have hown : s.vm.findClass "java/lang/String" = some m.cls := findClass_of_methodNamed Bd.named
  have hnm := (name_of_methodNamed Bd.named Bd.method).1
  have X0 : Stand p l e ({ frames := 3, cells := 1, slots := 100, locals := 49 } : Room) s m #[(.ref x), (.ref b), .null] below meth c s₁ [] 0 0 := Stand.of_body Bd
  have e0 : s₁.heap = h0 := by rw [← hh, Bd.state]; rfl
  have N0 := Fr.nil n0
  have K0 : Keep h0 h0 [x] := Keep.refl _ _
  have r0 : GoTo p.tables e below s₁ (own_F_own_strA m x b) s₁ (mkF m 0 #[.val (.ref x), .val (.ref b), .val .null, .unset, .unset] []) := fun tt_ kk_ => castTop (own_ef_own_strA m x b) kk_
  obtain ⟨T1, X1, e1, st1⟩ := initO X0 hx hZ hown (hw _ (List.mem_of_getElem? (i := 111) rfl)) (hw _ (List.mem_of_getElem? (i := 24) rfl)) (hw _ (List.mem_of_getElem? (i := 25) rfl)) e0 (g := (mkF m 1 #[.val (.ref x), .val (.ref b), .val .null, .unset, .unset] [(.ref x)])) rfl (by rw [hml]; rfl) rfl (hb hby own_d_jdk_42_method_150_code_1) (by decide) (W := 0) (by show 2 * 0 + _ ≤ _; exact Nat.le_of_eq rfl) (by decide)
  obtain ⟨cq2, kq2, qa2, qb2, qc2⟩ := isOf hZ e1 hp4.1
  obtain ⟨_, _, ⟨T2, L2, k2, n2⟩, -, X2, ⟨Lc2, hQ2, l2, y2, z2⟩, st2⟩ := X1.virtualBack hx (y := (⟨"java/lang/AbstractStringBuilder", "getValue", "()[B"⟩ : MethodName)) (z := (⟨"java/lang/AbstractStringBuilder", "getValue", "()[B"⟩ : MethodName)) hown (mvT hZ (hw _ (List.mem_of_getElem? (i := 144) rfl))) (mvT hZ (hw _ (List.mem_of_getElem? (i := 145) rfl))) (notFace_of_selects (args := #[]) (mvT hZ (hw _ (List.mem_of_getElem? (i := 147) rfl)))) (mvT hZ (hw _ (List.mem_of_getElem? (i := 147) rfl))) (mvT hZ (hw _ (List.mem_of_getElem? (i := 146) rfl))) (by decide) (backOf (W := 0) (own_agetValue l Z a0 hw [] (b) (d) h0 n0 (O0.keep K0 (allS hp1 all0)) (hp4.2.1)) hZ (hw _ (List.mem_of_getElem? (i := 148) rfl)) (hw _ (List.mem_of_getElem? (i := 21) rfl)) (by decide) (by decide)) qa2 qc2 (g := (mkF m 5 #[.val (.ref x), .val (.ref b), .val .null, .unset, .unset] [(.ref b)])) rfl (by rw [hml]; rfl) (Steps.refl _) (argsL := []) (rest := []) (lenOf own_pd13 rfl) rfl (by show 2 * 0 + _ ≤ _; exact Nat.le_of_eq rfl) (hb hby own_d_jdk_42_method_150_code_5) (fun _ _ => ⟨rfl, e1, (by decide : 0 + 0 ≤ _), (by decide : 0 + 0 ≤ _)⟩)
  dsimp only [Pt.U, Pt.locs, Pt.cells, Pt.slots] at X2 l2 y2 z2 st2 hQ2
  subst l2 y2 z2
  obtain ⟨rfl, Nq2, hh2⟩ := hQ2
  have N2 := Fr.app N0 Nq2
  obtain ⟨cq3, kq3, qa3, qb3, qc3⟩ := isOf hZ hh2 hp4.1
  obtain ⟨_, _, ⟨T3, L3, k3, n3⟩, -, X3, ⟨Lc3, hQ3, l3, y3, z3⟩, st3⟩ := X2.virtualBack hx (y := (⟨"java/lang/AbstractStringBuilder", "length", "()I"⟩ : MethodName)) (z := (⟨"java/lang/StringBuilder", "length", "()I"⟩ : MethodName)) hown (mvT hZ (hw _ (List.mem_of_getElem? (i := 149) rfl))) (mvT hZ (hw _ (List.mem_of_getElem? (i := 150) rfl))) (own_notFace (args := #[]) (mvT hZ (hw _ (List.mem_of_getElem? (i := 65) rfl))) rfl) (mvT hZ (hw _ (List.mem_of_getElem? (i := 152) rfl))) (mvT hZ (hw _ (List.mem_of_getElem? (i := 153) rfl))) (by decide) (backOf (W := 0) (own_slength l Z a0 hw [] (b) (cs) h0 n0 (O0.keep K0 (allS hp1 all0)) (hp4.1) (hp4.2.2.2.1)) hZ (hw _ (List.mem_of_getElem? (i := 154) rfl)) (hw _ (List.mem_of_getElem? (i := 13) rfl)) (by decide) (by decide)) qa3 qc3 (g := (mkF m 10 #[.val (.ref x), .val (.ref b), .val .null, .val (.ref d), .unset] [(.ref b)])) rfl (by rw [hml]; rfl) (Steps.refl _) (argsL := []) (rest := []) (lenOf own_pd8 rfl) rfl (by show 2 * 0 + _ ≤ _; exact Nat.le_of_eq rfl) (hb hby own_d_jdk_42_method_150_code_10) (fun _ _ => ⟨rfl, hh2, (by decide : 0 + 0 ≤ _), (by decide : 0 + 0 ≤ _)⟩)
  dsimp only [Pt.U, Pt.locs, Pt.cells, Pt.slots] at X3 l3 y3 z3 st3 hQ3
  subst l3 y3 z3
  obtain ⟨rfl, Nq3, hh3⟩ := hQ3
  have N3 := Fr.app N2 Nq3
  obtain ⟨cq4, kq4, qa4, qb4, qc4⟩ := isOf hZ hh3 hp4.1
  obtain ⟨_, _, ⟨T4, L4, k4, n4⟩, -, X4, ⟨Lc4, hQ4, l4, y4, z4⟩, st4⟩ := X3.virtualBack hx (y := (⟨"java/lang/AbstractStringBuilder", "isLatin1", "()Z"⟩ : MethodName)) (z := (⟨"java/lang/AbstractStringBuilder", "isLatin1", "()Z"⟩ : MethodName)) hown (mvT hZ (hw _ (List.mem_of_getElem? (i := 157) rfl))) (mvT hZ (hw _ (List.mem_of_getElem? (i := 158) rfl))) (notFace_of_selects (args := #[]) (mvT hZ (hw _ (List.mem_of_getElem? (i := 160) rfl)))) (mvT hZ (hw _ (List.mem_of_getElem? (i := 160) rfl))) (mvT hZ (hw _ (List.mem_of_getElem? (i := 159) rfl))) (by decide) (backOf (W := 0) (own_isL l Z a0 hw [] (b) (gCS) h0 n0 (O0.keep K0 (allS hp1 all0)) (hp4.2.2.1) (hp9) (hG1)) hZ (hw _ (List.mem_of_getElem? (i := 161) rfl)) (hw _ (List.mem_of_getElem? (i := 21) rfl)) (by decide) (by decide)) qa4 qc4 (g := (mkF m 16 #[.val (.ref x), .val (.ref b), .val .null, .val (.ref d), .val (.int (Int32.ofNat cs.length))] [(.ref b)])) rfl (by rw [hml]; rfl) (Steps.refl _) (argsL := []) (rest := []) (lenOf own_pd4 rfl) rfl (by show 2 * 0 + _ ≤ _; exact Nat.le_of_eq rfl) (hb hby own_d_jdk_42_method_150_code_16) (fun _ _ => ⟨rfl, hh3, (by decide : 0 + 0 ≤ _), (by decide : 0 + 0 ≤ _)⟩)
  dsimp only [Pt.U, Pt.locs, Pt.cells, Pt.slots] at X4 l4 y4 z4 st4 hQ4
  subst l4 y4 z4
  obtain ⟨rfl, Nq4, hh4⟩ := hQ4
  have N4 := Fr.app N3 Nq4
  obtain ⟨T5, h5, X5, e5, W5, st5⟩ := putFN X4 hx hZ hown (hw _ (List.mem_of_getElem? (i := 58) rfl)) Via.refl hh4 hp3 hp0 (Or.inr ⟨(hw _ (List.mem_of_getElem? (i := 59) rfl)), rfl, hnm⟩) (hw _ (List.mem_of_getElem? (i := 106) rfl)) (ty := .byte) (v' := (.int (nar .byte (0 : Int32)))) (by decide) rfl (fits_nar_byte _) (g := (mkF m 24 #[.val (.ref x), .val (.ref b), .val .null, .val (.ref d), .val (.int (Int32.ofNat cs.length))] [(.int (0 : Int32)), (.ref x)])) rfl rfl (hb hby own_d_jdk_42_method_150_code_24)
  have K6 : Keep h0 h5 [x] := K0.wr W5 (Or.inl (List.mem_of_getElem? (i := 0) rfl))
  have Fw5 : Fld Z h5 x "java/lang/String" "coder" "B" (.int (nar .byte (0 : Int32))) := hp3.same W5
  have N5 := Fr.snoc X5 N4 hp1
  have f7 : own_By Z h5 d kd N cs := (hp4.2.2.2.2.1.other W5 (Ne.symm hp6))
  obtain ⟨_, _, ⟨T8, L8, k8, n8⟩, -, X8, ⟨Lc8, hQ8, l8, y8, z8⟩, st8⟩ := Jvm.LawKit.callS X5 hx (y := (⟨"java/util/Arrays", "copyOfRange", "([BII)[B"⟩ : MethodName)) hown (mvT hZ (hw _ (List.mem_of_getElem? (i := 162) rfl))) (mvT hZ (hw _ (List.mem_of_getElem? (i := 163) rfl))) (mvT hZ (hw _ (List.mem_of_getElem? (i := 128) rfl))) (mvT hZ (hw _ (List.mem_of_getElem? (i := 164) rfl))) (by decide) (backOf (W := 1) (own_cor l Z a0 hw [] (d) (kd) (N) (cs) h5 n0 (O0.keep K6 (allS hp1 all0)) (f7) (hcc) (hcN0)) hZ (hw _ (List.mem_of_getElem? (i := 164) rfl)) (hw _ (List.mem_of_getElem? (i := 128) rfl)) (by decide) (by decide)) (g := (mkF m 32 #[.val (.ref x), .val (.ref b), .val .null, .val (.ref d), .val (.int (Int32.ofNat cs.length))] [(.int (Int32.ofNat cs.length)), (.int (0 : Int32)), (.ref d), (.ref x)])) rfl (by rw [hml]; rfl) (argsL := [(.ref d), (.int (0 : Int32)), (.int (Int32.ofNat cs.length))]) (rest := [(.ref x)]) (lenOf own_pd12 rfl) rfl (by show 2 * 0 + _ ≤ _; exact Nat.le_of_eq rfl) (hb hby own_d_jdk_42_method_150_code_32) (fun _ _ => ⟨rfl, e5, (by decide : 0 + 1 ≤ _), (by decide : 0 + 100 ≤ _)⟩)
  dsimp only [Pt.U, Pt.locs, Pt.cells, Pt.slots] at X8 l8 y8 z8 st8 hQ8
  subst l8 y8 z8
  obtain ⟨b2_8, k2_8, rfl, Nq8, Kq8, po8_0, po8_1, po8_2, po8_3⟩ := hQ8
  have N8 := Fr.app N5 Nq8
  have ne9 : x ≠ b2_8 := Nat.ne_of_lt (Nat.lt_of_lt_of_le (Nat.lt_of_lt_of_le hp0.lt (Nat.le_of_eq (Wr.size W5).symm)) po8_0)
  have ne10 : b ≠ b2_8 := Nat.ne_of_lt (Nat.lt_of_lt_of_le (Nat.lt_of_lt_of_le hp4.1.lt (Nat.le_of_eq (Wr.size W5).symm)) po8_0)
  have ne11 : d ≠ b2_8 := Nat.ne_of_lt (Nat.lt_of_lt_of_le (Nat.lt_of_lt_of_le hp4.2.2.2.2.1.lt (Nat.le_of_eq (Wr.size W5).symm)) po8_0)
  have g12 : n0 ≤ b2_8 := Nat.le_trans (Nat.le_trans (own_le O0) K6.1) po8_0
  have b13 : h0.size ≤ b2_8 := Nat.le_trans K6.1 po8_0
  have K14 : Keep h0 T8.heap [x] := K6.trans Kq8 all0
  have f15 : Fld Z T8.heap x "java/lang/String" "value" "[B" .null := ((hp2.other W5 (Or.inr (Jvm.RoadKit.slot_ne (Or.inr (hw _ (List.mem_of_getElem? (i := 51) rfl))) (Or.inr (hw _ (List.mem_of_getElem? (i := 59) rfl))) (by decide) (t := (.array .byte)) (t' := .byte) (by decide) (by decide)))).keep Kq8 nin0)
  have f16 : Exa Z T8.heap x "java/lang/String" := ((hp0.wr W5).keep Kq8)
  obtain ⟨T17, h17, X17, e17, W17, st17⟩ := putF X8 hx hZ hown (host := "") (Or.inl (hw _ (List.mem_of_getElem? (i := 50) rfl))) Via.refl rfl f15 f16 (Or.inr ⟨(hw _ (List.mem_of_getElem? (i := 51) rfl)), rfl, hnm⟩) (hw _ (List.mem_of_getElem? (i := 106) rfl)) (ty := (.array .byte)) (by decide) rfl rfl (g := (mkF m 35 #[.val (.ref x), .val (.ref b), .val .null, .val (.ref d), .val (.int (Int32.ofNat cs.length))] [(.ref b2_8), (.ref x)])) rfl rfl (hb hby own_d_jdk_42_method_150_code_35)
  have K18 : Keep h0 h17 [x] := K14.wr W17 (Or.inl (List.mem_of_getElem? (i := 0) rfl))
  have Fw17 : Fld Z h17 x "java/lang/String" "value" "[B" (.ref b2_8) := f15.same W17
  have N17 := Fr.snoc X17 N8 hp1
  have f19 : Fld Z h17 x "java/lang/String" "coder" "B" (.int (nar .byte (0 : Int32))) := ((Fw5.keep Kq8 nin0).other W17 (Or.inr (Jvm.RoadKit.slot_ne (Or.inr (hw _ (List.mem_of_getElem? (i := 59) rfl))) (Or.inr (hw _ (List.mem_of_getElem? (i := 51) rfl))) (by decide) (t := .byte) (t' := (.array .byte)) (by decide) (by decide))))
  have f20 : Fld Z h17 x "java/lang/String" "coder" "B" (.int (0 : Int32)) := by rw [show (nar .byte (0 : Int32)) = (0 : Int32) from (by decide)] at f19; exact f19
  have f21 : Arv Z h17 b2_8 k2_8 .byte (Int32.ofNat cs.length) ((cs.map fun c => c.toInt8.toInt32).map Value.int) (.int (0 : Int32)) := (po8_2.other W17 (Ne.symm ne9))
  have f22 : Exa Z h17 x "java/lang/String" := (f16.wr W17)
  obtain ⟨fs, hr, hrun, hended, hW, hsame⟩ := X17.leave (v := none) (fun _ => rfl)
  refine ⟨_, _, r0 _ ?_, hrun, hended, _, _, rfl, ?_, ⟨_, rfl⟩, hW, hsame.mono (by decide) (by decide)⟩
  · show Steps p.tables e below (s₁.setTop (mkF m 0 #[.val (.ref x), .val (.ref b), .val .null, .unset, .unset] [])) _
    refine XS.aloadN X0.here hx rfl (hb hby own_d_jdk_42_method_150_code_0) rfl rfl ?_
    show Steps p.tables e below (s₁.setTop (mkF m 1 #[.val (.ref x), .val (.ref b), .val .null, .unset, .unset] [(.ref x)])) _
    refine st1 _ ?_
    show Steps p.tables e below (T1.setTop (mkF m 4 #[.val (.ref x), .val (.ref b), .val .null, .unset, .unset] [])) _
    refine XS.aloadN X1.here hx rfl (hb hby own_d_jdk_42_method_150_code_4) rfl rfl ?_
    show Steps p.tables e below (T1.setTop (mkF m 5 #[.val (.ref x), .val (.ref b), .val .null, .unset, .unset] [(.ref b)])) _
    refine st2.trans ?_
    show Steps p.tables e below (T2.setTop (mkF m 8 #[.val (.ref x), .val (.ref b), .val .null, .unset, .unset] [(.ref d)])) _
    refine XS.astoreN X2.here hx rfl (hb hby own_d_jdk_42_method_150_code_8) rfl rfl (l' := #[.val (.ref x), .val (.ref b), .val .null, .val (.ref d), .unset]) rfl ?_
    show Steps p.tables e below (T2.setTop (mkF m 9 #[.val (.ref x), .val (.ref b), .val .null, .val (.ref d), .unset] [])) _
    refine XS.aloadN X2.here hx rfl (hb hby own_d_jdk_42_method_150_code_9) rfl rfl ?_
    show Steps p.tables e below (T2.setTop (mkF m 10 #[.val (.ref x), .val (.ref b), .val .null, .val (.ref d), .unset] [(.ref b)])) _
    refine st3.trans ?_
    show Steps p.tables e below (T3.setTop (mkF m 13 #[.val (.ref x), .val (.ref b), .val .null, .val (.ref d), .unset] [(.int (Int32.ofNat cs.length))])) _
    refine XS.istore X3.here hx rfl (hb hby own_d_jdk_42_method_150_code_13) rfl (l' := #[.val (.ref x), .val (.ref b), .val .null, .val (.ref d), .val (.int (Int32.ofNat cs.length))]) rfl ?_
    show Steps p.tables e below (T3.setTop (mkF m 15 #[.val (.ref x), .val (.ref b), .val .null, .val (.ref d), .val (.int (Int32.ofNat cs.length))] [])) _
    refine XS.aloadN X3.here hx rfl (hb hby own_d_jdk_42_method_150_code_15) rfl rfl ?_
    show Steps p.tables e below (T3.setTop (mkF m 16 #[.val (.ref x), .val (.ref b), .val .null, .val (.ref d), .val (.int (Int32.ofNat cs.length))] [(.ref b)])) _
    refine st4.trans ?_
    show Steps p.tables e below (T4.setTop (mkF m 19 #[.val (.ref x), .val (.ref b), .val .null, .val (.ref d), .val (.int (Int32.ofNat cs.length))] [(.int (1 : Int32))])) _
    refine XS.ifNo X4.here hx rfl (hb hby own_d_jdk_42_method_150_code_19) rfl ((if0 _ _).trans (feq (by decide)).1) ?_
    show Steps p.tables e below (T4.setTop (mkF m 22 #[.val (.ref x), .val (.ref b), .val .null, .val (.ref d), .val (.int (Int32.ofNat cs.length))] [])) _
    refine XS.aloadN X4.here hx rfl (hb hby own_d_jdk_42_method_150_code_22) rfl rfl ?_
    show Steps p.tables e below (T4.setTop (mkF m 23 #[.val (.ref x), .val (.ref b), .val .null, .val (.ref d), .val (.int (Int32.ofNat cs.length))] [(.ref x)])) _
    refine XS.iconst X4.here hx rfl (hb hby own_d_jdk_42_method_150_code_23) ?_
    show Steps p.tables e below (T4.setTop (mkF m 24 #[.val (.ref x), .val (.ref b), .val .null, .val (.ref d), .val (.int (Int32.ofNat cs.length))] [(.int (0 : Int32)), (.ref x)])) _
    refine st5 _ ?_
    show Steps p.tables e below (T5.setTop (mkF m 27 #[.val (.ref x), .val (.ref b), .val .null, .val (.ref d), .val (.int (Int32.ofNat cs.length))] [])) _
    refine XS.aloadN X5.here hx rfl (hb hby own_d_jdk_42_method_150_code_27) rfl rfl ?_
    show Steps p.tables e below (T5.setTop (mkF m 28 #[.val (.ref x), .val (.ref b), .val .null, .val (.ref d), .val (.int (Int32.ofNat cs.length))] [(.ref x)])) _
    refine XS.aloadN X5.here hx rfl (hb hby own_d_jdk_42_method_150_code_28) rfl rfl ?_
    show Steps p.tables e below (T5.setTop (mkF m 29 #[.val (.ref x), .val (.ref b), .val .null, .val (.ref d), .val (.int (Int32.ofNat cs.length))] [(.ref d), (.ref x)])) _
    refine XS.iconst X5.here hx rfl (hb hby own_d_jdk_42_method_150_code_29) ?_
    show Steps p.tables e below (T5.setTop (mkF m 30 #[.val (.ref x), .val (.ref b), .val .null, .val (.ref d), .val (.int (Int32.ofNat cs.length))] [(.int (0 : Int32)), (.ref d), (.ref x)])) _
    refine XS.iload X5.here hx rfl (hb hby own_d_jdk_42_method_150_code_30) rfl ?_
    show Steps p.tables e below (T5.setTop (mkF m 32 #[.val (.ref x), .val (.ref b), .val .null, .val (.ref d), .val (.int (Int32.ofNat cs.length))] [(.int (Int32.ofNat cs.length)), (.int (0 : Int32)), (.ref d), (.ref x)])) _
    refine st8 _ ?_
    show Steps p.tables e below (T8.setTop (mkF m 35 #[.val (.ref x), .val (.ref b), .val .null, .val (.ref d), .val (.int (Int32.ofNat cs.length))] [(.ref b2_8), (.ref x)])) _
    refine st17 _ ?_
    show Steps p.tables e below (T17.setTop (mkF m 38 #[.val (.ref x), .val (.ref b), .val .null, .val (.ref d), .val (.int (Int32.ofNat cs.length))] [])) _
    refine XS.goto X17.here hx rfl (pc0 := 38) (pc' := 97) rfl (hb hby own_d_jdk_42_method_150_code_38) (by decide) (by decide) ?_
    show Steps p.tables e below (T17.setTop (mkF m 97 #[.val (.ref x), .val (.ref b), .val .null, .val (.ref d), .val (.int (Int32.ofNat cs.length))] [])) _
    exact X17.returnOut hx Bd.returns (hb hby own_d_jdk_42_method_150_code_97) hr
  · show Q_own_strA Z x b d kd N cs gCS h0 n0 _ T17.heap _
    rw [e17]
    exact ⟨b2_8, k2_8, rfl, N17, K18, b13, po8_1, ⟨f22, Fw17, f20, f21, hp4.2.2.2.2.2, by omega⟩⟩
theorem own_pn_own_strB : plainName "java/lang/String" = true := by first | (simp [plainName, overriddenIn]; done) | decide +kernel
theorem own_ef_own_strB (m : MethodId) (x : Addr) (b : Addr) : entryFrame m #[(.ref x), (.ref b)] 2 = mkF m 0 #[.val (.ref x), .val (.ref b)] [] := by first | (simp [entryFrame, mkF, argsToLocals, own_cI, own_cJ, own_cR, own_cN]; done) | rfl
abbrev own_F_own_strB (m : MethodId) (x : Addr) (b : Addr) : JFrame := entryFrame m #[(.ref x), (.ref b)] 2
def Q_own_strB (Z : State) (x : Addr) (b : Addr) (d : Addr) (kd : ClassId) (N : Nat) (cs : List Int32) (gCS : Int32) (h0 : Heap) (n0 : Nat) (v : Option Value) (h : Heap) (L : List Loc) : Prop := ∃ (t : Addr), ∃ (kt : ClassId), v = none ∧ Fr n0 L ∧ Keep h0 h [x] ∧ (h0.size ≤ t) ∧ (n0 ≤ t) ∧ (own_Str Z h x t kt cs)
set_option maxRecDepth 65536 in
set_option maxHeartbeats 40000000 in
theorem own_strB (l : Launch) (Z : State) (a0 : Array Value) (hw : ∀ d ∈ tables_1, d.before a0 Z = true) (ws : List Jvm.Cond) (x : Addr) (b : Addr) (d : Addr) (kd : ClassId) (N : Nat) (cs : List Int32) (gCS : Int32) (h0 : Heap) (n0 : Nat) (O0 : Old Z n0 h0) (hp0 : Exa Z h0 x "java/lang/String") (hp1 : n0 ≤ x) (hp2 : Fld Z h0 x "java/lang/String" "value" "[B" .null) (hp3 : Fld Z h0 x "java/lang/String" "coder" "B" (.int (0 : Int32))) (hp4 : own_SB Z h0 b d kd N cs) (hp5 : x ≠ b) (hp6 : x ≠ d) (hcc : cs.length ≤ 100) (hcN0 : ¬ cs.length = N) (hp9 : Sta Z Z.heap "java/lang/String" "COMPACT_STRINGS" "Z" (.int gCS)) (hG1 : ¬ gCS = (0 : Int32)) :
    MetFree l (⟨"java/lang/String", "<init>", "(Ljava/lang/StringBuilder;)V"⟩ : MethodName) (head1 (Jvm.Cond.code (⟨"java/lang/String", "<init>", "(Ljava/lang/StringBuilder;)V"⟩ : MethodName) jdk_42_method_53_code 2 none :: ws) ({ frames := 4, cells := 1, slots := 100, locals := 65 } : Room)) (fun aa_ U_ => aa_ = #[(.ref x), (.ref b)] ∧ Z.Warmed39 U_.vm ∧ U_.heap = h0) (fun _ _ _ _ _ => True) (fun _ U_ o_ V_ => ∃ v_ L_, o_ = .returned v_ ∧ Q_own_strB Z x b d kd N cs gCS h0 n0 v_ V_.heap L_ ∧ FrameEnd U_ o_ V_ L_ ({ frames := 4, cells := 1, slots := 100, locals := 65 } : Room).cells ({ frames := 4, cells := 1, slots := 100, locals := 65 } : Room).slots) := by
  refine MetFree.of_bodySF (plainFor_of_name own_pn_own_strB) hisR ?_
  intro p e s m args below meth c s₁ Bd hml0 hP hK
  obtain ⟨rfl, hZ, hh⟩ := hP
  have hx := Bd.exec
  have hby := Bd.bytes
  have hml : c.maxLocals = 2 := hml0
  have hown : s.vm.findClass "java/lang/String" = some m.cls := findClass_of_methodNamed Bd.named
  have hnm := (name_of_methodNamed Bd.named Bd.method).1
  have X0 : Stand p l e ({ frames := 4, cells := 1, slots := 100, locals := 65 } : Room) s m #[(.ref x), (.ref b)] below meth c s₁ [] 0 0 := Stand.of_body Bd
  have e0 : s₁.heap = h0 := by rw [← hh, Bd.state]; rfl
  have N0 := Fr.nil n0
  have K0 : Keep h0 h0 [x] := Keep.refl _ _
  have r0 : GoTo p.tables e below s₁ (own_F_own_strB m x b) s₁ (mkF m 0 #[.val (.ref x), .val (.ref b)] []) := fun tt_ kk_ => castTop (own_ef_own_strB m x b) kk_
  obtain ⟨_, _, ⟨T1, L1, k1, n1⟩, -, X1, ⟨Lc1, hQ1, l1, y1, z1⟩, st1⟩ := X0.specialBack hx (y := (⟨"java/lang/String", "<init>", "(Ljava/lang/AbstractStringBuilder;Ljava/lang/Void;)V"⟩ : MethodName)) rfl hown (mvT hZ (hw _ (List.mem_of_getElem? (i := 141) rfl))) (mvT hZ (hw _ (List.mem_of_getElem? (i := 142) rfl))) (mvT hZ (hw _ (List.mem_of_getElem? (i := 143) rfl))) (by decide) (backOf (W := 0) (own_strA l Z a0 hw [] (x) (b) (d) (kd) (N) (cs) (gCS) h0 n0 (O0.keep K0 (allS hp1 all0)) (hp0) (hp1) (hp2) (hp3) (hp4) (hp5) (hp6) (hcc) (hcN0) (hp9) (hG1)) hZ (hw _ (List.mem_of_getElem? (i := 143) rfl)) (hw _ (List.mem_of_getElem? (i := 27) rfl)) (by decide) (by decide)) (g := (mkF m 3 #[.val (.ref x), .val (.ref b)] [.null, (.ref b), (.ref x)])) rfl (by rw [hml]; rfl) (Steps.refl _) (a := x) (argsL := [(.ref b), .null]) (rest := []) (lenOf own_pd14 rfl) rfl (by show 2 * 0 + _ ≤ _; exact Nat.le_of_eq rfl) (hb hby own_d_jdk_42_method_53_code_3) (fun _ _ => ⟨rfl, e0, (by decide : 0 + 1 ≤ _), (by decide : 0 + 100 ≤ _)⟩)
  dsimp only [Pt.U, Pt.locs, Pt.cells, Pt.slots] at X1 l1 y1 z1 st1 hQ1
  subst l1 y1 z1
  obtain ⟨t_1, kt_1, rfl, Nq1, Kq1, po1_0, po1_1, po1_2⟩ := hQ1
  have N1 := Fr.app N0 Nq1
  have ne2 : x ≠ t_1 := Nat.ne_of_lt (Nat.lt_of_lt_of_le hp0.lt po1_0)
  have ne3 : b ≠ t_1 := Nat.ne_of_lt (Nat.lt_of_lt_of_le hp4.1.lt po1_0)
  have ne4 : d ≠ t_1 := Nat.ne_of_lt (Nat.lt_of_lt_of_le hp4.2.2.2.2.1.lt po1_0)
  have g5 : n0 ≤ t_1 := Nat.le_trans (Nat.le_trans (own_le O0) K0.1) po1_0
  have b6 : h0.size ≤ t_1 := Nat.le_trans K0.1 po1_0
  have K7 : Keep h0 T1.heap [x] := K0.trans Kq1 (allS (Or.inl (List.mem_of_getElem? (i := 0) rfl)) all0)
  obtain ⟨fs, hr, hrun, hended, hW, hsame⟩ := X1.leave (v := none) (fun _ => rfl)
  refine ⟨_, _, r0 _ ?_, hrun, hended, _, _, rfl, ?_, ⟨_, rfl⟩, hW, hsame.mono (by decide) (by decide)⟩
  · show Steps p.tables e below (s₁.setTop (mkF m 0 #[.val (.ref x), .val (.ref b)] [])) _
    refine XS.aloadN X0.here hx rfl (hb hby own_d_jdk_42_method_53_code_0) rfl rfl ?_
    show Steps p.tables e below (s₁.setTop (mkF m 1 #[.val (.ref x), .val (.ref b)] [(.ref x)])) _
    refine XS.aloadN X0.here hx rfl (hb hby own_d_jdk_42_method_53_code_1) rfl rfl ?_
    show Steps p.tables e below (s₁.setTop (mkF m 2 #[.val (.ref x), .val (.ref b)] [(.ref b), (.ref x)])) _
    refine XS.aconstNull X0.here hx rfl (hb hby own_d_jdk_42_method_53_code_2) ?_
    show Steps p.tables e below (s₁.setTop (mkF m 3 #[.val (.ref x), .val (.ref b)] [.null, (.ref b), (.ref x)])) _
    refine st1.trans ?_
    show Steps p.tables e below (T1.setTop (mkF m 6 #[.val (.ref x), .val (.ref b)] [])) _
    exact X1.returnOut hx Bd.returns (hb hby own_d_jdk_42_method_53_code_6) hr
  · show Q_own_strB Z x b d kd N cs gCS h0 n0 _ T1.heap _
    exact ⟨t_1, kt_1, rfl, N1, K7, b6, po1_1, po1_2⟩
theorem own_pn_own_toStr : plainName "java/lang/StringBuilder" = true := by first | (simp [plainName, overriddenIn]; done) | decide +kernel
theorem own_ef_own_toStr (m : MethodId) (b : Addr) : entryFrame m #[(.ref b)] 1 = mkF m 0 #[.val (.ref b)] [] := by first | (simp [entryFrame, mkF, argsToLocals, own_cI, own_cJ, own_cR, own_cN]; done) | rfl
abbrev own_F_own_toStr (m : MethodId) (b : Addr) : JFrame := entryFrame m #[(.ref b)] 1
def Q_own_toStr (Z : State) (b : Addr) (d : Addr) (kd : ClassId) (N : Nat) (cs : List Int32) (gCS : Int32) (h0 : Heap) (n0 : Nat) (v : Option Value) (h : Heap) (L : List Loc) : Prop := ∃ (x : Addr), ∃ (t : Addr), ∃ (kt : ClassId), v = some (.ref x) ∧ Fr n0 L ∧ Keep h0 h [] ∧ (h0.size ≤ x) ∧ (h0.size ≤ t) ∧ (t ≠ x) ∧ (own_Str Z h x t kt cs)
set_option maxRecDepth 65536 in
set_option maxHeartbeats 40000000 in
theorem own_toStr (l : Launch) (Z : State) (a0 : Array Value) (hw : ∀ d ∈ tables_1, d.before a0 Z = true) (ws : List Jvm.Cond) (b : Addr) (d : Addr) (kd : ClassId) (N : Nat) (cs : List Int32) (gCS : Int32) (h0 : Heap) (n0 : Nat) (O0 : Old Z n0 h0) (hp0 : own_SB Z h0 b d kd N cs) (hcc : cs.length ≤ 100) (hcN0 : ¬ cs.length = N) (hp3 : Sta Z Z.heap "java/lang/String" "COMPACT_STRINGS" "Z" (.int gCS)) (hG1 : ¬ gCS = (0 : Int32)) :
    MetFree l (⟨"java/lang/StringBuilder", "toString", "()Ljava/lang/String;"⟩ : MethodName) (head1 (Jvm.Cond.code (⟨"java/lang/StringBuilder", "toString", "()Ljava/lang/String;"⟩ : MethodName) jdk_67_method_42_code 1 (some (.object "java/lang/String")) :: ws) ({ frames := 5, cells := 2, slots := 104, locals := 79 } : Room)) (fun aa_ U_ => aa_ = #[(.ref b)] ∧ Z.Warmed39 U_.vm ∧ U_.heap = h0) (fun _ _ _ _ _ => True) (fun _ U_ o_ V_ => ∃ v_ L_, o_ = .returned v_ ∧ Q_own_toStr Z b d kd N cs gCS h0 n0 v_ V_.heap L_ ∧ FrameEnd U_ o_ V_ L_ ({ frames := 5, cells := 2, slots := 104, locals := 79 } : Room).cells ({ frames := 5, cells := 2, slots := 104, locals := 79 } : Room).slots) := by
  refine MetFree.of_bodySF (plainFor_of_name own_pn_own_toStr) hisR ?_
  intro p e s m args below meth c s₁ Bd hml0 hP hK
  obtain ⟨rfl, hZ, hh⟩ := hP
  have hx := Bd.exec
  have hby := Bd.bytes
  have hml : c.maxLocals = 1 := hml0
  have hown : s.vm.findClass "java/lang/StringBuilder" = some m.cls := findClass_of_methodNamed Bd.named
  have hnm := (name_of_methodNamed Bd.named Bd.method).1
  have X0 : Stand p l e ({ frames := 5, cells := 2, slots := 104, locals := 79 } : Room) s m #[(.ref b)] below meth c s₁ [] 0 0 := Stand.of_body Bd
  have e0 : s₁.heap = h0 := by rw [← hh, Bd.state]; rfl
  have N0 := Fr.nil n0
  have K0 : Keep h0 h0 [] := Keep.refl _ _
  have r0 : GoTo p.tables e below s₁ (own_F_own_toStr m b) s₁ (mkF m 0 #[.val (.ref b)] []) := fun tt_ kk_ => castTop (own_ef_own_toStr m b) kk_
  obtain ⟨T1, h1, X1, e1, E1, A1, D1, -, st1⟩ := newO X0 hx hZ hown (hw _ (List.mem_of_getElem? (i := 137) rfl)) (hw _ (List.mem_of_getElem? (i := 106) rfl)) (hw _ (List.mem_of_getElem? (i := 27) rfl)) e0 (g := (mkF m 0 #[.val (.ref b)] [])) rfl (hb hby own_d_jdk_67_method_42_code_0) (by decide) (by decide)
  obtain ⟨b1, gg1⟩ : ∃ z, z = h0.size := ⟨_, rfl⟩
  rw [← gg1] at A1 D1 st1
  have ne2 : b ≠ b1 := Nat.ne_of_lt (Nat.lt_of_lt_of_le hp0.1.lt (Nat.le_of_eq gg1.symm))
  have ne3 : d ≠ b1 := Nat.ne_of_lt (Nat.lt_of_lt_of_le hp0.2.2.2.2.1.lt (Nat.le_of_eq gg1.symm))
  have g4 : n0 ≤ b1 := Nat.le_trans (Nat.le_trans (own_le O0) K0.1) (Nat.le_of_eq gg1.symm)
  have b5 : h0.size ≤ b1 := Nat.le_trans K0.1 (Nat.le_of_eq gg1.symm)
  have K6 : Keep h0 h1 [] := K0.ext E1
  have f7 : own_SB Z h1 b d kd N cs := (hp0.ext E1)
  obtain ⟨_, _, ⟨T8, L8, k8, n8⟩, -, X8, ⟨Lc8, hQ8, l8, y8, z8⟩, st8⟩ := X1.specialBack hx (y := (⟨"java/lang/String", "<init>", "(Ljava/lang/StringBuilder;)V"⟩ : MethodName)) rfl hown (mvT hZ (hw _ (List.mem_of_getElem? (i := 138) rfl))) (mvT hZ (hw _ (List.mem_of_getElem? (i := 139) rfl))) (mvT hZ (hw _ (List.mem_of_getElem? (i := 140) rfl))) (by decide) (backOf (W := 1) (own_strB l Z a0 hw [] (b1) (b) (d) (kd) (N) (cs) (gCS) h1 n0 (O0.keep K6 all0) (A1) (g4) ((D1 (Or.inr (hw _ (List.mem_of_getElem? (i := 51) rfl))) (ty := (.array .byte)) (by decide))) ((D1 (Or.inr (hw _ (List.mem_of_getElem? (i := 59) rfl))) (ty := .byte) (by decide))) (f7) ((Ne.symm ne2)) ((Ne.symm ne3)) (hcc) (hcN0) (hp3) (hG1)) hZ (hw _ (List.mem_of_getElem? (i := 140) rfl)) (hw _ (List.mem_of_getElem? (i := 27) rfl)) (by decide) (by decide)) (g := (mkF m 5 #[.val (.ref b)] [(.ref b), (.ref b1), (.ref b1)])) rfl (by rw [hml]; rfl) (Steps.refl _) (a := b1) (argsL := [(.ref b)]) (rest := [(.ref b1)]) (lenOf own_pd15 rfl) rfl (by show 2 * 0 + _ ≤ _; exact Nat.le_of_eq rfl) (hb hby own_d_jdk_67_method_42_code_5) (fun _ _ => ⟨rfl, e1, (by decide : 1 + 1 ≤ _), (by decide : 4 + 100 ≤ _)⟩)
  dsimp only [Pt.U, Pt.locs, Pt.cells, Pt.slots] at X8 l8 y8 z8 st8 hQ8
  subst l8 y8 z8
  obtain ⟨t_8, kt_8, rfl, Nq8, Kq8, po8_0, po8_1, po8_2⟩ := hQ8
  have N8 := Fr.app N0 Nq8
  have ne9 : b ≠ t_8 := Nat.ne_of_lt (Nat.lt_of_lt_of_le (Nat.lt_of_lt_of_le hp0.1.lt E1.1) po8_0)
  have ne10 : d ≠ t_8 := Nat.ne_of_lt (Nat.lt_of_lt_of_le (Nat.lt_of_lt_of_le hp0.2.2.2.2.1.lt E1.1) po8_0)
  have ne11 : b1 ≠ t_8 := Nat.ne_of_lt (Nat.lt_of_lt_of_le A1.lt po8_0)
  have g12 : n0 ≤ t_8 := Nat.le_trans (Nat.le_trans (own_le O0) K6.1) po8_0
  have b13 : h0.size ≤ t_8 := Nat.le_trans K6.1 po8_0
  have K14 : Keep h0 T8.heap [] := K6.trans Kq8 (allS (Or.inr b5) all0)
  obtain ⟨fs, hr, hrun, hended, hW, hsame⟩ := X8.leave (v := some (.ref b1)) (fun h => by rw [Bd.returns] at h; cases h)
  refine ⟨_, _, r0 _ ?_, hrun, hended, _, _, rfl, ?_, ⟨_, rfl⟩, hW, hsame.mono (by decide) (by decide)⟩
  · show Steps p.tables e below (s₁.setTop (mkF m 0 #[.val (.ref b)] [])) _
    refine st1 _ ?_
    show Steps p.tables e below (T1.setTop (mkF m 3 #[.val (.ref b)] [(.ref b1)])) _
    refine XS.dup X1.here hx rfl (hb hby own_d_jdk_67_method_42_code_3) rfl rfl ?_
    show Steps p.tables e below (T1.setTop (mkF m 4 #[.val (.ref b)] [(.ref b1), (.ref b1)])) _
    refine XS.aloadN X1.here hx rfl (hb hby own_d_jdk_67_method_42_code_4) rfl rfl ?_
    show Steps p.tables e below (T1.setTop (mkF m 5 #[.val (.ref b)] [(.ref b), (.ref b1), (.ref b1)])) _
    refine st8.trans ?_
    show Steps p.tables e below (T8.setTop (mkF m 8 #[.val (.ref b)] [(.ref b1)])) _
    exact retOut X8 hx (t := (.object "java/lang/String")) Bd.returns rfl (Or.inr (Or.inr (Or.inr (Or.inr ⟨rfl, rfl, rfl⟩)))) (hb hby own_d_jdk_67_method_42_code_8) hr
  · show Q_own_toStr Z b d kd N cs gCS h0 n0 _ T8.heap _
    exact ⟨b1, t_8, kt_8, rfl, N8, K14, b5, b13, (Ne.symm ne11), po8_2⟩
theorem own_pn_own_strBB : plainName "java/lang/String" = true := by first | (simp [plainName, overriddenIn]; done) | decide +kernel
theorem own_ef_own_strBB (m : MethodId) (x : Addr) (t : Addr) : entryFrame m #[(.ref x), (.ref t), (.int (0 : Int32))] 3 = mkF m 0 #[.val (.ref x), .val (.ref t), .val (.int (0 : Int32))] [] := by first | (simp [entryFrame, mkF, argsToLocals, own_cI, own_cJ, own_cR, own_cN]; done) | rfl
abbrev own_F_own_strBB (m : MethodId) (x : Addr) (t : Addr) : JFrame := entryFrame m #[(.ref x), (.ref t), (.int (0 : Int32))] 3
def Q_own_strBB (Z : State) (x : Addr) (t : Addr) (kt : ClassId) (ds : List Int32) (h0 : Heap) (n0 : Nat) (v : Option Value) (h : Heap) (L : List Loc) : Prop := v = none ∧ Fr n0 L ∧ Keep h0 h [x] ∧ (own_Str Z h x t kt ds)
set_option maxRecDepth 65536 in
set_option maxHeartbeats 40000000 in
theorem own_strBB (l : Launch) (Z : State) (a0 : Array Value) (hw : ∀ d ∈ tables_1, d.before a0 Z = true) (ws : List Jvm.Cond) (x : Addr) (t : Addr) (kt : ClassId) (ds : List Int32) (h0 : Heap) (n0 : Nat) (O0 : Old Z n0 h0) (hp0 : Exa Z h0 x "java/lang/String") (hp1 : n0 ≤ x) (hp2 : Fld Z h0 x "java/lang/String" "value" "[B" .null) (hp3 : Fld Z h0 x "java/lang/String" "coder" "B" (.int (0 : Int32))) (hp4 : Arv Z h0 t kt .byte (Int32.ofNat ds.length) ((ds.map fun c => c.toInt8.toInt32).map Value.int) (.int (0 : Int32))) (hrg : ∀ c ∈ ds, ¬ c < 0 ∧ ¬ (255 : Int32) < c) (hn4 : ds.length ≤ 4000) (hp7 : t ≠ x) :
    MetFree l (⟨"java/lang/String", "<init>", "([BB)V"⟩ : MethodName) (head1 (Jvm.Cond.code (⟨"java/lang/String", "<init>", "([BB)V"⟩ : MethodName) jdk_42_method_151_code 3 none :: ws) ({ frames := 1, cells := 0, slots := 0, locals := 12 } : Room)) (fun aa_ U_ => aa_ = #[(.ref x), (.ref t), (.int (0 : Int32))] ∧ Z.Warmed39 U_.vm ∧ U_.heap = h0) (fun _ _ _ _ _ => True) (fun _ U_ o_ V_ => ∃ v_ L_, o_ = .returned v_ ∧ Q_own_strBB Z x t kt ds h0 n0 v_ V_.heap L_ ∧ FrameEnd U_ o_ V_ L_ ({ frames := 1, cells := 0, slots := 0, locals := 12 } : Room).cells ({ frames := 1, cells := 0, slots := 0, locals := 12 } : Room).slots) := by
  refine MetFree.of_bodySF (plainFor_of_name own_pn_own_strBB) hisR ?_
  intro p e s m args below meth c s₁ Bd hml0 hP hK
  obtain ⟨rfl, hZ, hh⟩ := hP
  have hx := Bd.exec
  have hby := Bd.bytes
  have hml : c.maxLocals = 3 := hml0
  have hown : s.vm.findClass "java/lang/String" = some m.cls := findClass_of_methodNamed Bd.named
  have hnm := (name_of_methodNamed Bd.named Bd.method).1
  have X0 : Stand p l e ({ frames := 1, cells := 0, slots := 0, locals := 12 } : Room) s m #[(.ref x), (.ref t), (.int (0 : Int32))] below meth c s₁ [] 0 0 := Stand.of_body Bd
  have e0 : s₁.heap = h0 := by rw [← hh, Bd.state]; rfl
  have N0 := Fr.nil n0
  have K0 : Keep h0 h0 [x] := Keep.refl _ _
  have r0 : GoTo p.tables e below s₁ (own_F_own_strBB m x t) s₁ (mkF m 0 #[.val (.ref x), .val (.ref t), .val (.int (0 : Int32))] []) := fun tt_ kk_ => castTop (own_ef_own_strBB m x t) kk_
  obtain ⟨T1, X1, e1, st1⟩ := initO X0 hx hZ hown (hw _ (List.mem_of_getElem? (i := 111) rfl)) (hw _ (List.mem_of_getElem? (i := 24) rfl)) (hw _ (List.mem_of_getElem? (i := 25) rfl)) e0 (g := (mkF m 1 #[.val (.ref x), .val (.ref t), .val (.int (0 : Int32))] [(.ref x)])) rfl (by rw [hml]; rfl) rfl (hb hby own_d_jdk_42_method_151_code_1) (by decide) (W := 0) (by show 2 * 0 + _ ≤ _; exact Nat.le_of_eq rfl) (by decide)
  obtain ⟨T2, h2, X2, e2, W2, st2⟩ := putF X1 hx hZ hown (host := "") (Or.inl (hw _ (List.mem_of_getElem? (i := 50) rfl))) Via.refl e1 hp2 hp0 (Or.inr ⟨(hw _ (List.mem_of_getElem? (i := 51) rfl)), rfl, hnm⟩) (hw _ (List.mem_of_getElem? (i := 106) rfl)) (ty := (.array .byte)) (by decide) rfl rfl (g := (mkF m 6 #[.val (.ref x), .val (.ref t), .val (.int (0 : Int32))] [(.ref t), (.ref x)])) rfl rfl (hb hby own_d_jdk_42_method_151_code_6)
  have K3 : Keep h0 h2 [x] := K0.wr W2 (Or.inl (List.mem_of_getElem? (i := 0) rfl))
  have Fw2 : Fld Z h2 x "java/lang/String" "value" "[B" (.ref t) := hp2.same W2
  have N2 := Fr.snoc X2 N0 hp1
  have f4 : Fld Z h2 x "java/lang/String" "coder" "B" (.int (0 : Int32)) := (hp3.other W2 (Or.inr (Jvm.RoadKit.slot_ne (Or.inr (hw _ (List.mem_of_getElem? (i := 59) rfl))) (Or.inr (hw _ (List.mem_of_getElem? (i := 51) rfl))) (by decide) (t := .byte) (t' := (.array .byte)) (by decide) (by decide))))
  have f5 : Exa Z h2 x "java/lang/String" := (hp0.wr W2)
  obtain ⟨T6, h6, X6, e6, W6, st6⟩ := putFN X2 hx hZ hown (hw _ (List.mem_of_getElem? (i := 58) rfl)) Via.refl e2 f4 f5 (Or.inr ⟨(hw _ (List.mem_of_getElem? (i := 59) rfl)), rfl, hnm⟩) (hw _ (List.mem_of_getElem? (i := 106) rfl)) (ty := .byte) (v' := (.int (nar .byte (0 : Int32)))) (by decide) rfl (fits_nar_byte _) (g := (mkF m 11 #[.val (.ref x), .val (.ref t), .val (.int (0 : Int32))] [(.int (0 : Int32)), (.ref x)])) rfl rfl (hb hby own_d_jdk_42_method_151_code_11)
  have K7 : Keep h0 h6 [x] := K3.wr W6 (Or.inl (List.mem_of_getElem? (i := 0) rfl))
  have Fw6 : Fld Z h6 x "java/lang/String" "coder" "B" (.int (nar .byte (0 : Int32))) := f4.same W6
  have N6 := Fr.snoc X6 N2 hp1
  have f8 : Fld Z h6 x "java/lang/String" "coder" "B" (.int (0 : Int32)) := by rw [show (nar .byte (0 : Int32)) = (0 : Int32) from (by decide)] at Fw6; exact Fw6
  have f9 : Exa Z h6 x "java/lang/String" := (f5.wr W6)
  have f10 : Fld Z h6 x "java/lang/String" "value" "[B" (.ref t) := (Fw2.other W6 (Or.inr (Jvm.RoadKit.slot_ne (Or.inr (hw _ (List.mem_of_getElem? (i := 51) rfl))) (Or.inr (hw _ (List.mem_of_getElem? (i := 59) rfl))) (by decide) (t := (.array .byte)) (t' := .byte) (by decide) (by decide))))
  have f11 : Arv Z h6 t kt .byte (Int32.ofNat ds.length) ((ds.map fun c => c.toInt8.toInt32).map Value.int) (.int (0 : Int32)) := ((hp4.other W2 hp7).other W6 hp7)
  obtain ⟨fs, hr, hrun, hended, hW, hsame⟩ := X6.leave (v := none) (fun _ => rfl)
  refine ⟨_, _, r0 _ ?_, hrun, hended, _, _, rfl, ?_, ⟨_, rfl⟩, hW, hsame.mono (by decide) (by decide)⟩
  · show Steps p.tables e below (s₁.setTop (mkF m 0 #[.val (.ref x), .val (.ref t), .val (.int (0 : Int32))] [])) _
    refine XS.aloadN X0.here hx rfl (hb hby own_d_jdk_42_method_151_code_0) rfl rfl ?_
    show Steps p.tables e below (s₁.setTop (mkF m 1 #[.val (.ref x), .val (.ref t), .val (.int (0 : Int32))] [(.ref x)])) _
    refine st1 _ ?_
    show Steps p.tables e below (T1.setTop (mkF m 4 #[.val (.ref x), .val (.ref t), .val (.int (0 : Int32))] [])) _
    refine XS.aloadN X1.here hx rfl (hb hby own_d_jdk_42_method_151_code_4) rfl rfl ?_
    show Steps p.tables e below (T1.setTop (mkF m 5 #[.val (.ref x), .val (.ref t), .val (.int (0 : Int32))] [(.ref x)])) _
    refine XS.aloadN X1.here hx rfl (hb hby own_d_jdk_42_method_151_code_5) rfl rfl ?_
    show Steps p.tables e below (T1.setTop (mkF m 6 #[.val (.ref x), .val (.ref t), .val (.int (0 : Int32))] [(.ref t), (.ref x)])) _
    refine st2 _ ?_
    show Steps p.tables e below (T2.setTop (mkF m 9 #[.val (.ref x), .val (.ref t), .val (.int (0 : Int32))] [])) _
    refine XS.aloadN X2.here hx rfl (hb hby own_d_jdk_42_method_151_code_9) rfl rfl ?_
    show Steps p.tables e below (T2.setTop (mkF m 10 #[.val (.ref x), .val (.ref t), .val (.int (0 : Int32))] [(.ref x)])) _
    refine XS.iloadN X2.here hx rfl (hb hby own_d_jdk_42_method_151_code_10) rfl ?_
    show Steps p.tables e below (T2.setTop (mkF m 11 #[.val (.ref x), .val (.ref t), .val (.int (0 : Int32))] [(.int (0 : Int32)), (.ref x)])) _
    refine st6 _ ?_
    show Steps p.tables e below (T6.setTop (mkF m 14 #[.val (.ref x), .val (.ref t), .val (.int (0 : Int32))] [])) _
    exact X6.returnOut hx Bd.returns (hb hby own_d_jdk_42_method_151_code_14) hr
  · show Q_own_strBB Z x t kt ds h0 n0 _ T6.heap _
    rw [e6]
    exact ⟨rfl, N6, K7, ⟨f9, f10, f8, f11, hrg, hn4⟩⟩
theorem own_pn_own_ltoS : plainName "java/lang/Long" = true := by first | (simp [plainName, overriddenIn]; done) | decide +kernel
theorem own_ef_own_ltoS (m : MethodId) (vv : Int64) : entryFrame m #[(.long vv)] 4 = mkF m 0 #[.val (.long vv), .second, .unset, .unset] [] := by first | (simp [entryFrame, mkF, argsToLocals, own_cI, own_cJ, own_cR, own_cN]; done) | rfl
abbrev own_F_own_ltoS (m : MethodId) (vv : Int64) : JFrame := entryFrame m #[(.long vv)] 4
def Q_own_ltoS (Z : State) (vv : Int64) (nn : Nat) (gCS : Int32) (ist : Addr) (dt1 : Addr) (dt2 : Addr) (cD1 : Cell) (cD2 : Cell) (h0 : Heap) (n0 : Nat) (v : Option Value) (h : Heap) (L : List Loc) : Prop := ∃ (x : Addr), ∃ (t : Addr), ∃ (kt : ClassId), v = some (.ref x) ∧ Fr n0 L ∧ Keep h0 h [] ∧ (h0.size ≤ x) ∧ (h0.size ≤ t) ∧ (t ≠ x) ∧ (own_Str Z h x t kt (own_decL nn))
set_option maxRecDepth 65536 in
set_option maxHeartbeats 40000000 in
theorem own_ltoS (l : Launch) (Z : State) (a0 : Array Value) (hw : ∀ d ∈ tables_1, d.before a0 Z = true) (ws : List Jvm.Cond) (vv : Int64) (nn : Nat) (gCS : Int32) (ist : Addr) (dt1 : Addr) (dt2 : Addr) (cD1 : Cell) (cD2 : Cell) (h0 : Heap) (n0 : Nat) (O0 : Old Z n0 h0) (hvn : vv.toInt = nn) (hp1 : Sta Z Z.heap "java/lang/String" "COMPACT_STRINGS" "Z" (.int gCS)) (hG1 : ¬ gCS = (0 : Int32)) (hT1 : Jvm.Free.SBG.Tbl Z "DigitOnes" ist dt1 cD1) (hT2 : Jvm.Free.SBG.Tbl Z "DigitTens" ist dt2 cD2) (hO1 : Jvm.Free.SBG.Ones cD1) (hO2 : Jvm.Free.SBG.Tens cD2) (hp7 : ist < n0) (hp8 : dt1 < n0) (hp9 : dt2 < n0) (hD1 : Z.heap[dt1]? = some cD1) (hD2 : Z.heap[dt2]? = some cD2) :
    MetFree l (⟨"java/lang/Long", "toString", "(J)Ljava/lang/String;"⟩ : MethodName) (head1 (Jvm.Cond.code (⟨"java/lang/Long", "toString", "(J)Ljava/lang/String;"⟩ : MethodName) jdk_35_method_12_code 4 (some (.object "java/lang/String")) :: ws) ({ frames := 2, cells := 2, slots := 24, locals := 102 } : Room)) (fun aa_ U_ => aa_ = #[(.long vv)] ∧ Z.Warmed39 U_.vm ∧ U_.heap = h0) (fun _ _ _ _ _ => True) (fun _ U_ o_ V_ => ∃ v_ L_, o_ = .returned v_ ∧ Q_own_ltoS Z vv nn gCS ist dt1 dt2 cD1 cD2 h0 n0 v_ V_.heap L_ ∧ FrameEnd U_ o_ V_ L_ ({ frames := 2, cells := 2, slots := 24, locals := 102 } : Room).cells ({ frames := 2, cells := 2, slots := 24, locals := 102 } : Room).slots) := by
  refine MetFree.of_bodySF (plainFor_of_name own_pn_own_ltoS) hisR ?_
  intro p e s m args below meth c s₁ Bd hml0 hP hK
  obtain ⟨rfl, hZ, hh⟩ := hP
  have hx := Bd.exec
  have hby := Bd.bytes
  have hml : c.maxLocals = 4 := hml0
  have hown : s.vm.findClass "java/lang/Long" = some m.cls := findClass_of_methodNamed Bd.named
  have hnm := (name_of_methodNamed Bd.named Bd.method).1
  have X0 : Stand p l e ({ frames := 2, cells := 2, slots := 24, locals := 102 } : Room) s m #[(.long vv)] below meth c s₁ [] 0 0 := Stand.of_body Bd
  have e0 : s₁.heap = h0 := by rw [← hh, Bd.state]; rfl
  have N0 := Fr.nil n0
  have K0 : Keep h0 h0 [] := Keep.refl _ _
  have r0 : GoTo p.tables e below s₁ (own_F_own_ltoS m vv) s₁ (mkF m 0 #[.val (.long vv), .second, .unset, .unset] []) := fun tt_ kk_ => castTop (own_ef_own_ltoS m vv) kk_
  have hvl : nn < 2 ^ 63 := by have := vv.toInt_lt; omega
  have hv0 : ¬ vv < 0 := by rw [Int64.lt_iff_toInt_lt, hvn, show (0 : Int64).toInt = 0 from rfl]; omega
  have hneg : (if vv < 0 then vv else -vv) = Jvm.Free.SBG.negL nn := by rw [if_neg hv0]; apply Int64.toInt_inj.mp; rw [Int64.toInt_neg, hvn, Jvm.Free.SBG.negL_toInt (by omega), Int.bmod_eq_of_le (by omega) (by omega)]
  have hsg : Jvm.Free.SBG.GetCharsL.sgnL vv = 0 := if_neg hv0
  have hdg := Jvm.Free.SBG.digitsL_pos nn
  obtain ⟨_, _, ⟨T1, L1, k1, n1⟩, -, X1, ⟨⟨hh1, l1, y1, z1⟩, hv1⟩, st1⟩ := Jvm.LawKit.callS X0 hx (y := (⟨"java/lang/Long", "stringSize", "(J)I"⟩ : MethodName)) hown (mvT hZ (hw _ (List.mem_of_getElem? (i := 94) rfl))) (mvT hZ (hw _ (List.mem_of_getElem? (i := 95) rfl))) (mvT hZ (hw _ (List.mem_of_getElem? (i := 92) rfl))) (mvT hZ (hw _ (List.mem_of_getElem? (i := 96) rfl))) (by decide) (Jvm.Free.SBG.StrSizeL.pays (W := 0) (by decide) (by decide) (by simp only [Jvm.Free.SBG.StrSizeL.tab, Cond.before_and, Bool.and_eq_true]; exact ⟨mvT hZ (hw _ (List.mem_of_getElem? (i := 96) rfl)), mvT hZ (hw _ (List.mem_of_getElem? (i := 97) rfl)), mvT hZ (hw _ (List.mem_of_getElem? (i := 213) rfl))⟩) (mvT hZ (hw _ (List.mem_of_getElem? (i := 92) rfl)))) (g := (mkF m 1 #[.val (.long vv), .second, .unset, .unset] [(.long vv)])) rfl (by rw [hml]; rfl) (argsL := [(.long vv)]) (rest := []) (lenOf own_pd16 rfl) rfl (by show 2 * 0 + _ ≤ _; exact Nat.le_of_eq rfl) (hb hby own_d_jdk_35_method_12_code_1) (fun _ _ => ⟨(Nat.le_of_ble_eq_true rfl), (Nat.le_of_ble_eq_true rfl), vv, rfl⟩)
  dsimp only [Pt.U, Pt.locs, Pt.cells, Pt.slots] at X1 l1 y1 z1 st1 hh1
  subst l1 y1 z1
  obtain rfl := hv1 vv rfl
  have e1 : T1.heap = h0 := hh1.trans e0
  have r2 : GoTo p.tables e below s₁ (own_F_own_ltoS m vv) T1 (mkF m 4 #[.val (.long vv), .second, .unset, .unset] [(.int (Jvm.Free.SBG.strSizeOfL vv))]) := fun tt_ kk_ => r0 tt_ (by
      show Steps p.tables e below (s₁.setTop (mkF m 0 #[.val (.long vv), .second, .unset, .unset] [])) _
      refine XS.lloadN X0.here hx rfl (hb hby own_d_jdk_35_method_12_code_0) rfl ?_
      show Steps p.tables e below (s₁.setTop (mkF m 1 #[.val (.long vv), .second, .unset, .unset] [(.long vv)])) _
      refine st1 _ ?_
      show Steps p.tables e below (T1.setTop (mkF m 4 #[.val (.long vv), .second, .unset, .unset] [(.int (Jvm.Free.SBG.strSizeOfL vv))])) _
      exact kk_)
  have r3 : GoTo p.tables e below s₁ (own_F_own_ltoS m vv) T1 (mkF m 4 #[.val (.long vv), .second, .unset, .unset] [(.int (Int32.ofNat (Jvm.Free.SBG.digitsL nn)))]) := Eq.mp (congrArg (fun zz_ => GoTo p.tables e below s₁ (own_F_own_ltoS m vv) T1 (mkF m 4 #[.val (.long vv), .second, .unset, .unset] [(.int zz_)])) (show (Jvm.Free.SBG.strSizeOfL vv) = (Int32.ofNat (Jvm.Free.SBG.digitsL nn)) from (by rw [Jvm.Free.SBG.strSizeOfL_eq (by omega) hneg, hsg, Nat.add_zero]))) r2
  obtain ⟨T4, X4, e4, st4⟩ := getS2 X1 hx hZ hown (host := "") (Or.inl (hw _ (List.mem_of_getElem? (i := 98) rfl))) Via.refl e1 (hp1.ext (O0.keep K0 all0).2) (g := (mkF m 5 #[.val (.long vv), .second, .val (.int (Int32.ofNat (Jvm.Free.SBG.digitsL nn))), .unset] [])) rfl (hb hby own_d_jdk_35_method_12_code_5)
  obtain ⟨T5, h5, k5, X5, e5, E5, A5, Ex5, st5⟩ := newPE X4 hx hZ (hw _ (List.mem_of_getElem? (i := 28) rfl)) e4 (g := (mkF m 12 #[.val (.long vv), .second, .val (.int (Int32.ofNat (Jvm.Free.SBG.digitsL nn))), .unset] [(.int (Int32.ofNat (Jvm.Free.SBG.digitsL nn)))])) rfl (hb hby own_d_jdk_35_method_12_code_12) rfl (own_negN (by omega)) (cap := 20) (by rw [own_clamp (by omega)]; omega) (by decide) (by decide) (by decide) (ad := "[B") (by decide)
  obtain ⟨b5, gg5⟩ : ∃ z, z = h0.size := ⟨_, rfl⟩
  rw [← gg5] at A5 Ex5 st5
  have g6 : n0 ≤ b5 := Nat.le_trans (Nat.le_trans (own_le O0) K0.1) (Nat.le_of_eq gg5.symm)
  have b7 : h0.size ≤ b5 := Nat.le_trans K0.1 (Nat.le_of_eq gg5.symm)
  have K8 : Keep h0 h5 [] := K0.ext E5
  have V5 : Arv Z h5 b5 k5 .byte (Int32.ofNat (Jvm.Free.SBG.digitsL nn)) [] (.int (0 : Int32)) := Arv.new A5 (own_negN (by omega))
  have Bn : own_By Z h5 b5 k5 (Jvm.Free.SBG.digitsL nn) [] := own_By.new Ex5 (by omega) V5
  obtain ⟨vs9, hvl9, ⟨cl9, Ar9, q9, S9, NN9, H9, G9⟩, hvc9⟩ := own_By.arv Bn
  rw [own_clamp (by omega)] at S9
  have hOld : Old Z n0 h5 := (O0.keep K8 all0)
  have hTh : T5.heap = h5 := e5
  obtain ⟨_, _, ⟨T10, L10, k10, n10⟩, -, X10, ⟨hv10, hda10, y10, z10, hsz10, hko10, Lc10, l10, hbs10⟩, st10⟩ := Jvm.LawKit.callS X5 hx (y := (⟨"java/lang/Long", "getChars", "(JI[B)I"⟩ : MethodName)) hown (mvT hZ (hw _ (List.mem_of_getElem? (i := 99) rfl))) (mvT hZ (hw _ (List.mem_of_getElem? (i := 100) rfl))) (mvT hZ (hw _ (List.mem_of_getElem? (i := 92) rfl))) (mvT hZ (hw _ (List.mem_of_getElem? (i := 101) rfl))) (by decide) (Jvm.Free.SBG.GetCharsL.pays (⟨vv, nn, (Jvm.Free.SBG.digitsL nn), b5, cl9, ist, dt1, cD1, dt2, cD2⟩ : Jvm.Free.SBG.GetCharsL.G) 0 (by simp only [Jvm.Free.SBG.GetCharsL.tab, Cond.before_and, Bool.and_eq_true]; exact ⟨mvT hZ (hw _ (List.mem_of_getElem? (i := 101) rfl)), mvT hZ (hw _ (List.mem_of_getElem? (i := 103) rfl)), mvT hZ (hw _ (List.mem_of_getElem? (i := 215) rfl)), mvT hZ (hw _ (List.mem_of_getElem? (i := 102) rfl)), mvT hZ (hw _ (List.mem_of_getElem? (i := 214) rfl))⟩) (mvT hZ (hw _ (List.mem_of_getElem? (i := 92) rfl))) (by decide) (by decide)) (g := (mkF m 18 #[.val (.long vv), .second, .val (.int (Int32.ofNat (Jvm.Free.SBG.digitsL nn))), .val (.ref b5)] [(.ref b5), (.int (Int32.ofNat (Jvm.Free.SBG.digitsL nn))), (.long vv)])) rfl (by rw [hml]; rfl) (argsL := [(.long vv), (.int (Int32.ofNat (Jvm.Free.SBG.digitsL nn))), (.ref b5)]) (rest := []) (lenOf own_pd17 rfl) rfl (by show 2 * 0 + _ ≤ _; exact Nat.le_of_eq rfl) (hb hby own_d_jdk_35_method_12_code_18) (fun vm1 hW1 => ⟨rfl, (Nat.le_of_ble_eq_true rfl), (Nat.le_of_ble_eq_true rfl), rfl, (by show T5.heap[b5]? = some cl9; rw [hTh]; exact Ar9.1), State.isArrayOf_alike (hZ.alike.trans hW1.alike) Ar9.2.1, Ar9.2.2, (by show cl9.slots.size < 2 ^ 31; omega), (by show (Jvm.Free.SBG.digitsL nn) ≤ cl9.slots.size; omega), (by show (Jvm.Free.SBG.digitsL nn) + Jvm.Free.SBG.GetCharsL.sgnL vv ≤ (Jvm.Free.SBG.digitsL nn); omega), (by show nn ≤ 2 ^ 63; omega), hneg, (Jvm.Free.SBG.Tbl.move (hZ.alike.trans hW1.alike) (fun c hc => by show T5.heap[ist]? = some c; rw [hTh]; exact hOld.2.2 _ _ hc) (by show T5.heap[dt1]? = some cD1; rw [hTh]; exact hOld.2.2 _ _ hD1) hT1), (Jvm.Free.SBG.Tbl.move (hZ.alike.trans hW1.alike) (fun c hc => by show T5.heap[ist]? = some c; rw [hTh]; exact hOld.2.2 _ _ hc) (by show T5.heap[dt2]? = some cD2; rw [hTh]; exact hOld.2.2 _ _ hD2) hT2), (Ne.symm (Nat.ne_of_lt (Nat.lt_of_lt_of_le hp7 g6))), (Ne.symm (Nat.ne_of_lt (Nat.lt_of_lt_of_le hp8 g6))), (Ne.symm (Nat.ne_of_lt (Nat.lt_of_lt_of_le hp9 g6)))⟩)
  dsimp only [Pt.U, Pt.locs, Pt.cells, Pt.slots] at X10 l10 y10 z10 st10 hda10 hsz10 hko10
  subst l10 y10 z10
  obtain rfl := hv10
  obtain ⟨Kg10, Bg10⟩ := own_gcL (v := vv) (nn := nn) (h := h5) (h' := T10.heap) (cs := ([] : List Int32)) Bn Ar9.1 hO1 hO2 hv0 (by omega) (by show 0 + _ ≤ _; omega) (by rw [show ([] : List Int32).length + (Jvm.Free.SBG.digitsL nn) = (Jvm.Free.SBG.digitsL nn) from Nat.zero_add _]; exact hda10) (by rw [hsz10]; show T5.heap.size = _; rw [hTh]) (fun y cy hy hc => hko10 y cy hy (by show T5.heap[y]? = some cy; rw [hTh]; exact hc))
  have N10 := Fr.app N0 (fun y hy => by rw [hbs10 y hy]; exact g6)
  have K11 : Keep h0 T10.heap [] := K8.trans Kg10 (allS (Or.inr b7) all0)
  obtain ⟨-, -, -, vq, hq1, hq2, hq3⟩ := Bg10
  have Vq : Arv Z T10.heap b5 k5 .byte (Int32.ofNat (own_decL nn).length) (((own_decL nn).map fun c => c.toInt8.toInt32).map Value.int) (.int 0) := own_arvStr (by rw [own_decL_len]; exact hq1) hq3 (by rw [own_decL_len]; exact hq2)
  obtain ⟨T12, h12, X12, e12, E12, A12, D12, -, st12⟩ := newO X10 hx hZ hown (hw _ (List.mem_of_getElem? (i := 105) rfl)) (hw _ (List.mem_of_getElem? (i := 106) rfl)) (hw _ (List.mem_of_getElem? (i := 27) rfl)) rfl (g := (mkF m 22 #[.val (.long vv), .second, .val (.int (Int32.ofNat (Jvm.Free.SBG.digitsL nn))), .val (.ref b5)] [])) rfl (hb hby own_d_jdk_35_method_12_code_22) (by decide) (by decide)
  obtain ⟨b12, gg12⟩ : ∃ z, z = T10.heap.size := ⟨_, rfl⟩
  rw [← gg12] at A12 D12 st12
  have ne13 : b5 ≠ b12 := Nat.ne_of_lt (Nat.lt_of_lt_of_le (Nat.lt_of_lt_of_le V5.lt Kg10.1) (Nat.le_of_eq gg12.symm))
  have g14 : n0 ≤ b12 := Nat.le_trans (Nat.le_trans (own_le O0) K11.1) (Nat.le_of_eq gg12.symm)
  have b15 : h0.size ≤ b12 := Nat.le_trans K11.1 (Nat.le_of_eq gg12.symm)
  have K16 : Keep h0 h12 [] := K11.ext E12
  have f17 : Arv Z h12 b5 k5 .byte (Int32.ofNat (own_decL nn).length) (((own_decL nn).map fun c => c.toInt8.toInt32).map Value.int) (.int (0 : Int32)) := (Vq.ext E12)
  obtain ⟨_, _, ⟨T18, L18, k18, n18⟩, -, X18, ⟨Lc18, hQ18, l18, y18, z18⟩, st18⟩ := X12.specialBack hx (y := (⟨"java/lang/String", "<init>", "([BB)V"⟩ : MethodName)) rfl hown (mvT hZ (hw _ (List.mem_of_getElem? (i := 107) rfl))) (mvT hZ (hw _ (List.mem_of_getElem? (i := 108) rfl))) (mvT hZ (hw _ (List.mem_of_getElem? (i := 110) rfl))) (by decide) (backOf (W := 1) (own_strBB l Z a0 hw [] (b12) (b5) (k5) ((own_decL nn)) h12 n0 (O0.keep K16 all0) (A12) (g14) ((D12 (Or.inr (hw _ (List.mem_of_getElem? (i := 51) rfl))) (ty := (.array .byte)) (by decide))) ((D12 (Or.inr (hw _ (List.mem_of_getElem? (i := 59) rfl))) (ty := .byte) (by decide))) (f17) (own_decL_rng nn) (by rw [own_decL_len]; omega) (ne13)) hZ (hw _ (List.mem_of_getElem? (i := 110) rfl)) (hw _ (List.mem_of_getElem? (i := 27) rfl)) (by decide) (by decide)) (g := (mkF m 28 #[.val (.long vv), .second, .val (.int (Int32.ofNat (Jvm.Free.SBG.digitsL nn))), .val (.ref b5)] [(.int (0 : Int32)), (.ref b5), (.ref b12), (.ref b12)])) rfl (by rw [hml]; rfl) (Steps.refl _) (a := b12) (argsL := [(.ref b5), (.int (0 : Int32))]) (rest := [(.ref b12)]) (lenOf own_pd18 rfl) rfl (by show 2 * 0 + _ ≤ _; exact Nat.le_of_eq rfl) (hb hby own_d_jdk_35_method_12_code_28) (fun _ _ => ⟨rfl, e12, (by decide : 2 + 0 ≤ _), (by decide : 24 + 0 ≤ _)⟩)
  dsimp only [Pt.U, Pt.locs, Pt.cells, Pt.slots] at X18 l18 y18 z18 st18 hQ18
  subst l18 y18 z18
  obtain ⟨rfl, Nq18, Kq18, po18_0⟩ := hQ18
  have N18 := Fr.app N10 Nq18
  have K19 : Keep h0 T18.heap [] := K16.trans Kq18 (allS (Or.inr b15) all0)
  obtain ⟨fs, hr, hrun, hended, hW, hsame⟩ := X18.leave (v := some (.ref b12)) (fun h => by rw [Bd.returns] at h; cases h)
  refine ⟨_, _, r3 _ ?_, hrun, hended, _, _, rfl, ?_, ⟨_, rfl⟩, hW, hsame.mono (by decide) (by decide)⟩
  · show Steps p.tables e below (T1.setTop (mkF m 4 #[.val (.long vv), .second, .unset, .unset] [(.int (Int32.ofNat (Jvm.Free.SBG.digitsL nn)))])) _
    refine XS.istoreN X1.here hx rfl (hb hby own_d_jdk_35_method_12_code_4) rfl (l' := #[.val (.long vv), .second, .val (.int (Int32.ofNat (Jvm.Free.SBG.digitsL nn))), .unset]) rfl ?_
    show Steps p.tables e below (T1.setTop (mkF m 5 #[.val (.long vv), .second, .val (.int (Int32.ofNat (Jvm.Free.SBG.digitsL nn))), .unset] [])) _
    refine st4 _ ?_
    show Steps p.tables e below (T4.setTop (mkF m 8 #[.val (.long vv), .second, .val (.int (Int32.ofNat (Jvm.Free.SBG.digitsL nn))), .unset] [(.int gCS)])) _
    refine XS.ifNo X4.here hx rfl (hb hby own_d_jdk_35_method_12_code_8) rfl ((if0 _ _).trans (feq hG1).1) ?_
    show Steps p.tables e below (T4.setTop (mkF m 11 #[.val (.long vv), .second, .val (.int (Int32.ofNat (Jvm.Free.SBG.digitsL nn))), .unset] [])) _
    refine XS.iloadN X4.here hx rfl (hb hby own_d_jdk_35_method_12_code_11) rfl ?_
    show Steps p.tables e below (T4.setTop (mkF m 12 #[.val (.long vv), .second, .val (.int (Int32.ofNat (Jvm.Free.SBG.digitsL nn))), .unset] [(.int (Int32.ofNat (Jvm.Free.SBG.digitsL nn)))])) _
    refine st5 _ ?_
    show Steps p.tables e below (T5.setTop (mkF m 14 #[.val (.long vv), .second, .val (.int (Int32.ofNat (Jvm.Free.SBG.digitsL nn))), .unset] [(.ref b5)])) _
    refine XS.astoreN X5.here hx rfl (hb hby own_d_jdk_35_method_12_code_14) rfl rfl (l' := #[.val (.long vv), .second, .val (.int (Int32.ofNat (Jvm.Free.SBG.digitsL nn))), .val (.ref b5)]) rfl ?_
    show Steps p.tables e below (T5.setTop (mkF m 15 #[.val (.long vv), .second, .val (.int (Int32.ofNat (Jvm.Free.SBG.digitsL nn))), .val (.ref b5)] [])) _
    refine XS.lloadN X5.here hx rfl (hb hby own_d_jdk_35_method_12_code_15) rfl ?_
    show Steps p.tables e below (T5.setTop (mkF m 16 #[.val (.long vv), .second, .val (.int (Int32.ofNat (Jvm.Free.SBG.digitsL nn))), .val (.ref b5)] [(.long vv)])) _
    refine XS.iloadN X5.here hx rfl (hb hby own_d_jdk_35_method_12_code_16) rfl ?_
    show Steps p.tables e below (T5.setTop (mkF m 17 #[.val (.long vv), .second, .val (.int (Int32.ofNat (Jvm.Free.SBG.digitsL nn))), .val (.ref b5)] [(.int (Int32.ofNat (Jvm.Free.SBG.digitsL nn))), (.long vv)])) _
    refine XS.aloadN X5.here hx rfl (hb hby own_d_jdk_35_method_12_code_17) rfl rfl ?_
    show Steps p.tables e below (T5.setTop (mkF m 18 #[.val (.long vv), .second, .val (.int (Int32.ofNat (Jvm.Free.SBG.digitsL nn))), .val (.ref b5)] [(.ref b5), (.int (Int32.ofNat (Jvm.Free.SBG.digitsL nn))), (.long vv)])) _
    refine st10 _ ?_
    show Steps p.tables e below (T10.setTop (mkF m 21 #[.val (.long vv), .second, .val (.int (Int32.ofNat (Jvm.Free.SBG.digitsL nn))), .val (.ref b5)] [(.int (Int32.ofNat ((Jvm.Free.SBG.digitsL nn) - ((Jvm.Free.SBG.digitsL nn) + Jvm.Free.SBG.GetCharsL.sgnL vv))))])) _
    refine XS.pop X10.here hx rfl (hb hby own_d_jdk_35_method_12_code_21) rfl rfl ?_
    show Steps p.tables e below (T10.setTop (mkF m 22 #[.val (.long vv), .second, .val (.int (Int32.ofNat (Jvm.Free.SBG.digitsL nn))), .val (.ref b5)] [])) _
    refine st12 _ ?_
    show Steps p.tables e below (T12.setTop (mkF m 25 #[.val (.long vv), .second, .val (.int (Int32.ofNat (Jvm.Free.SBG.digitsL nn))), .val (.ref b5)] [(.ref b12)])) _
    refine XS.dup X12.here hx rfl (hb hby own_d_jdk_35_method_12_code_25) rfl rfl ?_
    show Steps p.tables e below (T12.setTop (mkF m 26 #[.val (.long vv), .second, .val (.int (Int32.ofNat (Jvm.Free.SBG.digitsL nn))), .val (.ref b5)] [(.ref b12), (.ref b12)])) _
    refine XS.aloadN X12.here hx rfl (hb hby own_d_jdk_35_method_12_code_26) rfl rfl ?_
    show Steps p.tables e below (T12.setTop (mkF m 27 #[.val (.long vv), .second, .val (.int (Int32.ofNat (Jvm.Free.SBG.digitsL nn))), .val (.ref b5)] [(.ref b5), (.ref b12), (.ref b12)])) _
    refine XS.iconst X12.here hx rfl (hb hby own_d_jdk_35_method_12_code_27) ?_
    show Steps p.tables e below (T12.setTop (mkF m 28 #[.val (.long vv), .second, .val (.int (Int32.ofNat (Jvm.Free.SBG.digitsL nn))), .val (.ref b5)] [(.int (0 : Int32)), (.ref b5), (.ref b12), (.ref b12)])) _
    refine st18.trans ?_
    show Steps p.tables e below (T18.setTop (mkF m 31 #[.val (.long vv), .second, .val (.int (Int32.ofNat (Jvm.Free.SBG.digitsL nn))), .val (.ref b5)] [(.ref b12)])) _
    exact retOut X18 hx (t := (.object "java/lang/String")) Bd.returns rfl (Or.inr (Or.inr (Or.inr (Or.inr ⟨rfl, rfl, rfl⟩)))) (hb hby own_d_jdk_35_method_12_code_31) hr
  · show Q_own_ltoS Z vv nn gCS ist dt1 dt2 cD1 cD2 h0 n0 _ T18.heap _
    exact ⟨b12, b5, k5, rfl, N18, K19, b15, b7, ne13, po18_0⟩
theorem own_ef_own_maxI (m : MethodId) (x : Int32) (y : Int32) : entryFrame m #[(.int x), (.int y)] 2 = mkF m 0 #[.val (.int x), .val (.int y)] [] := by first | (simp [entryFrame, mkF, argsToLocals, own_cI, own_cJ, own_cR, own_cN]; done) | rfl
abbrev own_F_own_maxI (m : MethodId) (x : Int32) (y : Int32) : JFrame := entryFrame m #[(.int x), (.int y)] 2
def Q_own_maxI (Z : State) (x : Int32) (y : Int32) (h0 : Heap) (n0 : Nat) (v : Option Value) (h : Heap) (L : List Loc) : Prop := v = some (.int (if x < y then y else x)) ∧ Fr n0 L ∧ h = h0
set_option maxRecDepth 65536 in
set_option maxHeartbeats 40000000 in
theorem own_maxI (l : Launch) (Z : State) (a0 : Array Value) (hw : ∀ d ∈ tables_1, d.before a0 Z = true) (ws : List Jvm.Cond) (x : Int32) (y : Int32) (h0 : Heap) (n0 : Nat) (O0 : Old Z n0 h0) :
    MetFree l (⟨"java/lang/Math", "max", "(II)I"⟩ : MethodName) (head1 (Jvm.Cond.code (⟨"java/lang/Math", "max", "(II)I"⟩ : MethodName) jdk_29_method_65_code 2 (some .int) :: ws) ({ frames := 0, cells := 0, slots := 0, locals := 0 } : Room)) (fun aa_ U_ => aa_ = #[(.int x), (.int y)] ∧ Z.Warmed39 U_.vm ∧ U_.heap = h0) (fun _ _ _ _ _ => True) (fun _ U_ o_ V_ => ∃ v_ L_, o_ = .returned v_ ∧ Q_own_maxI Z x y h0 n0 v_ V_.heap L_ ∧ FrameEnd U_ o_ V_ L_ ({ frames := 0, cells := 0, slots := 0, locals := 0 } : Room).cells ({ frames := 0, cells := 0, slots := 0, locals := 0 } : Room).slots) := by
  refine MetFree.of_bodySF (Jvm.Free.JP.mathPlain rfl (by decide +kernel)) hisR ?_
  intro p e s m args below meth c s₁ Bd hml0 hP hK
  obtain ⟨rfl, hZ, hh⟩ := hP
  have hx := Bd.exec
  have hby := Bd.bytes
  have hml : c.maxLocals = 2 := hml0
  have hown : s.vm.findClass "java/lang/Math" = some m.cls := findClass_of_methodNamed Bd.named
  have hnm := (name_of_methodNamed Bd.named Bd.method).1
  have X0 : Stand p l e ({ frames := 0, cells := 0, slots := 0, locals := 0 } : Room) s m #[(.int x), (.int y)] below meth c s₁ [] 0 0 := Stand.of_body Bd
  have e0 : s₁.heap = h0 := by rw [← hh, Bd.state]; rfl
  have N0 := Fr.nil n0
  have K0 : Keep h0 h0 [] := Keep.refl _ _
  have r0 : GoTo p.tables e below s₁ (own_F_own_maxI m x y) s₁ (mkF m 0 #[.val (.int x), .val (.int y)] []) := fun tt_ kk_ => castTop (own_ef_own_maxI m x y) kk_
  have r1 : GoTo p.tables e below s₁ (own_F_own_maxI m x y) s₁ (mkF m 2 #[.val (.int x), .val (.int y)] [(.int y), (.int x)]) := fun tt_ kk_ => r0 tt_ (by
      show Steps p.tables e below (s₁.setTop (mkF m 0 #[.val (.int x), .val (.int y)] [])) _
      refine XS.iloadN X0.here hx rfl (hb hby own_d_jdk_29_method_65_code_0) rfl ?_
      show Steps p.tables e below (s₁.setTop (mkF m 1 #[.val (.int x), .val (.int y)] [(.int x)])) _
      refine XS.iloadN X0.here hx rfl (hb hby own_d_jdk_29_method_65_code_1) rfl ?_
      show Steps p.tables e below (s₁.setTop (mkF m 2 #[.val (.int x), .val (.int y)] [(.int y), (.int x)])) _
      exact kk_)
  by_cases hc2 : x < y
  · obtain ⟨fs, hr, hrun, hended, hW, hsame⟩ := X0.leave (v := some (.int y)) (fun h => by rw [Bd.returns] at h; cases h)
    refine ⟨_, _, r1 _ ?_, hrun, hended, _, _, rfl, ?_, ⟨_, rfl⟩, hW, hsame.mono (by decide) (by decide)⟩
    · show Steps p.tables e below (s₁.setTop (mkF m 2 #[.val (.int x), .val (.int y)] [(.int y), (.int x)])) _
      refine XS.icmpYes X0.here hx rfl (pc0 := 2) (pc' := 9) rfl (hb hby own_d_jdk_29_method_65_code_2) rfl (tlt hc2).1 (by decide) (by decide) ?_
      show Steps p.tables e below (s₁.setTop (mkF m 9 #[.val (.int x), .val (.int y)] [])) _
      refine XS.iloadN X0.here hx rfl (hb hby own_d_jdk_29_method_65_code_9) rfl ?_
      show Steps p.tables e below (s₁.setTop (mkF m 10 #[.val (.int x), .val (.int y)] [(.int y)])) _
      exact retI X0 hx Bd.returns (hb hby own_d_jdk_29_method_65_code_10) hr
    · show Q_own_maxI Z x y h0 n0 _ s₁.heap _
      rw [e0]
      exact ⟨(by rw [if_pos hc2]), N0, rfl⟩
  · obtain ⟨fs, hr, hrun, hended, hW, hsame⟩ := X0.leave (v := some (.int x)) (fun h => by rw [Bd.returns] at h; cases h)
    refine ⟨_, _, r1 _ ?_, hrun, hended, _, _, rfl, ?_, ⟨_, rfl⟩, hW, hsame.mono (by decide) (by decide)⟩
    · show Steps p.tables e below (s₁.setTop (mkF m 2 #[.val (.int x), .val (.int y)] [(.int y), (.int x)])) _
      refine XS.icmpNo X0.here hx rfl (hb hby own_d_jdk_29_method_65_code_2) rfl (flt hc2).1 ?_
      show Steps p.tables e below (s₁.setTop (mkF m 5 #[.val (.int x), .val (.int y)] [])) _
      refine XS.iloadN X0.here hx rfl (hb hby own_d_jdk_29_method_65_code_5) rfl ?_
      show Steps p.tables e below (s₁.setTop (mkF m 6 #[.val (.int x), .val (.int y)] [(.int x)])) _
      refine XS.goto X0.here hx rfl (pc0 := 6) (pc' := 10) rfl (hb hby own_d_jdk_29_method_65_code_6) (by decide) (by decide) ?_
      show Steps p.tables e below (s₁.setTop (mkF m 10 #[.val (.int x), .val (.int y)] [(.int x)])) _
      exact retI X0 hx Bd.returns (hb hby own_d_jdk_29_method_65_code_10) hr
    · show Q_own_maxI Z x y h0 n0 _ s₁.heap _
      rw [e0]
      exact ⟨(by rw [if_neg hc2]), N0, rfl⟩
theorem own_pn_own_rep : plainName "java/lang/String" = true := by first | (simp [plainName, overriddenIn]; done) | decide +kernel
theorem own_ef_own_rep (m : MethodId) (y : Addr) (cnt : Nat) : entryFrame m #[(.ref y), (.int (Int32.ofNat cnt))] 5 = mkF m 0 #[.val (.ref y), .val (.int (Int32.ofNat cnt)), .unset, .unset, .unset] [] := by first | (simp [entryFrame, mkF, argsToLocals, own_cI, own_cJ, own_cR, own_cN]; done) | rfl
abbrev own_F_own_rep (m : MethodId) (y : Addr) (cnt : Nat) : JFrame := entryFrame m #[(.ref y), (.int (Int32.ofNat cnt))] 5
def Q_own_rep (Z : State) (y : Addr) (ty : Addr) (ky : ClassId) (cnt : Nat) (h0 : Heap) (n0 : Nat) (v : Option Value) (h : Heap) (L : List Loc) : Prop := ∃ (x : Addr), ∃ (t : Addr), ∃ (kt : ClassId), v = some (.ref x) ∧ Fr n0 L ∧ Keep h0 h [] ∧ (own_Str Z h x t kt (List.replicate cnt (48 : Int32))) ∧ (cnt ≤ 1 ∨ h0.size ≤ t)
set_option maxRecDepth 65536 in
set_option maxHeartbeats 40000000 in
theorem own_rep (l : Launch) (Z : State) (a0 : Array Value) (hw : ∀ d ∈ tables_1, d.before a0 Z = true) (ws : List Jvm.Cond) (y : Addr) (ty : Addr) (ky : ClassId) (cnt : Nat) (h0 : Heap) (n0 : Nat) (O0 : Old Z n0 h0) (hp0 : own_Str Z h0 y ty ky ([48] : List Int32)) (hc60 : cnt ≤ 60) (hEL : EW Z a0 consts_1) :
    MetFree l (⟨"java/lang/String", "repeat", "(I)Ljava/lang/String;"⟩ : MethodName) (head1 (Jvm.Cond.code (⟨"java/lang/String", "repeat", "(I)Ljava/lang/String;"⟩ : MethodName) jdk_42_method_145_code 5 (some (.object "java/lang/String")) :: ws) ({ frames := 2, cells := 2, slots := 64, locals := 55 } : Room)) (fun aa_ U_ => aa_ = #[(.ref y), (.int (Int32.ofNat cnt))] ∧ Z.Warmed39 U_.vm ∧ U_.heap = h0 ∧ CHv Z consts_1 U_.vm h0) (fun _ _ _ _ _ => True) (fun _ U_ o_ V_ => ∃ v_ L_, o_ = .returned v_ ∧ Q_own_rep Z y ty ky cnt h0 n0 v_ V_.heap L_ ∧ CHr Z consts_1 U_.vm U_.heap V_.vm V_.heap ∧ ReturnedEndW U_ o_ V_ L_ ({ frames := 2, cells := 2, slots := 64, locals := 55 } : Room).cells ({ frames := 2, cells := 2, slots := 64, locals := 55 } : Room).slots) := by
  refine MetFree.of_bodySF (plainFor_of_name own_pn_own_rep) hisR ?_
  intro p e s m args below meth c s₁ Bd hml0 hP hK
  obtain ⟨rfl, hZ, hh, hC0⟩ := hP
  have hx := Bd.exec
  have hby := Bd.bytes
  have hml : c.maxLocals = 5 := hml0
  have hown : s.vm.findClass "java/lang/String" = some m.cls := findClass_of_methodNamed Bd.named
  have hnm := (name_of_methodNamed Bd.named Bd.method).1
  have X0 : Stand p l e ({ frames := 2, cells := 2, slots := 64, locals := 55 } : Room) s m #[(.ref y), (.int (Int32.ofNat cnt))] below meth c s₁ [] 0 0 := Stand.of_body Bd
  have e0 : s₁.heap = h0 := by rw [← hh, Bd.state]; rfl
  have N0 := Fr.nil n0
  have hS0 : s.Since s.vm 0 := (State.WarmedH.refl s).since 0
  have CA0 : CHr Z consts_1 s.vm h0 s.vm h0 := CHr.refl hC0
  have KA0 : Keep h0 h0 [] := Keep.refl _ _
  have K0 : Keep h0 h0 [] := Keep.refl _ _
  have r0 : GoTo p.tables e below s₁ (own_F_own_rep m y cnt) s₁ (mkF m 0 #[.val (.ref y), .val (.int (Int32.ofNat cnt)), .unset, .unset, .unset] []) := fun tt_ kk_ => castTop (own_ef_own_rep m y cnt) kk_
  have hA1 : Arv Z h0 ty ky .byte (1 : Int32) [(.int (48 : Int32))] (.int (0 : Int32)) := by have q := hp0.2.2.2.1; rw [show ((([48] : List Int32).map fun c => c.toInt8.toInt32).map Value.int) = [.int 48] from by decide +kernel] at q; exact q
  have r1 : GoTo p.tables e below s₁ (own_F_own_rep m y cnt) s₁ (mkF m 34 #[.val (.ref y), .val (.int (Int32.ofNat cnt)), .unset, .unset, .unset] [(.int (1 : Int32)), (.int (Int32.ofNat cnt))]) := fun tt_ kk_ => r0 tt_ (by
      show Steps p.tables e below (s₁.setTop (mkF m 0 #[.val (.ref y), .val (.int (Int32.ofNat cnt)), .unset, .unset, .unset] [])) _
      refine XS.iloadN X0.here hx rfl (hb hby own_d_jdk_42_method_145_code_0) rfl ?_
      show Steps p.tables e below (s₁.setTop (mkF m 1 #[.val (.ref y), .val (.int (Int32.ofNat cnt)), .unset, .unset, .unset] [(.int (Int32.ofNat cnt))])) _
      refine XS.ifYes X0.here hx rfl (pc0 := 1) (pc' := 32) rfl (hb hby own_d_jdk_42_method_145_code_1) rfl ((if0 _ _).trans (flt (own_negN (by omega))).2.1) (by decide) (by decide) ?_
      show Steps p.tables e below (s₁.setTop (mkF m 32 #[.val (.ref y), .val (.int (Int32.ofNat cnt)), .unset, .unset, .unset] [])) _
      refine XS.iloadN X0.here hx rfl (hb hby own_d_jdk_42_method_145_code_32) rfl ?_
      show Steps p.tables e below (s₁.setTop (mkF m 33 #[.val (.ref y), .val (.int (Int32.ofNat cnt)), .unset, .unset, .unset] [(.int (Int32.ofNat cnt))])) _
      refine XS.iconst X0.here hx rfl (hb hby own_d_jdk_42_method_145_code_33) ?_
      show Steps p.tables e below (s₁.setTop (mkF m 34 #[.val (.ref y), .val (.int (Int32.ofNat cnt)), .unset, .unset, .unset] [(.int (1 : Int32)), (.int (Int32.ofNat cnt))])) _
      exact kk_)
  by_cases hc1 : cnt = 1
  · have C2 : CHr Z consts_1 s.vm h0 s.vm h0 := CHr.keep K0 all0 hC0
    have CAe : CHr Z consts_1 s.vm h0 s.vm h0 := CA0.trans C2
    have CAf : CHr Z consts_1 s.vm h0 s₁.vm h0 := CAe.trans (CHv.at (s := s) (vm0 := s.vm) X0 hZ hEL CAe.1)
    obtain ⟨fs, hr, hrun, hended, hRW⟩ := Stand.leaveW (s := s) (vm₁ := s.vm) X0 hS0 (by rw [e0]; exact (Nat.le_trans (Nat.zero_le _) K0.1)) (v := some (.ref y)) (fun h => by rw [Bd.returns] at h; cases h)
    refine ⟨_, _, r1 _ ?_, hrun, hended, _, _, rfl, ?_, (by show CHr Z consts_1 s.vm s.heap s₁.vm s₁.heap; rw [hh, e0]; exact CAf), ⟨hRW.1, hRW.2.1, hRW.2.2.1, hRW.2.2.2.mono (by decide) (by decide)⟩⟩
    · show Steps p.tables e below (s₁.setTop (mkF m 34 #[.val (.ref y), .val (.int (Int32.ofNat cnt)), .unset, .unset, .unset] [(.int (1 : Int32)), (.int (Int32.ofNat cnt))])) _
      refine XS.icmpNo X0.here hx rfl (hb hby own_d_jdk_42_method_145_code_34) rfl (teq ((own_eqN (b := 1) (by omega) (by decide)).mpr hc1)).2 ?_
      show Steps p.tables e below (s₁.setTop (mkF m 37 #[.val (.ref y), .val (.int (Int32.ofNat cnt)), .unset, .unset, .unset] [])) _
      refine XS.aloadN X0.here hx rfl (hb hby own_d_jdk_42_method_145_code_37) rfl rfl ?_
      show Steps p.tables e below (s₁.setTop (mkF m 38 #[.val (.ref y), .val (.int (Int32.ofNat cnt)), .unset, .unset, .unset] [(.ref y)])) _
      exact retOut X0 hx (t := (.object "java/lang/String")) Bd.returns rfl (Or.inr (Or.inr (Or.inr (Or.inr ⟨rfl, rfl, rfl⟩)))) (hb hby own_d_jdk_42_method_145_code_38) hr
    · show Q_own_rep Z y ty ky cnt h0 n0 _ s₁.heap _
      rw [e0]
      exact ⟨y, ty, ky, rfl, N0, (KA0.trans K0 all0), (by rw [hc1]; exact hp0), Or.inl (by omega)⟩
  · obtain ⟨T3, X3, e3, st3⟩ := getF X0 hx hZ hown (host := "") (Or.inl (hw _ (List.mem_of_getElem? (i := 50) rfl))) Via.refl e0 hp0.2.1 (g := (mkF m 40 #[.val (.ref y), .val (.int (Int32.ofNat cnt)), .unset, .unset, .unset] [(.ref y)])) rfl rfl (hb hby own_d_jdk_42_method_145_code_40)
    obtain ⟨cl4, Ar4, q4, S4, NN4, H4, G4⟩ := id hA1
    have r5 : GoTo p.tables e below s₁ (own_F_own_rep m y cnt) T3 (mkF m 50 #[.val (.ref y), .val (.int (Int32.ofNat cnt)), .val (.int (1 : Int32)), .unset, .unset] [(.int (Int32.ofNat cnt))]) := fun tt_ kk_ => r1 tt_ (by
        show Steps p.tables e below (s₁.setTop (mkF m 34 #[.val (.ref y), .val (.int (Int32.ofNat cnt)), .unset, .unset, .unset] [(.int (1 : Int32)), (.int (Int32.ofNat cnt))])) _
        refine XS.icmpYes X0.here hx rfl (pc0 := 34) (pc' := 39) rfl (hb hby own_d_jdk_42_method_145_code_34) rfl (feq (fun q => hc1 ((own_eqN (b := 1) (by omega) (by decide)).mp q))).2 (by decide) (by decide) ?_
        show Steps p.tables e below (s₁.setTop (mkF m 39 #[.val (.ref y), .val (.int (Int32.ofNat cnt)), .unset, .unset, .unset] [])) _
        refine XS.aloadN X0.here hx rfl (hb hby own_d_jdk_42_method_145_code_39) rfl rfl ?_
        show Steps p.tables e below (s₁.setTop (mkF m 40 #[.val (.ref y), .val (.int (Int32.ofNat cnt)), .unset, .unset, .unset] [(.ref y)])) _
        refine st3 _ ?_
        show Steps p.tables e below (T3.setTop (mkF m 43 #[.val (.ref y), .val (.int (Int32.ofNat cnt)), .unset, .unset, .unset] [(.ref ty)])) _
        refine X3.arraylength hx (by rw [e3]; exact Ar4.1) (State.isArrayOf_alike hZ.alike Ar4.2.1) (g := (mkF m 43 #[.val (.ref y), .val (.int (Int32.ofNat cnt)), .unset, .unset, .unset] [(.ref ty)])) rfl rfl (hb hby own_d_jdk_42_method_145_code_43) _ ?_
        rw [len_of S4 NN4]
        show Steps p.tables e below (T3.setTop (mkF m 44 #[.val (.ref y), .val (.int (Int32.ofNat cnt)), .unset, .unset, .unset] [(.int (1 : Int32))])) _
        refine XS.istoreN X3.here hx rfl (hb hby own_d_jdk_42_method_145_code_44) rfl (l' := #[.val (.ref y), .val (.int (Int32.ofNat cnt)), .val (.int (1 : Int32)), .unset, .unset]) rfl ?_
        show Steps p.tables e below (T3.setTop (mkF m 45 #[.val (.ref y), .val (.int (Int32.ofNat cnt)), .val (.int (1 : Int32)), .unset, .unset] [])) _
        refine XS.iloadN X3.here hx rfl (hb hby own_d_jdk_42_method_145_code_45) rfl ?_
        show Steps p.tables e below (T3.setTop (mkF m 46 #[.val (.ref y), .val (.int (Int32.ofNat cnt)), .val (.int (1 : Int32)), .unset, .unset] [(.int (1 : Int32))])) _
        refine XS.ifNo X3.here hx rfl (hb hby own_d_jdk_42_method_145_code_46) rfl ((if0 _ _).trans (feq (by decide)).1) ?_
        show Steps p.tables e below (T3.setTop (mkF m 49 #[.val (.ref y), .val (.int (Int32.ofNat cnt)), .val (.int (1 : Int32)), .unset, .unset] [])) _
        refine XS.iloadN X3.here hx rfl (hb hby own_d_jdk_42_method_145_code_49) rfl ?_
        show Steps p.tables e below (T3.setTop (mkF m 50 #[.val (.ref y), .val (.int (Int32.ofNat cnt)), .val (.int (1 : Int32)), .unset, .unset] [(.int (Int32.ofNat cnt))])) _
        exact kk_)
    by_cases hc0 : cnt = 0
    · have r6 : GoTo p.tables e below s₁ (own_F_own_rep m y cnt) T3 (mkF m 53 #[.val (.ref y), .val (.int (Int32.ofNat cnt)), .val (.int (1 : Int32)), .unset, .unset] []) := fun tt_ kk_ => r5 tt_ (by
          show Steps p.tables e below (T3.setTop (mkF m 50 #[.val (.ref y), .val (.int (Int32.ofNat cnt)), .val (.int (1 : Int32)), .unset, .unset] [(.int (Int32.ofNat cnt))])) _
          refine XS.ifNo X3.here hx rfl (hb hby own_d_jdk_42_method_145_code_50) rfl ((if0 _ _).trans (teq ((own_eqN (b := 0) (by omega) (by decide)).mpr hc0)).2) ?_
          show Steps p.tables e below (T3.setTop (mkF m 53 #[.val (.ref y), .val (.int (Int32.ofNat cnt)), .val (.int (1 : Int32)), .unset, .unset] [])) _
          exact kk_)
      have C7 : CHr Z consts_1 s.vm h0 s.vm h0 := CHr.keep K0 all0 hC0
      obtain ⟨a8, T8, h8, k8, t8, kb8, X8, e8, E8, hS8, hk8, hZ, hown, Ea8, Fc8, Fv8, Av8, la8, lb8, CC8, -, hne8, st8⟩ := ldcCH (s := s) (vm0 := s.vm) X3 hx hZ hown (hw _ (List.mem_of_getElem? (i := 216) rfl)) (fun d hd => hw d (own_in_sa d hd)) e3 hS0 (Nat.le_trans (Nat.zero_le _) K0.1) hEL (List.mem_of_getElem? (i := 1) rfl) C7.1 (vs := ((([] : List Int32).map fun c => c.toInt8.toInt32).map Value.int)) (z := Int32.ofNat ([] : List Int32).length) (by refine ⟨by decide, ?_⟩; first | rfl | decide +kernel) (by decide) (by decide) (g := (mkF m 53 #[.val (.ref y), .val (.int (Int32.ofNat cnt)), .val (.int (1 : Int32)), .unset, .unset] [])) rfl (hb hby own_d_jdk_42_method_145_code_53) (n := 0) (by decide) (by decide) (by decide) (by decide)
      have K9 : Keep h0 h8 [] := K0.ext E8
      have CA10 : CHr Z consts_1 s.vm h0 T8.vm h8 := (CA0.trans C7).trans CC8
      have KA11 : Keep h0 h8 [] := KA0.trans K9 all0
      have O12 : Old Z n0 h8 := (O0.keep K9 all0)
      have K13 : Keep h8 h8 [] := Keep.refl _ _
      have Sr8 : own_Str Z h8 a8 t8 kb8 ([] : List Int32) := ⟨Ea8, Fv8, Fc8, Av8, own_all0, by decide⟩
      have C14 : CHr Z consts_1 T8.vm h8 T8.vm h8 := CHr.keep K13 all0 CC8.1
      have CAe : CHr Z consts_1 s.vm h0 T8.vm h8 := CA10.trans C14
      have CAf : CHr Z consts_1 s.vm h0 T8.vm h8 := CAe.trans (CHv.at (s := s) (vm0 := T8.vm) X8 hZ hEL CAe.1)
      obtain ⟨fs, hr, hrun, hended, hRW⟩ := Stand.leaveW (s := s) (vm₁ := T8.vm) X8 hS8 (by rw [e8]; exact (Nat.le_trans hk8 K13.1)) (v := some (.ref a8)) (fun h => by rw [Bd.returns] at h; cases h)
      refine ⟨_, _, r6 _ ?_, hrun, hended, _, _, rfl, ?_, (by show CHr Z consts_1 s.vm s.heap T8.vm T8.heap; rw [hh, e8]; exact CAf), ⟨hRW.1, hRW.2.1, hRW.2.2.1, hRW.2.2.2.mono (by decide) (by decide)⟩⟩
      · show Steps p.tables e below (T3.setTop (mkF m 53 #[.val (.ref y), .val (.int (Int32.ofNat cnt)), .val (.int (1 : Int32)), .unset, .unset] [])) _
        refine st8 _ ?_
        show Steps p.tables e below (T8.setTop (mkF m 55 #[.val (.ref y), .val (.int (Int32.ofNat cnt)), .val (.int (1 : Int32)), .unset, .unset] [(.ref a8)])) _
        exact retOut X8 hx (t := (.object "java/lang/String")) Bd.returns rfl (Or.inr (Or.inr (Or.inr (Or.inr ⟨rfl, rfl, rfl⟩)))) (hb hby own_d_jdk_42_method_145_code_55) hr
      · show Q_own_rep Z y ty ky cnt h0 n0 _ T8.heap _
        rw [e8]
        exact ⟨a8, t8, kb8, rfl, N0, (KA11.trans K13 all0), (by rw [hc0]; exact Sr8), Or.inl (by omega)⟩
    · obtain ⟨T15, h15, k15, X15, e15, E15, A15, Ex15, st15⟩ := newPE X3 hx hZ (hw _ (List.mem_of_getElem? (i := 28) rfl)) e3 (g := (mkF m 82 #[.val (.ref y), .val (.int (Int32.ofNat cnt)), .val (.int (1 : Int32)), .unset, .unset] [(.int (Int32.ofNat cnt))])) rfl (hb hby own_d_jdk_42_method_145_code_82) rfl (own_negN (by omega)) (cap := 60) (by rw [own_clamp (by omega)]; exact hc60) (by decide) (by decide) (by decide) (ad := "[B") (by decide)
      obtain ⟨b15, gg15⟩ : ∃ z, z = h0.size := ⟨_, rfl⟩
      rw [← gg15] at A15 Ex15 st15
      have ne16 : y ≠ b15 := Nat.ne_of_lt (Nat.lt_of_lt_of_le hp0.1.lt (Nat.le_of_eq gg15.symm))
      have ne17 : ty ≠ b15 := Nat.ne_of_lt (Nat.lt_of_lt_of_le hp0.2.2.2.1.lt (Nat.le_of_eq gg15.symm))
      have g18 : n0 ≤ b15 := Nat.le_trans (Nat.le_trans (own_le O0) K0.1) (Nat.le_of_eq gg15.symm)
      have b19 : h0.size ≤ b15 := Nat.le_trans K0.1 (Nat.le_of_eq gg15.symm)
      have K20 : Keep h0 h15 [] := K0.ext E15
      have V15 : Arv Z h15 b15 k15 .byte (Int32.ofNat cnt) [] (.int (0 : Int32)) := Arv.new A15 (own_negN (by omega))
      have Vp : Arv Z h15 b15 k15 .byte (Int32.ofNat cnt) (List.replicate cnt (Value.int 0)) (.int 0) := V15.pad (fun i => by rw [own_getD_rep]; simp)
      have f21 : Fld Z h15 y "java/lang/String" "value" "[B" (.ref ty) := (hp0.2.1.ext E15)
      obtain ⟨T22, X22, e22, st22⟩ := getF X15 hx hZ hown (host := "") (Or.inl (hw _ (List.mem_of_getElem? (i := 50) rfl))) Via.refl e15 f21 (g := (mkF m 87 #[.val (.ref y), .val (.int (Int32.ofNat cnt)), .val (.int (1 : Int32)), .val (.ref b15), .unset] [(.ref y), (.ref b15)])) rfl rfl (hb hby own_d_jdk_42_method_145_code_87)
      have f23 : Arv Z h15 ty ky .byte (1 : Int32) [(.int (48 : Int32))] (.int (0 : Int32)) := (hA1.ext E15)
      obtain ⟨cl24, Ar24, q24, S24, NN24, H24, G24⟩ := id f23
      have hin24 : ¬ ((0 : Int32) < 0 ∨ cl24.slots.size ≤ ((0 : Int32)).toNatClampNeg) := inb_of S24 ⟨by decide, by decide⟩
      obtain ⟨cl25, Ar25, q25, S25, NN25, H25, G25⟩ := id Vp
      have hTh : T22.heap = h15 := e22
      rw [own_clamp (by omega)] at S25
      obtain ⟨_, _, ⟨T26, L26, k26, n26⟩, -, X26, ⟨hv26, l26, y26, z26, A26, hda26, hc126, hc226, hc326, hc426, hc526, hc626⟩, st26⟩ := Jvm.LawKit.callS X22 hx (y := (⟨"java/util/Arrays", "fill", "([BB)V"⟩ : MethodName)) hown (mvT hZ (hw _ (List.mem_of_getElem? (i := 126) rfl))) (mvT hZ (hw _ (List.mem_of_getElem? (i := 127) rfl))) (mvT hZ (hw _ (List.mem_of_getElem? (i := 128) rfl))) (mvT hZ (hw _ (List.mem_of_getElem? (i := 129) rfl))) (by decide) (Jvm.Free.Str.FIL.pays (W := 0) b15 cl25 (48 : Int32) (by simp only [Jvm.Free.Str.FIL.tab, Cond.before_and, Bool.and_eq_true]; exact ⟨mvT hZ (hw _ (List.mem_of_getElem? (i := 129) rfl)), mvT hZ (hw _ (List.mem_of_getElem? (i := 128) rfl))⟩) (by decide) (by decide)) (g := (mkF m 92 #[.val (.ref y), .val (.int (Int32.ofNat cnt)), .val (.int (1 : Int32)), .val (.ref b15), .unset] [(.int (48 : Int32)), (.ref b15)])) rfl (by rw [hml]; rfl) (argsL := [(.ref b15), (.int (48 : Int32))]) (rest := []) (lenOf own_pd18 rfl) rfl (by show 2 * 0 + _ ≤ _; exact Nat.le_of_eq rfl) (hb hby own_d_jdk_42_method_145_code_92) (fun vm1 hW1 => ⟨(Nat.le_of_ble_eq_true rfl), (Nat.le_of_ble_eq_true rfl), rfl, ⟨(by show T22.heap[b15]? = some cl25; rw [hTh]; exact Ar25.1), State.isArrayOf_alike (hZ.alike.trans hW1.alike) Ar25.2.1, Ar25.2.2, (by omega), (fun i hi => by have e := H25 i hi; rw [own_getD_rep] at e; rw [e]; simp [Jvm.Lib.StringLatin1.equals.intAt, e])⟩, (by decide)⟩)
      dsimp only [Pt.U, Pt.locs, Pt.cells, Pt.slots] at X26 l26 y26 z26 st26 hda26 hc526 hc626
      subst l26 y26 z26
      obtain rfl := hv26
      obtain ⟨Kg26, Vg26⟩ := own_fil (h := h15) (h' := T26.heap) (x := (48 : Int32)) (n := cnt) Vp Ar25.1 hda26 hc126 hc226 hc326 hc426 (fun y hy => by rw [hc526 y hy]; show T22.heap[y]? = _; rw [hTh]) (by rw [hc626]; show T22.heap.size = _; rw [hTh]) (by decide) (own_clamp (by omega))
      have N26 := Fr.app N0 (show Fr n0 (copyLocs b15 0 cl25.slots.size) from fun y hy => by rw [own_cpb y hy]; exact g18)
      have K27 : Keep h0 T26.heap [] := K20.trans Kg26 (allS (Or.inr b19) all0)
      have Vr : Arv Z T26.heap b15 k15 .byte (Int32.ofNat (List.replicate cnt (48 : Int32)).length) (((List.replicate cnt (48 : Int32)).map fun c => c.toInt8.toInt32).map Value.int) (.int 0) := own_repArv Vg26
      obtain ⟨T28, h28, X28, e28, E28, A28, D28, -, st28⟩ := newO X26 hx hZ hown (hw _ (List.mem_of_getElem? (i := 130) rfl)) (hw _ (List.mem_of_getElem? (i := 106) rfl)) (hw _ (List.mem_of_getElem? (i := 27) rfl)) rfl (g := (mkF m 95 #[.val (.ref y), .val (.int (Int32.ofNat cnt)), .val (.int (1 : Int32)), .val (.ref b15), .unset] [])) rfl (hb hby own_d_jdk_42_method_145_code_95) (by decide) (by decide)
      obtain ⟨b28, gg28⟩ : ∃ z, z = T26.heap.size := ⟨_, rfl⟩
      rw [← gg28] at A28 D28 st28
      have ne29 : y ≠ b28 := Nat.ne_of_lt (Nat.lt_of_lt_of_le (Nat.lt_of_lt_of_le hp0.1.lt (Nat.le_trans E15.1 Kg26.1)) (Nat.le_of_eq gg28.symm))
      have ne30 : ty ≠ b28 := Nat.ne_of_lt (Nat.lt_of_lt_of_le (Nat.lt_of_lt_of_le hp0.2.2.2.1.lt (Nat.le_trans E15.1 Kg26.1)) (Nat.le_of_eq gg28.symm))
      have ne31 : b15 ≠ b28 := Nat.ne_of_lt (Nat.lt_of_lt_of_le (Nat.lt_of_lt_of_le V15.lt Kg26.1) (Nat.le_of_eq gg28.symm))
      have g32 : n0 ≤ b28 := Nat.le_trans (Nat.le_trans (own_le O0) K27.1) (Nat.le_of_eq gg28.symm)
      have b33 : h0.size ≤ b28 := Nat.le_trans K27.1 (Nat.le_of_eq gg28.symm)
      have K34 : Keep h0 h28 [] := K27.ext E28
      have f35 : Fld Z h28 y "java/lang/String" "coder" "B" (.int (0 : Int32)) := (((hp0.2.2.1.ext E15).keep Kg26 (ninS ne16 nin0)).ext E28)
      obtain ⟨T36, X36, e36, st36⟩ := getF X28 hx hZ hown (host := "") (Or.inl (hw _ (List.mem_of_getElem? (i := 58) rfl))) Via.refl e28 f35 (g := (mkF m 101 #[.val (.ref y), .val (.int (Int32.ofNat cnt)), .val (.int (1 : Int32)), .val (.ref b15), .unset] [(.ref y), (.ref b15), (.ref b28), (.ref b28)])) rfl rfl (hb hby own_d_jdk_42_method_145_code_101)
      have f37 : Arv Z h28 b15 k15 .byte (Int32.ofNat (List.replicate cnt (48 : Int32)).length) (((List.replicate cnt (48 : Int32)).map fun c => c.toInt8.toInt32).map Value.int) (.int (0 : Int32)) := (Vr.ext E28)
      obtain ⟨_, _, ⟨T38, L38, k38, n38⟩, -, X38, ⟨Lc38, hQ38, l38, y38, z38⟩, st38⟩ := X36.specialBack hx (y := (⟨"java/lang/String", "<init>", "([BB)V"⟩ : MethodName)) rfl hown (mvT hZ (hw _ (List.mem_of_getElem? (i := 131) rfl))) (mvT hZ (hw _ (List.mem_of_getElem? (i := 108) rfl))) (mvT hZ (hw _ (List.mem_of_getElem? (i := 110) rfl))) (by decide) (backOf (W := 1) (own_strBB l Z a0 hw [] (b28) (b15) (k15) ((List.replicate cnt (48 : Int32))) h28 n0 (O0.keep K34 all0) (A28) (g32) ((D28 (Or.inr (hw _ (List.mem_of_getElem? (i := 51) rfl))) (ty := (.array .byte)) (by decide))) ((D28 (Or.inr (hw _ (List.mem_of_getElem? (i := 59) rfl))) (ty := .byte) (by decide))) (f37) (own_repRng cnt) (by rw [List.length_replicate]; omega) (ne31)) hZ (hw _ (List.mem_of_getElem? (i := 110) rfl)) (hw _ (List.mem_of_getElem? (i := 27) rfl)) (by decide) (by decide)) (g := (mkF m 104 #[.val (.ref y), .val (.int (Int32.ofNat cnt)), .val (.int (1 : Int32)), .val (.ref b15), .unset] [(.int (0 : Int32)), (.ref b15), (.ref b28), (.ref b28)])) rfl (by rw [hml]; rfl) (Steps.refl _) (a := b28) (argsL := [(.ref b15), (.int (0 : Int32))]) (rest := [(.ref b28)]) (lenOf own_pd18 rfl) rfl (by show 2 * 0 + _ ≤ _; exact Nat.le_of_eq rfl) (hb hby own_d_jdk_42_method_145_code_104) (fun _ _ => ⟨rfl, e36, (by decide : 2 + 0 ≤ _), (by decide : 64 + 0 ≤ _)⟩)
      dsimp only [Pt.U, Pt.locs, Pt.cells, Pt.slots] at X38 l38 y38 z38 st38 hQ38
      subst l38 y38 z38
      obtain ⟨rfl, Nq38, Kq38, po38_0⟩ := hQ38
      have N38 := Fr.app N26 Nq38
      have K39 : Keep h0 T38.heap [] := K34.trans Kq38 (allS (Or.inr b33) all0)
      have C40 : CHr Z consts_1 s.vm h0 s.vm T38.heap := CHr.keep K39 all0 hC0
      have CAe : CHr Z consts_1 s.vm h0 s.vm T38.heap := CA0.trans C40
      have CAf : CHr Z consts_1 s.vm h0 T38.vm T38.heap := CAe.trans (CHv.at (s := s) (vm0 := s.vm) X38 hZ hEL CAe.1)
      obtain ⟨fs, hr, hrun, hended, hRW⟩ := Stand.leaveW (s := s) (vm₁ := s.vm) X38 hS0 (Nat.le_trans (Nat.zero_le _) K39.1) (v := some (.ref b28)) (fun h => by rw [Bd.returns] at h; cases h)
      refine ⟨_, _, r5 _ ?_, hrun, hended, _, _, rfl, ?_, (by show CHr Z consts_1 s.vm s.heap T38.vm T38.heap; rw [hh]; exact CAf), ⟨hRW.1, hRW.2.1, hRW.2.2.1, hRW.2.2.2.mono (by decide) (by decide)⟩⟩
      · show Steps p.tables e below (T3.setTop (mkF m 50 #[.val (.ref y), .val (.int (Int32.ofNat cnt)), .val (.int (1 : Int32)), .unset, .unset] [(.int (Int32.ofNat cnt))])) _
        refine XS.ifYes X3.here hx rfl (pc0 := 50) (pc' := 56) rfl (hb hby own_d_jdk_42_method_145_code_50) rfl ((if0 _ _).trans (feq (fun q => hc0 ((own_eqN (b := 0) (by omega) (by decide)).mp q))).2) (by decide) (by decide) ?_
        show Steps p.tables e below (T3.setTop (mkF m 56 #[.val (.ref y), .val (.int (Int32.ofNat cnt)), .val (.int (1 : Int32)), .unset, .unset] [])) _
        refine X3.ldcWI hx hown (mvT hZ (hw _ (List.mem_of_getElem? (i := 125) rfl))) rfl (hb hby own_d_jdk_42_method_145_code_56) ?_
        show Steps p.tables e below (T3.setTop (mkF m 59 #[.val (.ref y), .val (.int (Int32.ofNat cnt)), .val (.int (1 : Int32)), .unset, .unset] [(.int (2147483647 : Int32))])) _
        refine XS.iloadN X3.here hx rfl (hb hby own_d_jdk_42_method_145_code_59) rfl ?_
        show Steps p.tables e below (T3.setTop (mkF m 60 #[.val (.ref y), .val (.int (Int32.ofNat cnt)), .val (.int (1 : Int32)), .unset, .unset] [(.int (Int32.ofNat cnt)), (.int (2147483647 : Int32))])) _
        refine XS.idiv X3.here hx rfl (hb hby own_d_jdk_42_method_145_code_60) rfl (fun q => hc0 ((own_eqN (b := 0) (by omega) (by decide)).mp q)) ?_
        show Steps p.tables e below (T3.setTop (mkF m 61 #[.val (.ref y), .val (.int (Int32.ofNat cnt)), .val (.int (1 : Int32)), .unset, .unset] [(.int ((2147483647 : Int32) / (Int32.ofNat cnt)))])) _
        refine XS.iloadN X3.here hx rfl (hb hby own_d_jdk_42_method_145_code_61) rfl ?_
        show Steps p.tables e below (T3.setTop (mkF m 62 #[.val (.ref y), .val (.int (Int32.ofNat cnt)), .val (.int (1 : Int32)), .unset, .unset] [(.int (1 : Int32)), (.int ((2147483647 : Int32) / (Int32.ofNat cnt)))])) _
        refine XS.icmpYes X3.here hx rfl (pc0 := 62) (pc' := 76) rfl (hb hby own_d_jdk_42_method_145_code_62) rfl (flt (own_bigdiv (by omega) hc60)).2.1 (by decide) (by decide) ?_
        show Steps p.tables e below (T3.setTop (mkF m 76 #[.val (.ref y), .val (.int (Int32.ofNat cnt)), .val (.int (1 : Int32)), .unset, .unset] [])) _
        refine XS.iloadN X3.here hx rfl (hb hby own_d_jdk_42_method_145_code_76) rfl ?_
        show Steps p.tables e below (T3.setTop (mkF m 77 #[.val (.ref y), .val (.int (Int32.ofNat cnt)), .val (.int (1 : Int32)), .unset, .unset] [(.int (1 : Int32))])) _
        refine XS.iconst X3.here hx rfl (hb hby own_d_jdk_42_method_145_code_77) ?_
        show Steps p.tables e below (T3.setTop (mkF m 78 #[.val (.ref y), .val (.int (Int32.ofNat cnt)), .val (.int (1 : Int32)), .unset, .unset] [(.int (1 : Int32)), (.int (1 : Int32))])) _
        refine XS.icmpNo X3.here hx rfl (hb hby own_d_jdk_42_method_145_code_78) rfl (teq rfl).2 ?_
        show Steps p.tables e below (T3.setTop (mkF m 81 #[.val (.ref y), .val (.int (Int32.ofNat cnt)), .val (.int (1 : Int32)), .unset, .unset] [])) _
        refine XS.iloadN X3.here hx rfl (hb hby own_d_jdk_42_method_145_code_81) rfl ?_
        show Steps p.tables e below (T3.setTop (mkF m 82 #[.val (.ref y), .val (.int (Int32.ofNat cnt)), .val (.int (1 : Int32)), .unset, .unset] [(.int (Int32.ofNat cnt))])) _
        refine st15 _ ?_
        show Steps p.tables e below (T15.setTop (mkF m 84 #[.val (.ref y), .val (.int (Int32.ofNat cnt)), .val (.int (1 : Int32)), .unset, .unset] [(.ref b15)])) _
        refine XS.astoreN X15.here hx rfl (hb hby own_d_jdk_42_method_145_code_84) rfl rfl (l' := #[.val (.ref y), .val (.int (Int32.ofNat cnt)), .val (.int (1 : Int32)), .val (.ref b15), .unset]) rfl ?_
        show Steps p.tables e below (T15.setTop (mkF m 85 #[.val (.ref y), .val (.int (Int32.ofNat cnt)), .val (.int (1 : Int32)), .val (.ref b15), .unset] [])) _
        refine XS.aloadN X15.here hx rfl (hb hby own_d_jdk_42_method_145_code_85) rfl rfl ?_
        show Steps p.tables e below (T15.setTop (mkF m 86 #[.val (.ref y), .val (.int (Int32.ofNat cnt)), .val (.int (1 : Int32)), .val (.ref b15), .unset] [(.ref b15)])) _
        refine XS.aloadN X15.here hx rfl (hb hby own_d_jdk_42_method_145_code_86) rfl rfl ?_
        show Steps p.tables e below (T15.setTop (mkF m 87 #[.val (.ref y), .val (.int (Int32.ofNat cnt)), .val (.int (1 : Int32)), .val (.ref b15), .unset] [(.ref y), (.ref b15)])) _
        refine st22 _ ?_
        show Steps p.tables e below (T22.setTop (mkF m 90 #[.val (.ref y), .val (.int (Int32.ofNat cnt)), .val (.int (1 : Int32)), .val (.ref b15), .unset] [(.ref ty), (.ref b15)])) _
        refine XS.iconst X22.here hx rfl (hb hby own_d_jdk_42_method_145_code_90) ?_
        show Steps p.tables e below (T22.setTop (mkF m 91 #[.val (.ref y), .val (.int (Int32.ofNat cnt)), .val (.int (1 : Int32)), .val (.ref b15), .unset] [(.int (0 : Int32)), (.ref ty), (.ref b15)])) _
        refine X22.baloadBytes hx (j := (0 : Int32)) (v := (.int (48 : Int32))) (by rw [e22]; exact Ar24.1) (State.isArrayOf_alike hZ.alike Ar24.2.1) Ar24.2.2 hin24 (Has.at H24 hin24 rfl) (g := (mkF m 91 #[.val (.ref y), .val (.int (Int32.ofNat cnt)), .val (.int (1 : Int32)), .val (.ref b15), .unset] [(.int (0 : Int32)), (.ref ty), (.ref b15)])) rfl rfl (hb hby own_d_jdk_42_method_145_code_91) _ ?_
        show Steps p.tables e below (T22.setTop (mkF m 92 #[.val (.ref y), .val (.int (Int32.ofNat cnt)), .val (.int (1 : Int32)), .val (.ref b15), .unset] [(.int (48 : Int32)), (.ref b15)])) _
        refine st26 _ ?_
        show Steps p.tables e below (T26.setTop (mkF m 95 #[.val (.ref y), .val (.int (Int32.ofNat cnt)), .val (.int (1 : Int32)), .val (.ref b15), .unset] [])) _
        refine st28 _ ?_
        show Steps p.tables e below (T28.setTop (mkF m 98 #[.val (.ref y), .val (.int (Int32.ofNat cnt)), .val (.int (1 : Int32)), .val (.ref b15), .unset] [(.ref b28)])) _
        refine XS.dup X28.here hx rfl (hb hby own_d_jdk_42_method_145_code_98) rfl rfl ?_
        show Steps p.tables e below (T28.setTop (mkF m 99 #[.val (.ref y), .val (.int (Int32.ofNat cnt)), .val (.int (1 : Int32)), .val (.ref b15), .unset] [(.ref b28), (.ref b28)])) _
        refine XS.aloadN X28.here hx rfl (hb hby own_d_jdk_42_method_145_code_99) rfl rfl ?_
        show Steps p.tables e below (T28.setTop (mkF m 100 #[.val (.ref y), .val (.int (Int32.ofNat cnt)), .val (.int (1 : Int32)), .val (.ref b15), .unset] [(.ref b15), (.ref b28), (.ref b28)])) _
        refine XS.aloadN X28.here hx rfl (hb hby own_d_jdk_42_method_145_code_100) rfl rfl ?_
        show Steps p.tables e below (T28.setTop (mkF m 101 #[.val (.ref y), .val (.int (Int32.ofNat cnt)), .val (.int (1 : Int32)), .val (.ref b15), .unset] [(.ref y), (.ref b15), (.ref b28), (.ref b28)])) _
        refine st36 _ ?_
        show Steps p.tables e below (T36.setTop (mkF m 104 #[.val (.ref y), .val (.int (Int32.ofNat cnt)), .val (.int (1 : Int32)), .val (.ref b15), .unset] [(.int (0 : Int32)), (.ref b15), (.ref b28), (.ref b28)])) _
        refine st38.trans ?_
        show Steps p.tables e below (T38.setTop (mkF m 107 #[.val (.ref y), .val (.int (Int32.ofNat cnt)), .val (.int (1 : Int32)), .val (.ref b15), .unset] [(.ref b28)])) _
        exact retOut X38 hx (t := (.object "java/lang/String")) Bd.returns rfl (Or.inr (Or.inr (Or.inr (Or.inr ⟨rfl, rfl, rfl⟩)))) (hb hby own_d_jdk_42_method_145_code_107) hr
      · show Q_own_rep Z y ty ky cnt h0 n0 _ T38.heap _
        exact ⟨b28, b15, k15, rfl, N38, (KA0.trans K39 all0), po38_0, Or.inr b19⟩
theorem own_pn_own_idg : plainName "com/example/uketsuke/uketsuke/store/IdFormat" = true := by first | (simp [plainName, overriddenIn]; done) | decide +kernel
theorem own_ef_own_idg (m : MethodId) (vv : Int64) (ww : Int32) : entryFrame m #[(.long vv), (.int ww)] 4 = mkF m 0 #[.val (.long vv), .second, .val (.int ww), .unset] [] := by first | (simp [entryFrame, mkF, argsToLocals, own_cI, own_cJ, own_cR, own_cN]; done) | rfl
abbrev own_F_own_idg (m : MethodId) (vv : Int64) (ww : Int32) : JFrame := entryFrame m #[(.long vv), (.int ww)] 4
def Q_own_idg (Z : State) (vv : Int64) (ww : Int32) (nn : Nat) (cnt : Nat) (gCS : Int32) (ist : Addr) (dt1 : Addr) (dt2 : Addr) (cD1 : Cell) (cD2 : Cell) (h0 : Heap) (n0 : Nat) (v : Option Value) (h : Heap) (L : List Loc) : Prop := ∃ (x : Addr), ∃ (t : Addr), ∃ (kt : ClassId), v = some (.ref x) ∧ Fr n0 L ∧ Keep h0 h [] ∧ (h0.size ≤ x) ∧ (h0.size ≤ t) ∧ (t ≠ x) ∧ (own_Str Z h x t kt (([] ++ List.replicate cnt (48 : Int32)) ++ own_decL nn))
set_option maxRecDepth 65536 in
set_option maxHeartbeats 40000000 in
theorem own_idg (l : Launch) (Z : State) (a0 : Array Value) (hw : ∀ d ∈ tables_1, d.before a0 Z = true) (ws : List Jvm.Cond) (vv : Int64) (ww : Int32) (nn : Nat) (cnt : Nat) (gCS : Int32) (ist : Addr) (dt1 : Addr) (dt2 : Addr) (cD1 : Cell) (cD2 : Cell) (h0 : Heap) (n0 : Nat) (O0 : Old Z n0 h0) (hvn : vv.toInt = nn) (hcw : (if (0 : Int32) < ww - Int32.ofNat (Jvm.Free.SBG.digitsL nn) then ww - Int32.ofNat (Jvm.Free.SBG.digitsL nn) else (0 : Int32)) = Int32.ofNat cnt) (htot : cnt + (Jvm.Free.SBG.digitsL nn) ≤ 13) (hp3 : Sta Z Z.heap "java/lang/String" "COMPACT_STRINGS" "Z" (.int gCS)) (hG1 : ¬ gCS = (0 : Int32)) (hT1 : Jvm.Free.SBG.Tbl Z "DigitOnes" ist dt1 cD1) (hT2 : Jvm.Free.SBG.Tbl Z "DigitTens" ist dt2 cD2) (hO1 : Jvm.Free.SBG.Ones cD1) (hO2 : Jvm.Free.SBG.Tens cD2) (hp9 : ist < n0) (hp10 : dt1 < n0) (hp11 : dt2 < n0) (hD1 : Z.heap[dt1]? = some cD1) (hD2 : Z.heap[dt2]? = some cD2) (hEL : EW Z a0 consts_1) :
    MetFree l (⟨"com/example/uketsuke/uketsuke/store/IdFormat", "digits", "(JI)Ljava/lang/String;"⟩ : MethodName) (head1 (Jvm.Cond.code (⟨"com/example/uketsuke/uketsuke/store/IdFormat", "digits", "(JI)Ljava/lang/String;"⟩ : MethodName) prog_10_method_5_code 4 (some (.object "java/lang/String")) :: ws) ({ frames := 6, cells := 10, slots := 220, locals := 117 } : Room)) (fun aa_ U_ => aa_ = #[(.long vv), (.int ww)] ∧ Z.Warmed39 U_.vm ∧ U_.heap = h0 ∧ CHv Z consts_1 U_.vm h0) (fun _ _ _ _ _ => True) (fun _ U_ o_ V_ => ∃ v_ L_, o_ = .returned v_ ∧ Q_own_idg Z vv ww nn cnt gCS ist dt1 dt2 cD1 cD2 h0 n0 v_ V_.heap L_ ∧ CHr Z consts_1 U_.vm U_.heap V_.vm V_.heap ∧ ReturnedEndW U_ o_ V_ L_ ({ frames := 6, cells := 10, slots := 220, locals := 117 } : Room).cells ({ frames := 6, cells := 10, slots := 220, locals := 117 } : Room).slots) := by
  refine MetFree.of_bodySF (plainFor_of_name own_pn_own_idg) hisR ?_
  intro p e s m args below meth c s₁ Bd hml0 hP hK
  obtain ⟨rfl, hZ, hh, hC0⟩ := hP
  have hx := Bd.exec
  have hby := Bd.bytes
  have hml : c.maxLocals = 4 := hml0
  have hown : s.vm.findClass "com/example/uketsuke/uketsuke/store/IdFormat" = some m.cls := findClass_of_methodNamed Bd.named
  have hnm := (name_of_methodNamed Bd.named Bd.method).1
  have X0 : Stand p l e ({ frames := 6, cells := 10, slots := 220, locals := 117 } : Room) s m #[(.long vv), (.int ww)] below meth c s₁ [] 0 0 := Stand.of_body Bd
  have e0 : s₁.heap = h0 := by rw [← hh, Bd.state]; rfl
  have N0 := Fr.nil n0
  have hS0 : s.Since s.vm 0 := (State.WarmedH.refl s).since 0
  have CA0 : CHr Z consts_1 s.vm h0 s.vm h0 := CHr.refl hC0
  have KA0 : Keep h0 h0 [] := Keep.refl _ _
  have K0 : Keep h0 h0 [] := Keep.refl _ _
  have r0 : GoTo p.tables e below s₁ (own_F_own_idg m vv ww) s₁ (mkF m 0 #[.val (.long vv), .second, .val (.int ww), .unset] []) := fun tt_ kk_ => castTop (own_ef_own_idg m vv ww) kk_
  have hdg := Jvm.Free.SBG.digitsL_pos nn
  have hlr : (List.replicate cnt (48 : Int32)).length = cnt := List.length_replicate
  have hld := own_decL_len nn
  have hl0 : ([] : List Int32).length = 0 := rfl
  have hl1 : (([] : List Int32) ++ (List.replicate cnt (48 : Int32))).length = cnt := by rw [List.nil_append, hlr]
  have hl2 := own_padLen nn cnt
  obtain ⟨_, _, ⟨T1, L1, k1, n1⟩, -, X1, ⟨Lc1, hQ1, l1, y1, z1⟩, st1⟩ := Jvm.LawKit.callS X0 hx (y := (⟨"java/lang/Long", "toString", "(J)Ljava/lang/String;"⟩ : MethodName)) hown (mvT hZ (hw _ (List.mem_of_getElem? (i := 90) rfl))) (mvT hZ (hw _ (List.mem_of_getElem? (i := 91) rfl))) (mvT hZ (hw _ (List.mem_of_getElem? (i := 92) rfl))) (mvT hZ (hw _ (List.mem_of_getElem? (i := 93) rfl))) (by decide) (backOf (W := 0) (own_ltoS l Z a0 hw [] (vv) (nn) (gCS) (ist) (dt1) (dt2) (cD1) (cD2) h0 n0 (O0.keep K0 all0) (hvn) (hp3) (hG1) (hT1) (hT2) (hO1) (hO2) (hp9) (hp10) (hp11) (hD1) (hD2)) hZ (hw _ (List.mem_of_getElem? (i := 93) rfl)) (hw _ (List.mem_of_getElem? (i := 92) rfl)) (by decide) (by decide)) (g := (mkF m 1 #[.val (.long vv), .second, .val (.int ww), .unset] [(.long vv)])) rfl (by rw [hml]; rfl) (argsL := [(.long vv)]) (rest := []) (lenOf own_pd19 rfl) rfl (by show 2 * 0 + _ ≤ _; exact Nat.le_of_eq rfl) (hb hby own_d_prog_10_method_5_code_1) (fun _ _ => ⟨rfl, e0, (by decide : 0 + 2 ≤ _), (by decide : 0 + 24 ≤ _)⟩)
  dsimp only [Pt.U, Pt.locs, Pt.cells, Pt.slots] at X1 l1 y1 z1 st1 hQ1
  subst l1 y1 z1
  obtain ⟨x_1, t_1, kt_1, rfl, Nq1, Kq1, po1_0, po1_1, po1_2, po1_3⟩ := hQ1
  have N1 := Fr.app N0 Nq1
  have g2 : n0 ≤ x_1 := Nat.le_trans (Nat.le_trans (own_le O0) K0.1) po1_0
  have b3 : h0.size ≤ x_1 := Nat.le_trans K0.1 po1_0
  have g4 : n0 ≤ t_1 := Nat.le_trans (Nat.le_trans (own_le O0) K0.1) po1_1
  have b5 : h0.size ≤ t_1 := Nat.le_trans K0.1 po1_1
  have K6 : Keep h0 T1.heap [] := K0.trans Kq1 all0
  obtain ⟨T7, h7, X7, e7, E7, A7, D7, -, st7⟩ := newO X1 hx hZ hown (hw _ (List.mem_of_getElem? (i := 11) rfl)) (hw _ (List.mem_of_getElem? (i := 12) rfl)) (hw _ (List.mem_of_getElem? (i := 13) rfl)) rfl (g := (mkF m 5 #[.val (.long vv), .second, .val (.int ww), .val (.ref x_1)] [])) rfl (hb hby own_d_prog_10_method_5_code_5) (by decide) (by decide)
  obtain ⟨b7, gg7⟩ : ∃ z, z = T1.heap.size := ⟨_, rfl⟩
  rw [← gg7] at A7 D7 st7
  have ne8 : x_1 ≠ b7 := Nat.ne_of_lt (Nat.lt_of_lt_of_le po1_3.1.lt (Nat.le_of_eq gg7.symm))
  have ne9 : t_1 ≠ b7 := Nat.ne_of_lt (Nat.lt_of_lt_of_le po1_3.2.2.2.1.lt (Nat.le_of_eq gg7.symm))
  have g10 : n0 ≤ b7 := Nat.le_trans (Nat.le_trans (own_le O0) K6.1) (Nat.le_of_eq gg7.symm)
  have b11 : h0.size ≤ b7 := Nat.le_trans K6.1 (Nat.le_of_eq gg7.symm)
  have K12 : Keep h0 h7 [] := K6.ext E7
  obtain ⟨_, _, ⟨T13, L13, k13, n13⟩, -, X13, ⟨Lc13, hQ13, l13, y13, z13⟩, st13⟩ := X7.specialBack hx (y := (⟨"java/lang/StringBuilder", "<init>", "()V"⟩ : MethodName)) rfl hown (mvT hZ (hw _ (List.mem_of_getElem? (i := 14) rfl))) (mvT hZ (hw _ (List.mem_of_getElem? (i := 15) rfl))) (mvT hZ (hw _ (List.mem_of_getElem? (i := 16) rfl))) (by decide) (backOf (W := 1) (own_sbinit l Z a0 hw [] (b7) (gCS) h7 n0 (O0.keep K12 all0) (A7) (g10) ((D7 (Or.inl (hw _ (List.mem_of_getElem? (i := 30) rfl))) (ty := (.array .byte)) (by decide))) ((D7 (Or.inl (hw _ (List.mem_of_getElem? (i := 32) rfl))) (ty := .byte) (by decide))) ((D7 (Or.inl (hw _ (List.mem_of_getElem? (i := 61) rfl))) (ty := .int) (by decide))) (hp3) (hG1)) hZ (hw _ (List.mem_of_getElem? (i := 16) rfl)) (hw _ (List.mem_of_getElem? (i := 13) rfl)) (by decide) (by decide)) (g := (mkF m 9 #[.val (.long vv), .second, .val (.int ww), .val (.ref x_1)] [(.ref b7), (.ref b7)])) rfl (by rw [hml]; rfl) (Steps.refl _) (a := b7) (argsL := []) (rest := [(.ref b7)]) (lenOf own_pd20 rfl) rfl (by show 2 * 0 + _ ≤ _; exact Nat.le_of_eq rfl) (hb hby own_d_prog_10_method_5_code_9) (fun _ _ => ⟨rfl, e7, (by decide : 3 + 1 ≤ _), (by decide : 28 + 16 ≤ _)⟩)
  dsimp only [Pt.U, Pt.locs, Pt.cells, Pt.slots] at X13 l13 y13 z13 st13 hQ13
  subst l13 y13 z13
  obtain ⟨d_13, kd_13, rfl, Nq13, Kq13, po13_0, po13_1, po13_2⟩ := hQ13
  have N13 := Fr.app N1 Nq13
  have ne14 : x_1 ≠ d_13 := Nat.ne_of_lt (Nat.lt_of_lt_of_le (Nat.lt_of_lt_of_le po1_3.1.lt E7.1) po13_0)
  have ne15 : t_1 ≠ d_13 := Nat.ne_of_lt (Nat.lt_of_lt_of_le (Nat.lt_of_lt_of_le po1_3.2.2.2.1.lt E7.1) po13_0)
  have ne16 : b7 ≠ d_13 := Nat.ne_of_lt (Nat.lt_of_lt_of_le A7.lt po13_0)
  have g17 : n0 ≤ d_13 := Nat.le_trans (Nat.le_trans (own_le O0) K12.1) po13_0
  have b18 : h0.size ≤ d_13 := Nat.le_trans K12.1 po13_0
  have K19 : Keep h0 T13.heap [] := K12.trans Kq13 (allS (Or.inr b11) all0)
  have r20 : GoTo p.tables e below s₁ (own_F_own_idg m vv ww) T13 (mkF m 12 #[.val (.long vv), .second, .val (.int ww), .val (.ref x_1)] [(.ref b7)]) := fun tt_ kk_ => r0 tt_ (by
      show Steps p.tables e below (s₁.setTop (mkF m 0 #[.val (.long vv), .second, .val (.int ww), .unset] [])) _
      refine XS.lloadN X0.here hx rfl (hb hby own_d_prog_10_method_5_code_0) rfl ?_
      show Steps p.tables e below (s₁.setTop (mkF m 1 #[.val (.long vv), .second, .val (.int ww), .unset] [(.long vv)])) _
      refine st1 _ ?_
      show Steps p.tables e below (T1.setTop (mkF m 4 #[.val (.long vv), .second, .val (.int ww), .unset] [(.ref x_1)])) _
      refine XS.astoreN X1.here hx rfl (hb hby own_d_prog_10_method_5_code_4) rfl rfl (l' := #[.val (.long vv), .second, .val (.int ww), .val (.ref x_1)]) rfl ?_
      show Steps p.tables e below (T1.setTop (mkF m 5 #[.val (.long vv), .second, .val (.int ww), .val (.ref x_1)] [])) _
      refine st7 _ ?_
      show Steps p.tables e below (T7.setTop (mkF m 8 #[.val (.long vv), .second, .val (.int ww), .val (.ref x_1)] [(.ref b7)])) _
      refine XS.dup X7.here hx rfl (hb hby own_d_prog_10_method_5_code_8) rfl rfl ?_
      show Steps p.tables e below (T7.setTop (mkF m 9 #[.val (.long vv), .second, .val (.int ww), .val (.ref x_1)] [(.ref b7), (.ref b7)])) _
      refine st13.trans ?_
      show Steps p.tables e below (T13.setTop (mkF m 12 #[.val (.long vv), .second, .val (.int ww), .val (.ref x_1)] [(.ref b7)])) _
      exact kk_)
  have C21 : CHr Z consts_1 s.vm h0 s.vm T13.heap := CHr.keep K19 all0 hC0
  have Sf22 : Safe Z consts_1 s.vm T13.heap x_1 := Safe.keep K19 all0 hC0 (Safe.new b3)
  have lt23 : x_1 < T13.heap.size := (Nat.lt_of_lt_of_le po1_3.1.lt (Nat.le_trans E7.1 Kq13.1))
  have Sf24 : Safe Z consts_1 s.vm T13.heap t_1 := Safe.keep K19 all0 hC0 (Safe.new b5)
  have lt25 : t_1 < T13.heap.size := (Nat.lt_of_lt_of_le po1_3.2.2.2.1.lt (Nat.le_trans E7.1 Kq13.1))
  have Sf26 : Safe Z consts_1 s.vm T13.heap b7 := Safe.keep K19 all0 hC0 (Safe.new b11)
  have lt27 : b7 < T13.heap.size := (Nat.lt_of_lt_of_le A7.lt Kq13.1)
  have Sf28 : Safe Z consts_1 s.vm T13.heap d_13 := Safe.keep K19 all0 hC0 (Safe.new b18)
  have lt29 : d_13 < T13.heap.size := po13_2.2.2.2.2.1.lt
  obtain ⟨a30, T30, h30, k30, t30, kb30, X30, e30, E30, hS30, hk30, hZ, hown, Ea30, Fc30, Fv30, Av30, la30, lb30, CC30, -, hne30, st30⟩ := ldcCH (s := s) (vm0 := s.vm) X13 hx hZ hown (hw _ (List.mem_of_getElem? (i := 112) rfl)) (fun d hd => hw d (own_in_sa d hd)) rfl hS0 (Nat.le_trans (Nat.zero_le _) K19.1) hEL (List.mem_of_getElem? (i := 0) rfl) C21.1 (vs := ((([48] : List Int32).map fun c => c.toInt8.toInt32).map Value.int)) (z := Int32.ofNat ([48] : List Int32).length) (by refine ⟨by decide, ?_⟩; first | rfl | decide +kernel) (by decide) (by decide) (g := (mkF m 12 #[.val (.long vv), .second, .val (.int ww), .val (.ref x_1)] [(.ref b7)])) rfl (hb hby own_d_prog_10_method_5_code_12) (n := 4) (by decide) (by decide) (by decide) (by decide)
  have K31 : Keep h0 h30 [] := K19.ext E30
  have bz32 : h0.size ≤ x_1 := Nat.le_trans KA0.1 b3
  have bz33 : h0.size ≤ t_1 := Nat.le_trans KA0.1 b5
  have bz34 : h0.size ≤ b7 := Nat.le_trans KA0.1 b11
  have bz35 : h0.size ≤ d_13 := Nat.le_trans KA0.1 b18
  have CA36 : CHr Z consts_1 s.vm h0 T30.vm h30 := (CA0.trans C21).trans CC30
  have KA37 : Keep h0 h30 [] := KA0.trans K31 all0
  have O38 : Old Z n0 h30 := (O0.keep K31 all0)
  have Sf39 : Safe Z consts_1 T30.vm h30 x_1 := CHr.safe CC30 lt23 Sf22
  have Sf40 : Safe Z consts_1 T30.vm h30 t_1 := CHr.safe CC30 lt25 Sf24
  have Sf41 : Safe Z consts_1 T30.vm h30 b7 := CHr.safe CC30 lt27 Sf26
  have Sf42 : Safe Z consts_1 T30.vm h30 d_13 := CHr.safe CC30 lt29 Sf28
  have K43 : Keep h30 h30 [x_1, t_1, b7, d_13] := Keep.refl _ _
  have Sr30 : own_Str Z h30 a30 t30 kb30 ([48] : List Int32) := ⟨Ea30, Fv30, Fc30, Av30, own_allC (by decide) (own_all0), by decide⟩
  have f44 : own_Str Z h30 x_1 t_1 kt_1 (own_decL nn) := (((po1_3.ext E7).keep Kq13 (ninS ne8 nin0) (ninS ne9 nin0)).ext E30)
  have f46 : Exa Z h30 x_1 "java/lang/String" := (((po1_3.1.ext E7).keep Kq13).ext E30)
  obtain ⟨cq45, kq45, qa45, qb45, qc45⟩ := isOf hZ e30 f46
  obtain ⟨_, _, ⟨T45, L45, k45, n45⟩, -, X45, ⟨Lc45, hQ45, l45, y45, z45⟩, st45⟩ := X30.virtualBack hx (y := (⟨"java/lang/String", "length", "()I"⟩ : MethodName)) (z := (⟨"java/lang/String", "length", "()I"⟩ : MethodName)) hown (mvT hZ (hw _ (List.mem_of_getElem? (i := 115) rfl))) (mvT hZ (hw _ (List.mem_of_getElem? (i := 46) rfl))) (notFace_of_selects (args := #[]) (mvT hZ (hw _ (List.mem_of_getElem? (i := 48) rfl)))) (mvT hZ (hw _ (List.mem_of_getElem? (i := 48) rfl))) (mvT hZ (hw _ (List.mem_of_getElem? (i := 47) rfl))) (by decide) (backOf (W := 4) (own_strlen l Z a0 hw [] (x_1) (t_1) (kt_1) ((own_decL nn)) (gCS) h30 n0 (O38.keep K43 (allS g2 (allS g4 (allS g10 (allS po13_1 all0))))) (f44) (hp3) (hG1)) hZ (hw _ (List.mem_of_getElem? (i := 49) rfl)) (hw _ (List.mem_of_getElem? (i := 27) rfl)) (by decide) (by decide)) qa45 qc45 (g := (mkF m 17 #[.val (.long vv), .second, .val (.int ww), .val (.ref x_1)] [(.ref x_1), (.int ww), (.int (0 : Int32)), (.ref a30), (.ref b7)])) rfl (by rw [hml]; rfl) (Steps.refl _) (argsL := []) (rest := [(.int ww), (.int (0 : Int32)), (.ref a30), (.ref b7)]) (lenOf own_pd8 rfl) rfl (by show 2 * 0 + _ ≤ _; exact Nat.le_of_eq rfl) (hb hby own_d_prog_10_method_5_code_17) (fun _ _ => ⟨rfl, e30, (by decide : 6 + 0 ≤ _), (by decide : 52 + 0 ≤ _)⟩)
  dsimp only [Pt.U, Pt.locs, Pt.cells, Pt.slots] at X45 l45 y45 z45 st45 hQ45
  subst l45 y45 z45
  obtain ⟨rfl, Nq45, hh45⟩ := hQ45
  have N45 := Fr.app N13 Nq45
  obtain ⟨_, _, ⟨T47, L47, k47, n47⟩, -, X47, ⟨Lc47, hQ47, l47, y47, z47⟩, st47⟩ := Jvm.LawKit.callS X45 hx (y := (⟨"java/lang/Math", "max", "(II)I"⟩ : MethodName)) hown (mvT hZ (hw _ (List.mem_of_getElem? (i := 116) rfl))) (mvT hZ (hw _ (List.mem_of_getElem? (i := 117) rfl))) (mvT hZ (hw _ (List.mem_of_getElem? (i := 118) rfl))) (mvT hZ (hw _ (List.mem_of_getElem? (i := 119) rfl))) (by decide) (backOf (W := 2) (own_maxI l Z a0 hw [] ((0 : Int32)) ((ww - (Int32.ofNat (own_decL nn).length))) h30 n0 (O38.keep K43 (allS g2 (allS g4 (allS g10 (allS po13_1 all0)))))) hZ (hw _ (List.mem_of_getElem? (i := 119) rfl)) (hw _ (List.mem_of_getElem? (i := 118) rfl)) (by decide) (by decide)) (g := (mkF m 21 #[.val (.long vv), .second, .val (.int ww), .val (.ref x_1)] [(.int (ww - (Int32.ofNat (own_decL nn).length))), (.int (0 : Int32)), (.ref a30), (.ref b7)])) rfl (by rw [hml]; rfl) (argsL := [(.int (0 : Int32)), (.int (ww - (Int32.ofNat (own_decL nn).length)))]) (rest := [(.ref a30), (.ref b7)]) (lenOf own_pd11 rfl) rfl (by show 2 * 0 + _ ≤ _; exact Nat.le_of_eq rfl) (hb hby own_d_prog_10_method_5_code_21) (fun _ _ => ⟨rfl, hh45, (by decide : 6 + 0 ≤ _), (by decide : 52 + 0 ≤ _)⟩)
  dsimp only [Pt.U, Pt.locs, Pt.cells, Pt.slots] at X47 l47 y47 z47 st47 hQ47
  subst l47 y47 z47
  obtain ⟨rfl, Nq47, hh47⟩ := hQ47
  have N47 := Fr.app N45 Nq47
  have r48 : GoTo p.tables e below s₁ (own_F_own_idg m vv ww) T47 (mkF m 24 #[.val (.long vv), .second, .val (.int ww), .val (.ref x_1)] [(.int (if (0 : Int32) < (ww - (Int32.ofNat (own_decL nn).length)) then (ww - (Int32.ofNat (own_decL nn).length)) else (0 : Int32))), (.ref a30), (.ref b7)]) := fun tt_ kk_ => r20 tt_ (by
      show Steps p.tables e below (T13.setTop (mkF m 12 #[.val (.long vv), .second, .val (.int ww), .val (.ref x_1)] [(.ref b7)])) _
      refine st30 _ ?_
      show Steps p.tables e below (T30.setTop (mkF m 14 #[.val (.long vv), .second, .val (.int ww), .val (.ref x_1)] [(.ref a30), (.ref b7)])) _
      refine XS.iconst X30.here hx rfl (hb hby own_d_prog_10_method_5_code_14) ?_
      show Steps p.tables e below (T30.setTop (mkF m 15 #[.val (.long vv), .second, .val (.int ww), .val (.ref x_1)] [(.int (0 : Int32)), (.ref a30), (.ref b7)])) _
      refine XS.iloadN X30.here hx rfl (hb hby own_d_prog_10_method_5_code_15) rfl ?_
      show Steps p.tables e below (T30.setTop (mkF m 16 #[.val (.long vv), .second, .val (.int ww), .val (.ref x_1)] [(.int ww), (.int (0 : Int32)), (.ref a30), (.ref b7)])) _
      refine XS.aloadN X30.here hx rfl (hb hby own_d_prog_10_method_5_code_16) rfl rfl ?_
      show Steps p.tables e below (T30.setTop (mkF m 17 #[.val (.long vv), .second, .val (.int ww), .val (.ref x_1)] [(.ref x_1), (.int ww), (.int (0 : Int32)), (.ref a30), (.ref b7)])) _
      refine st45.trans ?_
      show Steps p.tables e below (T45.setTop (mkF m 20 #[.val (.long vv), .second, .val (.int ww), .val (.ref x_1)] [(.int (Int32.ofNat (own_decL nn).length)), (.int ww), (.int (0 : Int32)), (.ref a30), (.ref b7)])) _
      refine XS.isub X45.here hx rfl (hb hby own_d_prog_10_method_5_code_20) rfl ?_
      show Steps p.tables e below (T45.setTop (mkF m 21 #[.val (.long vv), .second, .val (.int ww), .val (.ref x_1)] [(.int (ww - (Int32.ofNat (own_decL nn).length))), (.int (0 : Int32)), (.ref a30), (.ref b7)])) _
      refine st47 _ ?_
      show Steps p.tables e below (T47.setTop (mkF m 24 #[.val (.long vv), .second, .val (.int ww), .val (.ref x_1)] [(.int (if (0 : Int32) < (ww - (Int32.ofNat (own_decL nn).length)) then (ww - (Int32.ofNat (own_decL nn).length)) else (0 : Int32))), (.ref a30), (.ref b7)])) _
      exact kk_)
  have r49 : GoTo p.tables e below s₁ (own_F_own_idg m vv ww) T47 (mkF m 24 #[.val (.long vv), .second, .val (.int ww), .val (.ref x_1)] [(.int (Int32.ofNat cnt)), (.ref a30), (.ref b7)]) := Eq.mp (congrArg (fun zz_ => GoTo p.tables e below s₁ (own_F_own_idg m vv ww) T47 (mkF m 24 #[.val (.long vv), .second, .val (.int ww), .val (.ref x_1)] [(.int zz_), (.ref a30), (.ref b7)])) (show (if (0 : Int32) < (ww - (Int32.ofNat (own_decL nn).length)) then (ww - (Int32.ofNat (own_decL nn).length)) else (0 : Int32)) = (Int32.ofNat cnt) from (by rw [own_decL_len]; exact hcw))) r48
  have f50 : own_SB Z h30 b7 d_13 kd_13 16 ([] : List Int32) := (po13_2.ext E30)
  have hltd : d_13 < h30.size := (Nat.lt_of_lt_of_le po13_2.2.2.2.2.1.lt E30.1)
  have C51 : CHr Z consts_1 T30.vm h30 T30.vm h30 := CHr.keep K43 (allS Sf39 (allS Sf40 (allS Sf41 (allS Sf42 all0)))) CC30.1
  have Sf52 : Safe Z consts_1 T30.vm h30 x_1 := Safe.keep K43 (allS Sf39 (allS Sf40 (allS Sf41 (allS Sf42 all0)))) CC30.1 Sf39
  have lt53 : x_1 < h30.size := (Nat.lt_of_lt_of_le po1_3.1.lt (Nat.le_trans (Nat.le_trans E7.1 Kq13.1) E30.1))
  have Sf54 : Safe Z consts_1 T30.vm h30 t_1 := Safe.keep K43 (allS Sf39 (allS Sf40 (allS Sf41 (allS Sf42 all0)))) CC30.1 Sf40
  have lt55 : t_1 < h30.size := (Nat.lt_of_lt_of_le po1_3.2.2.2.1.lt (Nat.le_trans (Nat.le_trans E7.1 Kq13.1) E30.1))
  have Sf56 : Safe Z consts_1 T30.vm h30 b7 := Safe.keep K43 (allS Sf39 (allS Sf40 (allS Sf41 (allS Sf42 all0)))) CC30.1 Sf41
  have lt57 : b7 < h30.size := (Nat.lt_of_lt_of_le A7.lt (Nat.le_trans Kq13.1 E30.1))
  have Sf58 : Safe Z consts_1 T30.vm h30 d_13 := Safe.keep K43 (allS Sf39 (allS Sf40 (allS Sf41 (allS Sf42 all0)))) CC30.1 Sf42
  have lt59 : d_13 < h30.size := (Nat.lt_of_lt_of_le po13_2.2.2.2.2.1.lt E30.1)
  obtain ⟨cq60, kq60, qa60, qb60, qc60⟩ := isOf hZ hh47 Sr30.1
  obtain ⟨_, _, ⟨T60, L60, k60, n60⟩, -, X60, hSq60, hgr60, ⟨Lc60, hQ60, l60, y60, z60, CC60⟩, st60⟩ := X47.virtualBackS hx (y := (⟨"java/lang/String", "repeat", "(I)Ljava/lang/String;"⟩ : MethodName)) (z := (⟨"java/lang/String", "repeat", "(I)Ljava/lang/String;"⟩ : MethodName)) hown (mvT hZ (hw _ (List.mem_of_getElem? (i := 120) rfl))) (mvT hZ (hw _ (List.mem_of_getElem? (i := 121) rfl))) (notFace_of_selects (args := #[]) (mvT hZ (hw _ (List.mem_of_getElem? (i := 123) rfl)))) (mvT hZ (hw _ (List.mem_of_getElem? (i := 123) rfl))) (mvT hZ (hw _ (List.mem_of_getElem? (i := 122) rfl))) (by decide) (backOfSH (s := s) (vm0 := T30.vm) (W := 1) (own_rep l Z a0 hw [] (a30) (t30) (kb30) (cnt) h30 n0 (O38.keep K43 (allS g2 (allS g4 (allS g10 (allS po13_1 all0))))) (Sr30) (by omega) hEL) hZ (hw _ (List.mem_of_getElem? (i := 124) rfl)) (hw _ (List.mem_of_getElem? (i := 27) rfl)) (by decide) (by decide) hEL C51.1) qa60 qc60 (g := (mkF m 24 #[.val (.long vv), .second, .val (.int ww), .val (.ref x_1)] [(.int (Int32.ofNat cnt)), (.ref a30), (.ref b7)])) rfl (by rw [hml]; rfl) (Steps.refl _) (argsL := [(.int (Int32.ofNat cnt))]) (rest := [(.ref b7)]) (lenOf own_pd21 rfl) rfl (by show 2 * 0 + _ ≤ _; exact Nat.le_of_eq rfl) (hb hby own_d_prog_10_method_5_code_24) (fun _ _ => ⟨rfl, hh47, (by decide : 6 + 2 ≤ _), (by decide : 52 + 64 ≤ _)⟩)
  dsimp only [Pt.U, Pt.locs, Pt.cells, Pt.slots] at X60 l60 y60 z60 st60 hQ60 CC60 hSq60 hgr60
  subst l60 y60 z60
  have hSn60 := foldS (s := s) (vm0 := T30.vm) hS30 (by rw [hh47]; exact (Nat.le_trans hk30 K43.1)) hSq60 hgr60
  have X60 : Stand p l e ({ frames := 6, cells := 10, slots := 220, locals := 117 } : Room) (s.setVm T60.vm) m #[(.long vv), (.int ww)] below meth c T60 _ _ _ := X60
  have hZ : Z.Warmed39 (s.setVm T60.vm).vm := State.Warmed39.trans (t := s.setVm T30.vm) hZ hSq60.1
  have hown : (s.setVm T60.vm).vm.findClass "com/example/uketsuke/uketsuke/store/IdFormat" = some m.cls := by show T60.vm.findClass _ = _; rw [hSq60.1.alike.findClass]; exact hown
  obtain ⟨x_60, t_60, kt_60, rfl, Nq60, Kq60, po60_0, po60_1⟩ := hQ60
  have N60 := Fr.app N47 Nq60
  have K61 : Keep h30 T60.heap [x_1, t_1, b7, d_13] := K43.trans Kq60 all0
  have CA62 : CHr Z consts_1 s.vm h0 T60.vm T60.heap := (CA36.trans C51).trans CC60
  have KA63 : Keep h0 T60.heap [] := KA37.trans K61 (allS (Or.inr bz32) (allS (Or.inr bz33) (allS (Or.inr bz34) (allS (Or.inr bz35) all0))))
  have O64 : Old Z n0 T60.heap := (O38.keep K61 (allS g2 (allS g4 (allS g10 (allS po13_1 all0)))))
  have Sf65 : Safe Z consts_1 T60.vm T60.heap x_1 := CHr.safe CC60 lt53 Sf52
  have Sf66 : Safe Z consts_1 T60.vm T60.heap t_1 := CHr.safe CC60 lt55 Sf54
  have Sf67 : Safe Z consts_1 T60.vm T60.heap b7 := CHr.safe CC60 lt57 Sf56
  have Sf68 : Safe Z consts_1 T60.vm T60.heap d_13 := CHr.safe CC60 lt59 Sf58
  have K69 : Keep T60.heap T60.heap [x_1, t_1, b7, d_13] := Keep.refl _ _
  have f70 : own_SB Z T60.heap b7 d_13 kd_13 16 ([] : List Int32) := (f50.keep Kq60 nin0 nin0)
  obtain ⟨vb71, -, hvb71, -⟩ := own_By.arv f70.2.2.2.2.1
  have nx71 : x_60 ≠ b7 := ne_exa po60_0.1 f70.1 (by decide)
  have ny71 : x_60 ≠ d_13 := ne_exa po60_0.1 f70.2.2.2.2.1.1 (by decide)
  have nz71 : b7 ≠ t_60 := Exa.neArv f70.1 po60_0.2.2.2.1 (hw _ (List.mem_of_getElem? (i := 12) rfl))
  have nt71 : t_60 ≠ d_13 := po60_1.elim (fun q => own_neLen po60_0.2.2.2.1 hvb71 (by rw [hlr, own_clamp (by omega), own_clamp (by decide)]; omega)) (fun q => Ne.symm (Nat.ne_of_lt (Nat.lt_of_lt_of_le hltd q)))
  have f73 : Exa Z T60.heap b7 "java/lang/StringBuilder" := ((po13_2.1.ext E30).keep Kq60)
  obtain ⟨cq72, kq72, qa72, qb72, qc72⟩ := isOf hZ rfl f73
  obtain ⟨_, _, ⟨T72, L72, k72, n72⟩, -, X72, ⟨Lc72, hQ72, l72, y72, z72⟩, st72⟩ := X60.virtualBack hx (y := (⟨"java/lang/StringBuilder", "append", "(Ljava/lang/String;)Ljava/lang/StringBuilder;"⟩ : MethodName)) (z := (⟨"java/lang/StringBuilder", "append", "(Ljava/lang/String;)Ljava/lang/StringBuilder;"⟩ : MethodName)) hown (mvT hZ (hw _ (List.mem_of_getElem? (i := 35) rfl))) (mvT hZ (hw _ (List.mem_of_getElem? (i := 36) rfl))) (notFace_of_selects (args := #[]) (mvT hZ (hw _ (List.mem_of_getElem? (i := 38) rfl)))) (mvT hZ (hw _ (List.mem_of_getElem? (i := 38) rfl))) (mvT hZ (hw _ (List.mem_of_getElem? (i := 37) rfl))) (by decide) (backOf (W := 0) (own_appS l Z a0 hw [] (b7) (d_13) (kd_13) (16) (([] : List Int32)) (x_60) (t_60) (kt_60) ((List.replicate cnt (48 : Int32))) (gCS) T60.heap n0 (O64.keep K69 (allS g2 (allS g4 (allS g10 (allS po13_1 all0))))) (f70) (g10) (po13_1) (po60_0) (nx71) (ny71) ((Ne.symm nz71)) (nt71) (by decide) (by intro q; rw [hl0, hlr] at q; omega) (by decide) (hp3) (hG1)) hZ (hw _ (List.mem_of_getElem? (i := 39) rfl)) (hw _ (List.mem_of_getElem? (i := 13) rfl)) (by decide) (by decide)) qa72 qc72 (g := (mkF m 27 #[.val (.long vv), .second, .val (.int ww), .val (.ref x_1)] [(.ref x_60), (.ref b7)])) rfl (by rw [hml]; rfl) (Steps.refl _) (argsL := [(.ref x_60)]) (rest := []) (lenOf own_pd22 rfl) rfl (by show 2 * 0 + _ ≤ _; exact Nat.le_of_eq rfl) (hb hby own_d_prog_10_method_5_code_27) (fun _ _ => ⟨rfl, rfl, (by decide : 8 + 0 ≤ _), (by decide : 116 + 0 ≤ _)⟩)
  dsimp only [Pt.U, Pt.locs, Pt.cells, Pt.slots] at X72 l72 y72 z72 st72 hQ72
  subst l72 y72 z72
  obtain ⟨d2_72, k2_72, N2_72, rfl, Nq72, Kq72, po72_0, po72_1, po72_2, po72_3⟩ := hQ72
  have N72 := Fr.app N60 Nq72
  have ne74 : x_1 ≠ d2_72 := own_orne po72_0 ne14 (Nat.lt_of_lt_of_le po1_3.1.lt (Nat.le_trans (Nat.le_trans (Nat.le_trans E7.1 Kq13.1) E30.1) Kq60.1))
  have ne75 : t_1 ≠ d2_72 := own_orne po72_0 ne15 (Nat.lt_of_lt_of_le po1_3.2.2.2.1.lt (Nat.le_trans (Nat.le_trans (Nat.le_trans E7.1 Kq13.1) E30.1) Kq60.1))
  have ne76 : b7 ≠ d2_72 := own_orne po72_0 ne16 (Nat.lt_of_lt_of_le A7.lt (Nat.le_trans (Nat.le_trans Kq13.1 E30.1) Kq60.1))
  have ne77 : a30 ≠ d2_72 := own_orne po72_0 (Ne.symm (hne30 _ Sf42).1) (Nat.lt_of_lt_of_le Sr30.1.lt Kq60.1)
  have ne78 : t30 ≠ d2_72 := own_orne po72_0 (Ne.symm (hne30 _ Sf42).2) (Nat.lt_of_lt_of_le Sr30.2.2.2.1.lt Kq60.1)
  have ne79 : x_60 ≠ d2_72 := own_orne po72_0 ny71 po60_0.1.lt
  have ne80 : t_60 ≠ d2_72 := own_orne po72_0 nt71 po60_0.2.2.2.1.lt
  have g81 : n0 ≤ d2_72 := own_orle po72_0 po13_1 (Nat.le_trans (own_le O64) K69.1)
  have K82 : Keep T60.heap T72.heap [x_1, t_1, b7, d_13] := K69.trans Kq72 (allS (Or.inl (List.mem_of_getElem? (i := 2) rfl)) (allS (Or.inl (List.mem_of_getElem? (i := 3) rfl)) all0))
  have hA := po72_3
  have f83 : own_Str Z T72.heap x_1 t_1 kt_1 (own_decL nn) := ((f44.keep Kq60 nin0 nin0).keep Kq72 (ninS ne8 (ninS ne14 nin0)) (ninS ne9 (ninS ne15 nin0)))
  obtain ⟨cq84, kq84, qa84, qb84, qc84⟩ := isOf hZ rfl po72_2.1
  obtain ⟨_, _, ⟨T84, L84, k84, n84⟩, -, X84, ⟨Lc84, hQ84, l84, y84, z84⟩, st84⟩ := X72.virtualBack hx (y := (⟨"java/lang/StringBuilder", "append", "(Ljava/lang/String;)Ljava/lang/StringBuilder;"⟩ : MethodName)) (z := (⟨"java/lang/StringBuilder", "append", "(Ljava/lang/String;)Ljava/lang/StringBuilder;"⟩ : MethodName)) hown (mvT hZ (hw _ (List.mem_of_getElem? (i := 35) rfl))) (mvT hZ (hw _ (List.mem_of_getElem? (i := 36) rfl))) (notFace_of_selects (args := #[]) (mvT hZ (hw _ (List.mem_of_getElem? (i := 38) rfl)))) (mvT hZ (hw _ (List.mem_of_getElem? (i := 38) rfl))) (mvT hZ (hw _ (List.mem_of_getElem? (i := 37) rfl))) (by decide) (backOf (W := 0) (own_appS l Z a0 hw [] (b7) (d2_72) (k2_72) (N2_72) ((([] : List Int32) ++ (List.replicate cnt (48 : Int32)))) (x_1) (t_1) (kt_1) ((own_decL nn)) (gCS) T72.heap n0 (O64.keep K82 (allS g2 (allS g4 (allS g10 (allS po13_1 all0))))) (po72_2) (g10) (po72_1) (f83) (ne8) (ne74) (ne9) (ne75) (by omega) (by intro q; rw [hl1, hld] at q; omega) (by omega) (hp3) (hG1)) hZ (hw _ (List.mem_of_getElem? (i := 39) rfl)) (hw _ (List.mem_of_getElem? (i := 13) rfl)) (by decide) (by decide)) qa84 qc84 (g := (mkF m 31 #[.val (.long vv), .second, .val (.int ww), .val (.ref x_1)] [(.ref x_1), (.ref b7)])) rfl (by rw [hml]; rfl) (Steps.refl _) (argsL := [(.ref x_1)]) (rest := []) (lenOf own_pd22 rfl) rfl (by show 2 * 0 + _ ≤ _; exact Nat.le_of_eq rfl) (hb hby own_d_prog_10_method_5_code_31) (fun _ _ => ⟨rfl, rfl, (by decide : 8 + 0 ≤ _), (by decide : 116 + 0 ≤ _)⟩)
  dsimp only [Pt.U, Pt.locs, Pt.cells, Pt.slots] at X84 l84 y84 z84 st84 hQ84
  subst l84 y84 z84
  obtain ⟨d2_84, k2_84, N2_84, rfl, Nq84, Kq84, po84_0, po84_1, po84_2, po84_3⟩ := hQ84
  have N84 := Fr.app N72 Nq84
  have ne85 : x_1 ≠ d2_84 := own_orne po84_0 ne74 (Nat.lt_of_lt_of_le po1_3.1.lt (Nat.le_trans (Nat.le_trans (Nat.le_trans (Nat.le_trans E7.1 Kq13.1) E30.1) Kq60.1) Kq72.1))
  have ne86 : t_1 ≠ d2_84 := own_orne po84_0 ne75 (Nat.lt_of_lt_of_le po1_3.2.2.2.1.lt (Nat.le_trans (Nat.le_trans (Nat.le_trans (Nat.le_trans E7.1 Kq13.1) E30.1) Kq60.1) Kq72.1))
  have ne87 : b7 ≠ d2_84 := own_orne po84_0 ne76 (Nat.lt_of_lt_of_le A7.lt (Nat.le_trans (Nat.le_trans (Nat.le_trans Kq13.1 E30.1) Kq60.1) Kq72.1))
  have ne88 : a30 ≠ d2_84 := own_orne po84_0 ne77 (Nat.lt_of_lt_of_le Sr30.1.lt (Nat.le_trans Kq60.1 Kq72.1))
  have ne89 : t30 ≠ d2_84 := own_orne po84_0 ne78 (Nat.lt_of_lt_of_le Sr30.2.2.2.1.lt (Nat.le_trans Kq60.1 Kq72.1))
  have ne90 : x_60 ≠ d2_84 := own_orne po84_0 ne79 (Nat.lt_of_lt_of_le po60_0.1.lt Kq72.1)
  have ne91 : t_60 ≠ d2_84 := own_orne po84_0 ne80 (Nat.lt_of_lt_of_le po60_0.2.2.2.1.lt Kq72.1)
  have g92 : n0 ≤ d2_84 := own_orle po84_0 po72_1 (Nat.le_trans (own_le O64) K82.1)
  have K93 : Keep T60.heap T84.heap [x_1, t_1, b7, d_13] := K82.trans Kq84 (allS (Or.inl (List.mem_of_getElem? (i := 2) rfl)) (allS ((po72_0).elim (fun q => Or.inl (q ▸ List.mem_of_getElem? (i := 3) rfl)) (fun q => Or.inr (Nat.le_trans K69.1 q))) all0))
  have hB := po84_3
  obtain ⟨cq94, kq94, qa94, qb94, qc94⟩ := isOf hZ rfl po84_2.1
  obtain ⟨_, _, ⟨T94, L94, k94, n94⟩, -, X94, ⟨Lc94, hQ94, l94, y94, z94⟩, st94⟩ := X84.virtualBack hx (y := (⟨"java/lang/StringBuilder", "toString", "()Ljava/lang/String;"⟩ : MethodName)) (z := (⟨"java/lang/StringBuilder", "toString", "()Ljava/lang/String;"⟩ : MethodName)) hown (mvT hZ (hw _ (List.mem_of_getElem? (i := 132) rfl))) (mvT hZ (hw _ (List.mem_of_getElem? (i := 133) rfl))) (notFace_of_selects (args := #[]) (mvT hZ (hw _ (List.mem_of_getElem? (i := 135) rfl)))) (mvT hZ (hw _ (List.mem_of_getElem? (i := 135) rfl))) (mvT hZ (hw _ (List.mem_of_getElem? (i := 134) rfl))) (by decide) (backOf (W := 0) (own_toStr l Z a0 hw [] (b7) (d2_84) (k2_84) (N2_84) (((([] : List Int32) ++ (List.replicate cnt (48 : Int32))) ++ (own_decL nn))) (gCS) T84.heap n0 (O64.keep K93 (allS g2 (allS g4 (allS g10 (allS po13_1 all0))))) (po84_2) (by rw [hl2]; omega) (by rw [hl2]; omega) (hp3) (hG1)) hZ (hw _ (List.mem_of_getElem? (i := 136) rfl)) (hw _ (List.mem_of_getElem? (i := 13) rfl)) (by decide) (by decide)) qa94 qc94 (g := (mkF m 34 #[.val (.long vv), .second, .val (.int ww), .val (.ref x_1)] [(.ref b7)])) rfl (by rw [hml]; rfl) (Steps.refl _) (argsL := []) (rest := []) (lenOf own_pd23 rfl) rfl (by show 2 * 0 + _ ≤ _; exact Nat.le_of_eq rfl) (hb hby own_d_prog_10_method_5_code_34) (fun _ _ => ⟨rfl, rfl, (by decide : 8 + 2 ≤ _), (by decide : 116 + 104 ≤ _)⟩)
  dsimp only [Pt.U, Pt.locs, Pt.cells, Pt.slots] at X94 l94 y94 z94 st94 hQ94
  subst l94 y94 z94
  obtain ⟨x_94, t_94, kt_94, rfl, Nq94, Kq94, po94_0, po94_1, po94_2, po94_3⟩ := hQ94
  have N94 := Fr.app N84 Nq94
  have ne95 : x_1 ≠ x_94 := Nat.ne_of_lt (Nat.lt_of_lt_of_le (Nat.lt_of_lt_of_le po1_3.1.lt (Nat.le_trans (Nat.le_trans (Nat.le_trans (Nat.le_trans (Nat.le_trans E7.1 Kq13.1) E30.1) Kq60.1) Kq72.1) Kq84.1)) po94_0)
  have ne96 : t_1 ≠ x_94 := Nat.ne_of_lt (Nat.lt_of_lt_of_le (Nat.lt_of_lt_of_le po1_3.2.2.2.1.lt (Nat.le_trans (Nat.le_trans (Nat.le_trans (Nat.le_trans (Nat.le_trans E7.1 Kq13.1) E30.1) Kq60.1) Kq72.1) Kq84.1)) po94_0)
  have ne97 : b7 ≠ x_94 := Nat.ne_of_lt (Nat.lt_of_lt_of_le (Nat.lt_of_lt_of_le A7.lt (Nat.le_trans (Nat.le_trans (Nat.le_trans (Nat.le_trans Kq13.1 E30.1) Kq60.1) Kq72.1) Kq84.1)) po94_0)
  have ne98 : d_13 ≠ x_94 := Nat.ne_of_lt (Nat.lt_of_lt_of_le (Nat.lt_of_lt_of_le po13_2.2.2.2.2.1.lt (Nat.le_trans (Nat.le_trans (Nat.le_trans E30.1 Kq60.1) Kq72.1) Kq84.1)) po94_0)
  have ne99 : a30 ≠ x_94 := Nat.ne_of_lt (Nat.lt_of_lt_of_le (Nat.lt_of_lt_of_le Sr30.1.lt (Nat.le_trans (Nat.le_trans Kq60.1 Kq72.1) Kq84.1)) po94_0)
  have ne100 : t30 ≠ x_94 := Nat.ne_of_lt (Nat.lt_of_lt_of_le (Nat.lt_of_lt_of_le Sr30.2.2.2.1.lt (Nat.le_trans (Nat.le_trans Kq60.1 Kq72.1) Kq84.1)) po94_0)
  have ne101 : x_60 ≠ x_94 := Nat.ne_of_lt (Nat.lt_of_lt_of_le (Nat.lt_of_lt_of_le po60_0.1.lt (Nat.le_trans Kq72.1 Kq84.1)) po94_0)
  have ne102 : t_60 ≠ x_94 := Nat.ne_of_lt (Nat.lt_of_lt_of_le (Nat.lt_of_lt_of_le po60_0.2.2.2.1.lt (Nat.le_trans Kq72.1 Kq84.1)) po94_0)
  have ne103 : d2_72 ≠ x_94 := Nat.ne_of_lt (Nat.lt_of_lt_of_le (Nat.lt_of_lt_of_le po72_2.2.2.2.2.1.lt Kq84.1) po94_0)
  have ne104 : d2_84 ≠ x_94 := Nat.ne_of_lt (Nat.lt_of_lt_of_le po84_2.2.2.2.2.1.lt po94_0)
  have g105 : n0 ≤ x_94 := Nat.le_trans (Nat.le_trans (own_le O64) K93.1) po94_0
  have b106 : T60.heap.size ≤ x_94 := Nat.le_trans K93.1 po94_0
  have ne107 : x_1 ≠ t_94 := Nat.ne_of_lt (Nat.lt_of_lt_of_le (Nat.lt_of_lt_of_le po1_3.1.lt (Nat.le_trans (Nat.le_trans (Nat.le_trans (Nat.le_trans (Nat.le_trans E7.1 Kq13.1) E30.1) Kq60.1) Kq72.1) Kq84.1)) po94_1)
  have ne108 : t_1 ≠ t_94 := Nat.ne_of_lt (Nat.lt_of_lt_of_le (Nat.lt_of_lt_of_le po1_3.2.2.2.1.lt (Nat.le_trans (Nat.le_trans (Nat.le_trans (Nat.le_trans (Nat.le_trans E7.1 Kq13.1) E30.1) Kq60.1) Kq72.1) Kq84.1)) po94_1)
  have ne109 : b7 ≠ t_94 := Nat.ne_of_lt (Nat.lt_of_lt_of_le (Nat.lt_of_lt_of_le A7.lt (Nat.le_trans (Nat.le_trans (Nat.le_trans (Nat.le_trans Kq13.1 E30.1) Kq60.1) Kq72.1) Kq84.1)) po94_1)
  have ne110 : d_13 ≠ t_94 := Nat.ne_of_lt (Nat.lt_of_lt_of_le (Nat.lt_of_lt_of_le po13_2.2.2.2.2.1.lt (Nat.le_trans (Nat.le_trans (Nat.le_trans E30.1 Kq60.1) Kq72.1) Kq84.1)) po94_1)
  have ne111 : a30 ≠ t_94 := Nat.ne_of_lt (Nat.lt_of_lt_of_le (Nat.lt_of_lt_of_le Sr30.1.lt (Nat.le_trans (Nat.le_trans Kq60.1 Kq72.1) Kq84.1)) po94_1)
  have ne112 : t30 ≠ t_94 := Nat.ne_of_lt (Nat.lt_of_lt_of_le (Nat.lt_of_lt_of_le Sr30.2.2.2.1.lt (Nat.le_trans (Nat.le_trans Kq60.1 Kq72.1) Kq84.1)) po94_1)
  have ne113 : x_60 ≠ t_94 := Nat.ne_of_lt (Nat.lt_of_lt_of_le (Nat.lt_of_lt_of_le po60_0.1.lt (Nat.le_trans Kq72.1 Kq84.1)) po94_1)
  have ne114 : t_60 ≠ t_94 := Nat.ne_of_lt (Nat.lt_of_lt_of_le (Nat.lt_of_lt_of_le po60_0.2.2.2.1.lt (Nat.le_trans Kq72.1 Kq84.1)) po94_1)
  have ne115 : d2_72 ≠ t_94 := Nat.ne_of_lt (Nat.lt_of_lt_of_le (Nat.lt_of_lt_of_le po72_2.2.2.2.2.1.lt Kq84.1) po94_1)
  have ne116 : d2_84 ≠ t_94 := Nat.ne_of_lt (Nat.lt_of_lt_of_le po84_2.2.2.2.2.1.lt po94_1)
  have g117 : n0 ≤ t_94 := Nat.le_trans (Nat.le_trans (own_le O64) K93.1) po94_1
  have b118 : T60.heap.size ≤ t_94 := Nat.le_trans K93.1 po94_1
  have K119 : Keep T60.heap T94.heap [x_1, t_1, b7, d_13] := K93.trans Kq94 all0
  have C120 : CHr Z consts_1 T60.vm T60.heap T60.vm T94.heap := CHr.keep K119 (allS Sf65 (allS Sf66 (allS Sf67 (allS Sf68 all0)))) CC60.1
  have CAe : CHr Z consts_1 s.vm h0 T60.vm T94.heap := CA62.trans C120
  have CAf : CHr Z consts_1 s.vm h0 T94.vm T94.heap := CAe.trans (CHv.at (s := s) (vm0 := T60.vm) X94 hZ hEL CAe.1)
  obtain ⟨fs, hr, hrun, hended, hRW⟩ := Stand.leaveW (s := s) (vm₁ := T60.vm) X94 hSn60 (Nat.le_trans (Nat.le_refl _) K119.1) (v := some (.ref x_94)) (fun h => by rw [Bd.returns] at h; cases h)
  refine ⟨_, _, r49 _ ?_, hrun, hended, _, _, rfl, ?_, (by show CHr Z consts_1 s.vm s.heap T94.vm T94.heap; rw [hh]; exact CAf), ⟨hRW.1, hRW.2.1, hRW.2.2.1, hRW.2.2.2.mono (by decide) (by decide)⟩⟩
  · show Steps p.tables e below (T47.setTop (mkF m 24 #[.val (.long vv), .second, .val (.int ww), .val (.ref x_1)] [(.int (Int32.ofNat cnt)), (.ref a30), (.ref b7)])) _
    refine st60.trans ?_
    show Steps p.tables e below (T60.setTop (mkF m 27 #[.val (.long vv), .second, .val (.int ww), .val (.ref x_1)] [(.ref x_60), (.ref b7)])) _
    refine st72.trans ?_
    show Steps p.tables e below (T72.setTop (mkF m 30 #[.val (.long vv), .second, .val (.int ww), .val (.ref x_1)] [(.ref b7)])) _
    refine XS.aloadN X72.here hx rfl (hb hby own_d_prog_10_method_5_code_30) rfl rfl ?_
    show Steps p.tables e below (T72.setTop (mkF m 31 #[.val (.long vv), .second, .val (.int ww), .val (.ref x_1)] [(.ref x_1), (.ref b7)])) _
    refine st84.trans ?_
    show Steps p.tables e below (T84.setTop (mkF m 34 #[.val (.long vv), .second, .val (.int ww), .val (.ref x_1)] [(.ref b7)])) _
    refine st94.trans ?_
    show Steps p.tables e below (T94.setTop (mkF m 37 #[.val (.long vv), .second, .val (.int ww), .val (.ref x_1)] [(.ref x_94)])) _
    exact retOut X94 hx (t := (.object "java/lang/String")) Bd.returns rfl (Or.inr (Or.inr (Or.inr (Or.inr ⟨rfl, rfl, rfl⟩)))) (hb hby own_d_prog_10_method_5_code_37) hr
  · show Q_own_idg Z vv ww nn cnt gCS ist dt1 dt2 cD1 cD2 h0 n0 _ T94.heap _
    exact ⟨x_94, t_94, kt_94, rfl, N94, (KA63.trans K119 (allS (Or.inr bz32) (allS (Or.inr bz33) (allS (Or.inr bz34) (allS (Or.inr bz35) all0))))), (Nat.le_trans KA63.1 b106), (Nat.le_trans KA63.1 b118), po94_2, po94_3⟩
theorem own_pn_own_dAt : plainName "com/example/uketsuke/uketsuke/store/IdFormatFormatPinLaw" = true := by first | (simp [plainName, overriddenIn]; done) | decide +kernel
theorem own_ef_own_dAt (m : MethodId) (y : Addr) (i : Nat) (vv : Int64) (pw : Nat) : entryFrame m #[(.ref y), (.int (Int32.ofNat i)), (.long vv), (.long (Int64.ofNat pw))] 7 = mkF m 0 #[.val (.ref y), .val (.int (Int32.ofNat i)), .val (.long vv), .second, .val (.long (Int64.ofNat pw)), .second, .unset] [] := by first | (simp [entryFrame, mkF, argsToLocals, own_cI, own_cJ, own_cR, own_cN]; done) | rfl
abbrev own_F_own_dAt (m : MethodId) (y : Addr) (i : Nat) (vv : Int64) (pw : Nat) : JFrame := entryFrame m #[(.ref y), (.int (Int32.ofNat i)), (.long vv), (.long (Int64.ofNat pw))] 7
def Q_own_dAt (Z : State) (y : Addr) (ty : Addr) (ky : ClassId) (ds : List Int32) (i : Nat) (vv : Int64) (nn : Nat) (pw : Nat) (gCS : Int32) (gFM : Value) (h0 : Heap) (n0 : Nat) (v : Option Value) (h : Heap) (L : List Loc) : Prop := v = some (.int (1 : Int32)) ∧ Fr n0 L ∧ h = h0
set_option maxRecDepth 65536 in
set_option maxHeartbeats 40000000 in
theorem own_dAt (l : Launch) (Z : State) (a0 : Array Value) (hw : ∀ d ∈ tables_1, d.before a0 Z = true) (ws : List Jvm.Cond) (y : Addr) (ty : Addr) (ky : ClassId) (ds : List Int32) (i : Nat) (vv : Int64) (nn : Nat) (pw : Nat) (gCS : Int32) (gFM : Value) (h0 : Heap) (n0 : Nat) (O0 : Old Z n0 h0) (hp0 : own_Str Z h0 y ty ky ds) (hvn : vv.toInt = nn) (hpp : 0 < pw) (hpl : pw < 2 ^ 63) (hin : i < ds.length) (hat : ds.getD i 0 = Int32.ofNat (48 + nn / pw % 10)) (hp6 : Sta Z Z.heap "java/lang/String" "COMPACT_STRINGS" "Z" (.int gCS)) (hG1 : ¬ gCS = (0 : Int32)) (hp8 : Sta Z Z.heap "jdk/internal/util/Preconditions" "SIOOBE_FORMATTER" "Ljava/util/function/BiFunction;" gFM) (hG3 : gFM.isRef = true) :
    MetFree l (⟨"com/example/uketsuke/uketsuke/store/IdFormatFormatPinLaw", "digitAt", "(Ljava/lang/String;IJJ)Z"⟩ : MethodName) (head1 (Jvm.Cond.code (⟨"com/example/uketsuke/uketsuke/store/IdFormatFormatPinLaw", "digitAt", "(Ljava/lang/String;IJJ)Z"⟩ : MethodName) method_3_code 7 (some .boolean) :: ws) ({ frames := 4, cells := 0, slots := 0, locals := 53 } : Room)) (fun aa_ U_ => aa_ = #[(.ref y), (.int (Int32.ofNat i)), (.long vv), (.long (Int64.ofNat pw))] ∧ Z.Warmed39 U_.vm ∧ U_.heap = h0) (fun _ _ _ _ _ => True) (fun _ U_ o_ V_ => ∃ v_ L_, o_ = .returned v_ ∧ Q_own_dAt Z y ty ky ds i vv nn pw gCS gFM h0 n0 v_ V_.heap L_ ∧ FrameEnd U_ o_ V_ L_ ({ frames := 4, cells := 0, slots := 0, locals := 53 } : Room).cells ({ frames := 4, cells := 0, slots := 0, locals := 53 } : Room).slots) := by
  refine MetFree.of_bodySF (plainFor_of_name own_pn_own_dAt) hisR ?_
  intro p e s m args below meth c s₁ Bd hml0 hP hK
  obtain ⟨rfl, hZ, hh⟩ := hP
  have hx := Bd.exec
  have hby := Bd.bytes
  have hml : c.maxLocals = 7 := hml0
  have hown : s.vm.findClass "com/example/uketsuke/uketsuke/store/IdFormatFormatPinLaw" = some m.cls := findClass_of_methodNamed Bd.named
  have hnm := (name_of_methodNamed Bd.named Bd.method).1
  have X0 : Stand p l e ({ frames := 4, cells := 0, slots := 0, locals := 53 } : Room) s m #[(.ref y), (.int (Int32.ofNat i)), (.long vv), (.long (Int64.ofNat pw))] below meth c s₁ [] 0 0 := Stand.of_body Bd
  have e0 : s₁.heap = h0 := by rw [← hh, Bd.state]; rfl
  have N0 := Fr.nil n0
  have K0 : Keep h0 h0 [] := Keep.refl _ _
  have r0 : GoTo p.tables e below s₁ (own_F_own_dAt m y i vv pw) s₁ (mkF m 0 #[.val (.ref y), .val (.int (Int32.ofNat i)), .val (.long vv), .second, .val (.long (Int64.ofNat pw)), .second, .unset] []) := fun tt_ kk_ => castTop (own_ef_own_dAt m y i vv pw) kk_
  have hn63 : nn < 2 ^ 63 := by have := vv.toInt_lt; omega
  have hdv : nn / pw ≤ nn := Nat.div_le_self _ _
  have r1 : GoTo p.tables e below s₁ (own_F_own_dAt m y i vv pw) s₁ (mkF m 4 #[.val (.ref y), .val (.int (Int32.ofNat i)), .val (.long vv), .second, .val (.long (Int64.ofNat pw)), .second, .unset] [(.long (vv / (Int64.ofNat pw)))]) := fun tt_ kk_ => r0 tt_ (by
      show Steps p.tables e below (s₁.setTop (mkF m 0 #[.val (.ref y), .val (.int (Int32.ofNat i)), .val (.long vv), .second, .val (.long (Int64.ofNat pw)), .second, .unset] [])) _
      refine XS.lloadN X0.here hx rfl (hb hby own_d_method_3_code_0) rfl ?_
      show Steps p.tables e below (s₁.setTop (mkF m 1 #[.val (.ref y), .val (.int (Int32.ofNat i)), .val (.long vv), .second, .val (.long (Int64.ofNat pw)), .second, .unset] [(.long vv)])) _
      refine XS.lload X0.here hx rfl (hb hby own_d_method_3_code_1) rfl ?_
      show Steps p.tables e below (s₁.setTop (mkF m 3 #[.val (.ref y), .val (.int (Int32.ofNat i)), .val (.long vv), .second, .val (.long (Int64.ofNat pw)), .second, .unset] [(.long (Int64.ofNat pw)), (.long vv)])) _
      refine XS.ldiv X0.here hx rfl (hb hby own_d_method_3_code_3) rfl (own_lnz hpp hpl) ?_
      show Steps p.tables e below (s₁.setTop (mkF m 4 #[.val (.ref y), .val (.int (Int32.ofNat i)), .val (.long vv), .second, .val (.long (Int64.ofNat pw)), .second, .unset] [(.long (vv / (Int64.ofNat pw)))])) _
      exact kk_)
  have r2 : GoTo p.tables e below s₁ (own_F_own_dAt m y i vv pw) s₁ (mkF m 4 #[.val (.ref y), .val (.int (Int32.ofNat i)), .val (.long vv), .second, .val (.long (Int64.ofNat pw)), .second, .unset] [(.long (Int64.ofNat (nn / pw)))]) := Eq.mp (congrArg (fun zz_ => GoTo p.tables e below s₁ (own_F_own_dAt m y i vv pw) s₁ (mkF m 4 #[.val (.ref y), .val (.int (Int32.ofNat i)), .val (.long vv), .second, .val (.long (Int64.ofNat pw)), .second, .unset] [(.long zz_)])) (show (vv / (Int64.ofNat pw)) = (Int64.ofNat (nn / pw)) from (own_ldiv hvn hpl hpp))) r1
  have r3 : GoTo p.tables e below s₁ (own_F_own_dAt m y i vv pw) s₁ (mkF m 8 #[.val (.ref y), .val (.int (Int32.ofNat i)), .val (.long vv), .second, .val (.long (Int64.ofNat pw)), .second, .unset] [(.long ((Int64.ofNat (nn / pw)) % (10 : Int64)))]) := fun tt_ kk_ => r2 tt_ (by
      show Steps p.tables e below (s₁.setTop (mkF m 4 #[.val (.ref y), .val (.int (Int32.ofNat i)), .val (.long vv), .second, .val (.long (Int64.ofNat pw)), .second, .unset] [(.long (Int64.ofNat (nn / pw)))])) _
      refine X0.ldc2J hx hown (mvT hZ (hw _ (List.mem_of_getElem? (i := 203) rfl))) rfl (hb hby own_d_method_3_code_4) ?_
      show Steps p.tables e below (s₁.setTop (mkF m 7 #[.val (.ref y), .val (.int (Int32.ofNat i)), .val (.long vv), .second, .val (.long (Int64.ofNat pw)), .second, .unset] [(.long (10 : Int64)), (.long (Int64.ofNat (nn / pw)))])) _
      refine own_lrem X0 hx rfl (hb hby own_d_method_3_code_7) rfl (by decide) ?_
      show Steps p.tables e below (s₁.setTop (mkF m 8 #[.val (.ref y), .val (.int (Int32.ofNat i)), .val (.long vv), .second, .val (.long (Int64.ofNat pw)), .second, .unset] [(.long ((Int64.ofNat (nn / pw)) % (10 : Int64)))])) _
      exact kk_)
  have r4 : GoTo p.tables e below s₁ (own_F_own_dAt m y i vv pw) s₁ (mkF m 8 #[.val (.ref y), .val (.int (Int32.ofNat i)), .val (.long vv), .second, .val (.long (Int64.ofNat pw)), .second, .unset] [(.long (Int64.ofNat (nn / pw % 10)))]) := Eq.mp (congrArg (fun zz_ => GoTo p.tables e below s₁ (own_F_own_dAt m y i vv pw) s₁ (mkF m 8 #[.val (.ref y), .val (.int (Int32.ofNat i)), .val (.long vv), .second, .val (.long (Int64.ofNat pw)), .second, .unset] [(.long zz_)])) (show ((Int64.ofNat (nn / pw)) % (10 : Int64)) = (Int64.ofNat (nn / pw % 10)) from (own_lmod (k := 10) (by omega) (by decide)))) r3
  have r5 : GoTo p.tables e below s₁ (own_F_own_dAt m y i vv pw) s₁ (mkF m 9 #[.val (.ref y), .val (.int (Int32.ofNat i)), .val (.long vv), .second, .val (.long (Int64.ofNat pw)), .second, .unset] [(.int ((Int64.ofNat (nn / pw % 10)).toInt32))]) := fun tt_ kk_ => r4 tt_ (by
      show Steps p.tables e below (s₁.setTop (mkF m 8 #[.val (.ref y), .val (.int (Int32.ofNat i)), .val (.long vv), .second, .val (.long (Int64.ofNat pw)), .second, .unset] [(.long (Int64.ofNat (nn / pw % 10)))])) _
      refine XS.l2i X0.here hx rfl (hb hby own_d_method_3_code_8) rfl ?_
      show Steps p.tables e below (s₁.setTop (mkF m 9 #[.val (.ref y), .val (.int (Int32.ofNat i)), .val (.long vv), .second, .val (.long (Int64.ofNat pw)), .second, .unset] [(.int ((Int64.ofNat (nn / pw % 10)).toInt32))])) _
      exact kk_)
  have r6 : GoTo p.tables e below s₁ (own_F_own_dAt m y i vv pw) s₁ (mkF m 9 #[.val (.ref y), .val (.int (Int32.ofNat i)), .val (.long vv), .second, .val (.long (Int64.ofNat pw)), .second, .unset] [(.int (Int32.ofNat (nn / pw % 10)))]) := Eq.mp (congrArg (fun zz_ => GoTo p.tables e below s₁ (own_F_own_dAt m y i vv pw) s₁ (mkF m 9 #[.val (.ref y), .val (.int (Int32.ofNat i)), .val (.long vv), .second, .val (.long (Int64.ofNat pw)), .second, .unset] [(.int zz_)])) (show ((Int64.ofNat (nn / pw % 10)).toInt32) = (Int32.ofNat (nn / pw % 10)) from (own_l2i (by omega)))) r5
  obtain ⟨cq7, kq7, qa7, qb7, qc7⟩ := isOf hZ e0 hp0.1
  obtain ⟨_, _, ⟨T7, L7, k7, n7⟩, -, X7, ⟨Lc7, hQ7, l7, y7, z7⟩, st7⟩ := X0.virtualBack hx (y := (⟨"java/lang/String", "charAt", "(I)C"⟩ : MethodName)) (z := (⟨"java/lang/String", "charAt", "(I)C"⟩ : MethodName)) hown (mvT hZ (hw _ (List.mem_of_getElem? (i := 176) rfl))) (mvT hZ (hw _ (List.mem_of_getElem? (i := 177) rfl))) (notFace_of_selects (args := #[]) (mvT hZ (hw _ (List.mem_of_getElem? (i := 179) rfl)))) (mvT hZ (hw _ (List.mem_of_getElem? (i := 179) rfl))) (mvT hZ (hw _ (List.mem_of_getElem? (i := 178) rfl))) (by decide) (backOf (W := 0) (own_chAt l Z a0 hw [] (y) (ty) (ky) (ds) (i) (gCS) (gFM) h0 n0 (O0.keep K0 all0) (hp0) (hin) (hp6) (hG1) (hp8) (hG3)) hZ (hw _ (List.mem_of_getElem? (i := 180) rfl)) (hw _ (List.mem_of_getElem? (i := 27) rfl)) (by decide) (by decide)) qa7 qc7 (g := (mkF m 13 #[.val (.ref y), .val (.int (Int32.ofNat i)), .val (.long vv), .second, .val (.long (Int64.ofNat pw)), .second, .val (.int (Int32.ofNat (nn / pw % 10)))] [(.int (Int32.ofNat i)), (.ref y)])) rfl (by rw [hml]; rfl) (Steps.refl _) (argsL := [(.int (Int32.ofNat i))]) (rest := []) (lenOf own_pd24 rfl) rfl (by show 2 * 0 + _ ≤ _; exact Nat.le_of_eq rfl) (hb hby own_d_method_3_code_13) (fun _ _ => ⟨rfl, e0, (by decide : 0 + 0 ≤ _), (by decide : 0 + 0 ≤ _)⟩)
  dsimp only [Pt.U, Pt.locs, Pt.cells, Pt.slots] at X7 l7 y7 z7 st7 hQ7
  subst l7 y7 z7
  obtain ⟨rfl, Nq7, hh7⟩ := hQ7
  have N7 := Fr.app N0 Nq7
  have r8 : GoTo p.tables e below s₁ (own_F_own_dAt m y i vv pw) T7 (mkF m 16 #[.val (.ref y), .val (.int (Int32.ofNat i)), .val (.long vv), .second, .val (.long (Int64.ofNat pw)), .second, .val (.int (Int32.ofNat (nn / pw % 10)))] [(.int (ds.getD i 0))]) := fun tt_ kk_ => r6 tt_ (by
      show Steps p.tables e below (s₁.setTop (mkF m 9 #[.val (.ref y), .val (.int (Int32.ofNat i)), .val (.long vv), .second, .val (.long (Int64.ofNat pw)), .second, .unset] [(.int (Int32.ofNat (nn / pw % 10)))])) _
      refine XS.istore X0.here hx rfl (hb hby own_d_method_3_code_9) rfl (l' := #[.val (.ref y), .val (.int (Int32.ofNat i)), .val (.long vv), .second, .val (.long (Int64.ofNat pw)), .second, .val (.int (Int32.ofNat (nn / pw % 10)))]) rfl ?_
      show Steps p.tables e below (s₁.setTop (mkF m 11 #[.val (.ref y), .val (.int (Int32.ofNat i)), .val (.long vv), .second, .val (.long (Int64.ofNat pw)), .second, .val (.int (Int32.ofNat (nn / pw % 10)))] [])) _
      refine XS.aloadN X0.here hx rfl (hb hby own_d_method_3_code_11) rfl rfl ?_
      show Steps p.tables e below (s₁.setTop (mkF m 12 #[.val (.ref y), .val (.int (Int32.ofNat i)), .val (.long vv), .second, .val (.long (Int64.ofNat pw)), .second, .val (.int (Int32.ofNat (nn / pw % 10)))] [(.ref y)])) _
      refine XS.iloadN X0.here hx rfl (hb hby own_d_method_3_code_12) rfl ?_
      show Steps p.tables e below (s₁.setTop (mkF m 13 #[.val (.ref y), .val (.int (Int32.ofNat i)), .val (.long vv), .second, .val (.long (Int64.ofNat pw)), .second, .val (.int (Int32.ofNat (nn / pw % 10)))] [(.int (Int32.ofNat i)), (.ref y)])) _
      refine st7.trans ?_
      show Steps p.tables e below (T7.setTop (mkF m 16 #[.val (.ref y), .val (.int (Int32.ofNat i)), .val (.long vv), .second, .val (.long (Int64.ofNat pw)), .second, .val (.int (Int32.ofNat (nn / pw % 10)))] [(.int (ds.getD i 0))])) _
      exact kk_)
  have r9 : GoTo p.tables e below s₁ (own_F_own_dAt m y i vv pw) T7 (mkF m 16 #[.val (.ref y), .val (.int (Int32.ofNat i)), .val (.long vv), .second, .val (.long (Int64.ofNat pw)), .second, .val (.int (Int32.ofNat (nn / pw % 10)))] [(.int (Int32.ofNat (48 + nn / pw % 10)))]) := Eq.mp (congrArg (fun zz_ => GoTo p.tables e below s₁ (own_F_own_dAt m y i vv pw) T7 (mkF m 16 #[.val (.ref y), .val (.int (Int32.ofNat i)), .val (.long vv), .second, .val (.long (Int64.ofNat pw)), .second, .val (.int (Int32.ofNat (nn / pw % 10)))] [(.int zz_)])) (show (ds.getD i 0) = (Int32.ofNat (48 + nn / pw % 10)) from hat)) r8
  have r10 : GoTo p.tables e below s₁ (own_F_own_dAt m y i vv pw) T7 (mkF m 21 #[.val (.ref y), .val (.int (Int32.ofNat i)), .val (.long vv), .second, .val (.long (Int64.ofNat pw)), .second, .val (.int (Int32.ofNat (nn / pw % 10)))] [(.int ((48 : Int32) + (Int32.ofNat (nn / pw % 10)))), (.int (Int32.ofNat (48 + nn / pw % 10)))]) := fun tt_ kk_ => r9 tt_ (by
      show Steps p.tables e below (T7.setTop (mkF m 16 #[.val (.ref y), .val (.int (Int32.ofNat i)), .val (.long vv), .second, .val (.long (Int64.ofNat pw)), .second, .val (.int (Int32.ofNat (nn / pw % 10)))] [(.int (Int32.ofNat (48 + nn / pw % 10)))])) _
      refine XS.bipush X7.here hx rfl (hb hby own_d_method_3_code_16) ?_
      show Steps p.tables e below (T7.setTop (mkF m 18 #[.val (.ref y), .val (.int (Int32.ofNat i)), .val (.long vv), .second, .val (.long (Int64.ofNat pw)), .second, .val (.int (Int32.ofNat (nn / pw % 10)))] [(.int (48 : Int32)), (.int (Int32.ofNat (48 + nn / pw % 10)))])) _
      refine XS.iload X7.here hx rfl (hb hby own_d_method_3_code_18) rfl ?_
      show Steps p.tables e below (T7.setTop (mkF m 20 #[.val (.ref y), .val (.int (Int32.ofNat i)), .val (.long vv), .second, .val (.long (Int64.ofNat pw)), .second, .val (.int (Int32.ofNat (nn / pw % 10)))] [(.int (Int32.ofNat (nn / pw % 10))), (.int (48 : Int32)), (.int (Int32.ofNat (48 + nn / pw % 10)))])) _
      refine XS.iadd X7.here hx rfl (hb hby own_d_method_3_code_20) rfl ?_
      show Steps p.tables e below (T7.setTop (mkF m 21 #[.val (.ref y), .val (.int (Int32.ofNat i)), .val (.long vv), .second, .val (.long (Int64.ofNat pw)), .second, .val (.int (Int32.ofNat (nn / pw % 10)))] [(.int ((48 : Int32) + (Int32.ofNat (nn / pw % 10)))), (.int (Int32.ofNat (48 + nn / pw % 10)))])) _
      exact kk_)
  have r11 : GoTo p.tables e below s₁ (own_F_own_dAt m y i vv pw) T7 (mkF m 21 #[.val (.ref y), .val (.int (Int32.ofNat i)), .val (.long vv), .second, .val (.long (Int64.ofNat pw)), .second, .val (.int (Int32.ofNat (nn / pw % 10)))] [(.int (Int32.ofNat (48 + nn / pw % 10))), (.int (Int32.ofNat (48 + nn / pw % 10)))]) := Eq.mp (congrArg (fun zz_ => GoTo p.tables e below s₁ (own_F_own_dAt m y i vv pw) T7 (mkF m 21 #[.val (.ref y), .val (.int (Int32.ofNat i)), .val (.long vv), .second, .val (.long (Int64.ofNat pw)), .second, .val (.int (Int32.ofNat (nn / pw % 10)))] [(.int zz_), (.int (Int32.ofNat (48 + nn / pw % 10)))])) (show ((48 : Int32) + (Int32.ofNat (nn / pw % 10))) = (Int32.ofNat (48 + nn / pw % 10)) from (own_addN (a := 48)))) r10
  obtain ⟨fs, hr, hrun, hended, hW, hsame⟩ := X7.leave (v := some (.int (nar .boolean (1 : Int32)))) (fun h => by rw [Bd.returns] at h; cases h)
  refine ⟨_, _, r11 _ ?_, hrun, hended, _, _, rfl, ?_, ⟨_, rfl⟩, hW, hsame.mono (by decide) (by decide)⟩
  · show Steps p.tables e below (T7.setTop (mkF m 21 #[.val (.ref y), .val (.int (Int32.ofNat i)), .val (.long vv), .second, .val (.long (Int64.ofNat pw)), .second, .val (.int (Int32.ofNat (nn / pw % 10)))] [(.int (Int32.ofNat (48 + nn / pw % 10))), (.int (Int32.ofNat (48 + nn / pw % 10)))])) _
    refine XS.icmpNo X7.here hx rfl (hb hby own_d_method_3_code_21) rfl (teq rfl).2 ?_
    show Steps p.tables e below (T7.setTop (mkF m 24 #[.val (.ref y), .val (.int (Int32.ofNat i)), .val (.long vv), .second, .val (.long (Int64.ofNat pw)), .second, .val (.int (Int32.ofNat (nn / pw % 10)))] [])) _
    refine XS.iconst X7.here hx rfl (hb hby own_d_method_3_code_24) ?_
    show Steps p.tables e below (T7.setTop (mkF m 25 #[.val (.ref y), .val (.int (Int32.ofNat i)), .val (.long vv), .second, .val (.long (Int64.ofNat pw)), .second, .val (.int (Int32.ofNat (nn / pw % 10)))] [(.int (1 : Int32))])) _
    refine XS.goto X7.here hx rfl (pc0 := 25) (pc' := 29) rfl (hb hby own_d_method_3_code_25) (by decide) (by decide) ?_
    show Steps p.tables e below (T7.setTop (mkF m 29 #[.val (.ref y), .val (.int (Int32.ofNat i)), .val (.long vv), .second, .val (.long (Int64.ofNat pw)), .second, .val (.int (Int32.ofNat (nn / pw % 10)))] [(.int (1 : Int32))])) _
    exact retN X7 hx (t := .boolean) Bd.returns (by simp) (hb hby own_d_method_3_code_29) hr
  · show Q_own_dAt Z y ty ky ds i vv nn pw gCS gFM h0 n0 _ T7.heap _
    rw [hh7]
    exact ⟨rfl, N7, rfl⟩
theorem own_pn_own_fmt : plainName "com/example/uketsuke/uketsuke/store/IdFormat" = true := by first | (simp [plainName, overriddenIn]; done) | decide +kernel
theorem own_ef_own_fmt (m : MethodId) (a : Addr) (vv : Int64) : entryFrame m #[(.ref a), (.long vv)] 3 = mkF m 0 #[.val (.ref a), .val (.long vv), .second] [] := by first | (simp [entryFrame, mkF, argsToLocals, own_cI, own_cJ, own_cR, own_cN]; done) | rfl
abbrev own_F_own_fmt (m : MethodId) (a : Addr) (vv : Int64) : JFrame := entryFrame m #[(.ref a), (.long vv)] 3
def Q_own_fmt (Z : State) (a : Addr) (y : Addr) (ty : Addr) (ky : ClassId) (ds : List Int32) (vv : Int64) (nn : Nat) (cnt : Nat) (gCS : Int32) (ist : Addr) (dt1 : Addr) (dt2 : Addr) (cD1 : Cell) (cD2 : Cell) (h0 : Heap) (n0 : Nat) (v : Option Value) (h : Heap) (L : List Loc) : Prop := ∃ (x : Addr), ∃ (t : Addr), ∃ (kt : ClassId), v = some (.ref x) ∧ Fr n0 L ∧ Keep h0 h [] ∧ (h0.size ≤ x) ∧ (h0.size ≤ t) ∧ (t ≠ x) ∧ (own_Str Z h x t kt ((([] ++ ds) ++ (([] ++ List.replicate cnt (48 : Int32)) ++ own_decL nn))))
set_option maxRecDepth 65536 in
set_option maxHeartbeats 40000000 in
theorem own_fmt (l : Launch) (Z : State) (a0 : Array Value) (hw : ∀ d ∈ tables_1, d.before a0 Z = true) (ws : List Jvm.Cond) (a : Addr) (y : Addr) (ty : Addr) (ky : ClassId) (ds : List Int32) (vv : Int64) (nn : Nat) (cnt : Nat) (gCS : Int32) (ist : Addr) (dt1 : Addr) (dt2 : Addr) (cD1 : Cell) (cD2 : Cell) (h0 : Heap) (n0 : Nat) (O0 : Old Z n0 h0) (hp0 : Fld Z h0 a "com/example/uketsuke/uketsuke/store/IdFormat" "prefix" "Ljava/lang/String;" (.ref y)) (hp1 : own_Str Z h0 y ty ky ds) (hd3 : ds.length = 3) (hvn : vv.toInt = nn) (hn10 : nn ≤ 9999999999) (hcd : cnt + (Jvm.Free.SBG.digitsL nn) = 10) (hp6 : Sta Z Z.heap "java/lang/String" "COMPACT_STRINGS" "Z" (.int gCS)) (hG1 : ¬ gCS = (0 : Int32)) (hT1 : Jvm.Free.SBG.Tbl Z "DigitOnes" ist dt1 cD1) (hT2 : Jvm.Free.SBG.Tbl Z "DigitTens" ist dt2 cD2) (hO1 : Jvm.Free.SBG.Ones cD1) (hO2 : Jvm.Free.SBG.Tens cD2) (hp12 : ist < n0) (hp13 : dt1 < n0) (hp14 : dt2 < n0) (hD1 : Z.heap[dt1]? = some cD1) (hD2 : Z.heap[dt2]? = some cD2) (hEL : EW Z a0 consts_1) :
    MetFree l (⟨"com/example/uketsuke/uketsuke/store/IdFormat", "format", "(J)Ljava/lang/String;"⟩ : MethodName) (head1 (Jvm.Cond.code (⟨"com/example/uketsuke/uketsuke/store/IdFormat", "format", "(J)Ljava/lang/String;"⟩ : MethodName) prog_10_method_4_code 3 (some (.object "java/lang/String")) :: ws) ({ frames := 7, cells := 14, slots := 344, locals := 133 } : Room)) (fun aa_ U_ => aa_ = #[(.ref a), (.long vv)] ∧ Z.Warmed39 U_.vm ∧ U_.heap = h0 ∧ CHv Z consts_1 U_.vm h0) (fun _ _ _ _ _ => True) (fun _ U_ o_ V_ => ∃ v_ L_, o_ = .returned v_ ∧ Q_own_fmt Z a y ty ky ds vv nn cnt gCS ist dt1 dt2 cD1 cD2 h0 n0 v_ V_.heap L_ ∧ CHr Z consts_1 U_.vm U_.heap V_.vm V_.heap ∧ ReturnedEndW U_ o_ V_ L_ ({ frames := 7, cells := 14, slots := 344, locals := 133 } : Room).cells ({ frames := 7, cells := 14, slots := 344, locals := 133 } : Room).slots) := by
  refine MetFree.of_bodySF (plainFor_of_name own_pn_own_fmt) hisR ?_
  intro p e s m args below meth c s₁ Bd hml0 hP hK
  obtain ⟨rfl, hZ, hh, hC0⟩ := hP
  have hx := Bd.exec
  have hby := Bd.bytes
  have hml : c.maxLocals = 3 := hml0
  have hown : s.vm.findClass "com/example/uketsuke/uketsuke/store/IdFormat" = some m.cls := findClass_of_methodNamed Bd.named
  have hnm := (name_of_methodNamed Bd.named Bd.method).1
  have X0 : Stand p l e ({ frames := 7, cells := 14, slots := 344, locals := 133 } : Room) s m #[(.ref a), (.long vv)] below meth c s₁ [] 0 0 := Stand.of_body Bd
  have e0 : s₁.heap = h0 := by rw [← hh, Bd.state]; rfl
  have N0 := Fr.nil n0
  have hS0 : s.Since s.vm 0 := (State.WarmedH.refl s).since 0
  have CA0 : CHr Z consts_1 s.vm h0 s.vm h0 := CHr.refl hC0
  have KA0 : Keep h0 h0 [] := Keep.refl _ _
  have K0 : Keep h0 h0 [] := Keep.refl _ _
  have r0 : GoTo p.tables e below s₁ (own_F_own_fmt m a vv) s₁ (mkF m 0 #[.val (.ref a), .val (.long vv), .second] []) := fun tt_ kk_ => castTop (own_ef_own_fmt m a vv) kk_
  have hl0 : ([] : List Int32).length = 0 := rfl
  have hl1 : (([] : List Int32) ++ ds).length = 3 := by rw [List.nil_append, hd3]
  have hl2 := own_padLen nn cnt
  have hl3 : (((([] ++ ds) ++ (([] ++ List.replicate cnt (48 : Int32)) ++ own_decL nn))) : List Int32).length = 13 := by rw [List.length_append, hl1, hl2]; omega
  obtain ⟨T1, h1, X1, e1, E1, A1, D1, -, st1⟩ := newO X0 hx hZ hown (hw _ (List.mem_of_getElem? (i := 11) rfl)) (hw _ (List.mem_of_getElem? (i := 12) rfl)) (hw _ (List.mem_of_getElem? (i := 13) rfl)) e0 (g := (mkF m 48 #[.val (.ref a), .val (.long vv), .second] [])) rfl (hb hby own_d_prog_10_method_4_code_48) (by decide) (by decide)
  obtain ⟨b1, gg1⟩ : ∃ z, z = h0.size := ⟨_, rfl⟩
  rw [← gg1] at A1 D1 st1
  have ne2 : a ≠ b1 := Nat.ne_of_lt (Nat.lt_of_lt_of_le hp0.lt (Nat.le_of_eq gg1.symm))
  have ne3 : y ≠ b1 := Nat.ne_of_lt (Nat.lt_of_lt_of_le hp1.1.lt (Nat.le_of_eq gg1.symm))
  have ne4 : ty ≠ b1 := Nat.ne_of_lt (Nat.lt_of_lt_of_le hp1.2.2.2.1.lt (Nat.le_of_eq gg1.symm))
  have g5 : n0 ≤ b1 := Nat.le_trans (Nat.le_trans (own_le O0) K0.1) (Nat.le_of_eq gg1.symm)
  have b6 : h0.size ≤ b1 := Nat.le_trans K0.1 (Nat.le_of_eq gg1.symm)
  have K7 : Keep h0 h1 [] := K0.ext E1
  obtain ⟨_, _, ⟨T8, L8, k8, n8⟩, -, X8, ⟨Lc8, hQ8, l8, y8, z8⟩, st8⟩ := X1.specialBack hx (y := (⟨"java/lang/StringBuilder", "<init>", "()V"⟩ : MethodName)) rfl hown (mvT hZ (hw _ (List.mem_of_getElem? (i := 14) rfl))) (mvT hZ (hw _ (List.mem_of_getElem? (i := 15) rfl))) (mvT hZ (hw _ (List.mem_of_getElem? (i := 16) rfl))) (by decide) (backOf (W := 1) (own_sbinit l Z a0 hw [] (b1) (gCS) h1 n0 (O0.keep K7 all0) (A1) (g5) ((D1 (Or.inl (hw _ (List.mem_of_getElem? (i := 30) rfl))) (ty := (.array .byte)) (by decide))) ((D1 (Or.inl (hw _ (List.mem_of_getElem? (i := 32) rfl))) (ty := .byte) (by decide))) ((D1 (Or.inl (hw _ (List.mem_of_getElem? (i := 61) rfl))) (ty := .int) (by decide))) (hp6) (hG1)) hZ (hw _ (List.mem_of_getElem? (i := 16) rfl)) (hw _ (List.mem_of_getElem? (i := 13) rfl)) (by decide) (by decide)) (g := (mkF m 52 #[.val (.ref a), .val (.long vv), .second] [(.ref b1), (.ref b1)])) rfl (by rw [hml]; rfl) (Steps.refl _) (a := b1) (argsL := []) (rest := [(.ref b1)]) (lenOf own_pd20 rfl) rfl (by show 2 * 0 + _ ≤ _; exact Nat.le_of_eq rfl) (hb hby own_d_prog_10_method_4_code_52) (fun _ _ => ⟨rfl, e1, (by decide : 1 + 1 ≤ _), (by decide : 4 + 16 ≤ _)⟩)
  dsimp only [Pt.U, Pt.locs, Pt.cells, Pt.slots] at X8 l8 y8 z8 st8 hQ8
  subst l8 y8 z8
  obtain ⟨d_8, kd_8, rfl, Nq8, Kq8, po8_0, po8_1, po8_2⟩ := hQ8
  have N8 := Fr.app N0 Nq8
  have ne9 : a ≠ d_8 := Nat.ne_of_lt (Nat.lt_of_lt_of_le (Nat.lt_of_lt_of_le hp0.lt E1.1) po8_0)
  have ne10 : y ≠ d_8 := Nat.ne_of_lt (Nat.lt_of_lt_of_le (Nat.lt_of_lt_of_le hp1.1.lt E1.1) po8_0)
  have ne11 : ty ≠ d_8 := Nat.ne_of_lt (Nat.lt_of_lt_of_le (Nat.lt_of_lt_of_le hp1.2.2.2.1.lt E1.1) po8_0)
  have ne12 : b1 ≠ d_8 := Nat.ne_of_lt (Nat.lt_of_lt_of_le A1.lt po8_0)
  have g13 : n0 ≤ d_8 := Nat.le_trans (Nat.le_trans (own_le O0) K7.1) po8_0
  have b14 : h0.size ≤ d_8 := Nat.le_trans K7.1 po8_0
  have K15 : Keep h0 T8.heap [] := K7.trans Kq8 (allS (Or.inr b6) all0)
  have f16 : Fld Z T8.heap a "com/example/uketsuke/uketsuke/store/IdFormat" "prefix" "Ljava/lang/String;" (.ref y) := ((hp0.ext E1).keep Kq8 (ninS ne2 nin0))
  obtain ⟨T17, X17, e17, st17⟩ := getF X8 hx hZ hown (host := "") (Or.inl (hw _ (List.mem_of_getElem? (i := 33) rfl))) Via.refl rfl f16 (g := (mkF m 56 #[.val (.ref a), .val (.long vv), .second] [(.ref a), (.ref b1)])) rfl rfl (hb hby own_d_prog_10_method_4_code_56)
  have f18 : own_Str Z T8.heap y ty ky ds := ((hp1.ext E1).keep Kq8 (ninS ne3 nin0) (ninS ne4 nin0))
  obtain ⟨cq19, kq19, qa19, qb19, qc19⟩ := isOf hZ e17 po8_2.1
  obtain ⟨_, _, ⟨T19, L19, k19, n19⟩, -, X19, ⟨Lc19, hQ19, l19, y19, z19⟩, st19⟩ := X17.virtualBack hx (y := (⟨"java/lang/StringBuilder", "append", "(Ljava/lang/String;)Ljava/lang/StringBuilder;"⟩ : MethodName)) (z := (⟨"java/lang/StringBuilder", "append", "(Ljava/lang/String;)Ljava/lang/StringBuilder;"⟩ : MethodName)) hown (mvT hZ (hw _ (List.mem_of_getElem? (i := 35) rfl))) (mvT hZ (hw _ (List.mem_of_getElem? (i := 36) rfl))) (notFace_of_selects (args := #[]) (mvT hZ (hw _ (List.mem_of_getElem? (i := 38) rfl)))) (mvT hZ (hw _ (List.mem_of_getElem? (i := 38) rfl))) (mvT hZ (hw _ (List.mem_of_getElem? (i := 37) rfl))) (by decide) (backOf (W := 0) (own_appS l Z a0 hw [] (b1) (d_8) (kd_8) (16) (([] : List Int32)) (y) (ty) (ky) (ds) (gCS) T8.heap n0 (O0.keep K15 all0) (po8_2) (g5) (po8_1) (f18) (ne3) (ne10) (ne4) (ne11) (by decide) (by intro q; rw [hl0, hd3] at q; omega) (by decide) (hp6) (hG1)) hZ (hw _ (List.mem_of_getElem? (i := 39) rfl)) (hw _ (List.mem_of_getElem? (i := 13) rfl)) (by decide) (by decide)) qa19 qc19 (g := (mkF m 59 #[.val (.ref a), .val (.long vv), .second] [(.ref y), (.ref b1)])) rfl (by rw [hml]; rfl) (Steps.refl _) (argsL := [(.ref y)]) (rest := []) (lenOf own_pd22 rfl) rfl (by show 2 * 0 + _ ≤ _; exact Nat.le_of_eq rfl) (hb hby own_d_prog_10_method_4_code_59) (fun _ _ => ⟨rfl, e17, (by decide : 2 + 0 ≤ _), (by decide : 20 + 0 ≤ _)⟩)
  dsimp only [Pt.U, Pt.locs, Pt.cells, Pt.slots] at X19 l19 y19 z19 st19 hQ19
  subst l19 y19 z19
  obtain ⟨d2_19, k2_19, N2_19, rfl, Nq19, Kq19, po19_0, po19_1, po19_2, po19_3⟩ := hQ19
  have N19 := Fr.app N8 Nq19
  have ne20 : a ≠ d2_19 := own_orne po19_0 ne9 (Nat.lt_of_lt_of_le hp0.lt (Nat.le_trans E1.1 Kq8.1))
  have ne21 : y ≠ d2_19 := own_orne po19_0 ne10 (Nat.lt_of_lt_of_le hp1.1.lt (Nat.le_trans E1.1 Kq8.1))
  have ne22 : ty ≠ d2_19 := own_orne po19_0 ne11 (Nat.lt_of_lt_of_le hp1.2.2.2.1.lt (Nat.le_trans E1.1 Kq8.1))
  have ne23 : b1 ≠ d2_19 := own_orne po19_0 ne12 (Nat.lt_of_lt_of_le A1.lt Kq8.1)
  have g24 : n0 ≤ d2_19 := own_orle po19_0 po8_1 (Nat.le_trans (own_le O0) K15.1)
  have b25 : h0.size ≤ d2_19 := own_orle po19_0 b14 K15.1
  have K26 : Keep h0 T19.heap [] := K15.trans Kq19 (allS (Or.inr b6) (allS (Or.inr b14) all0))
  have hA := po19_3
  have r27 : GoTo p.tables e below s₁ (own_F_own_fmt m a vv) T19 (mkF m 65 #[.val (.ref a), .val (.long vv), .second] [(.int (10 : Int32)), (.long vv), (.ref b1)]) := fun tt_ kk_ => r0 tt_ (by
      show Steps p.tables e below (s₁.setTop (mkF m 0 #[.val (.ref a), .val (.long vv), .second] [])) _
      refine XS.lloadN X0.here hx rfl (hb hby own_d_prog_10_method_4_code_0) rfl ?_
      show Steps p.tables e below (s₁.setTop (mkF m 1 #[.val (.ref a), .val (.long vv), .second] [(.long vv)])) _
      refine XS.lconst X0.here hx rfl (hb hby own_d_prog_10_method_4_code_1) ?_
      show Steps p.tables e below (s₁.setTop (mkF m 2 #[.val (.ref a), .val (.long vv), .second] [(.long (0 : Int64)), (.long vv)])) _
      refine XS.lcmp X0.here hx rfl (hb hby own_d_prog_10_method_4_code_2) rfl ?_
      show Steps p.tables e below (s₁.setTop (mkF m 3 #[.val (.ref a), .val (.long vv), .second] [(.int (lcmpW vv (0 : Int64)))])) _
      refine XS.ifNo X0.here hx rfl (hb hby own_d_prog_10_method_4_code_3) rfl ((if0 _ _).trans (flt (fun q => by have q2 := (lw_lt _ _).mp q; rw [Int64.lt_iff_toInt_lt, hvn, show (0 : Int64).toInt = 0 from rfl] at q2; omega)).1) ?_
      show Steps p.tables e below (s₁.setTop (mkF m 6 #[.val (.ref a), .val (.long vv), .second] [])) _
      refine XS.lloadN X0.here hx rfl (hb hby own_d_prog_10_method_4_code_6) rfl ?_
      show Steps p.tables e below (s₁.setTop (mkF m 7 #[.val (.ref a), .val (.long vv), .second] [(.long vv)])) _
      refine X0.ldc2J hx hown (mvT hZ (hw _ (List.mem_of_getElem? (i := 10) rfl))) rfl (hb hby own_d_prog_10_method_4_code_7) ?_
      show Steps p.tables e below (s₁.setTop (mkF m 10 #[.val (.ref a), .val (.long vv), .second] [(.long (9999999999 : Int64)), (.long vv)])) _
      refine XS.lcmp X0.here hx rfl (hb hby own_d_prog_10_method_4_code_10) rfl ?_
      show Steps p.tables e below (s₁.setTop (mkF m 11 #[.val (.ref a), .val (.long vv), .second] [(.int (lcmpW vv (9999999999 : Int64)))])) _
      refine XS.ifYes X0.here hx rfl (pc0 := 11) (pc' := 48) rfl (hb hby own_d_prog_10_method_4_code_11) rfl ((if0 _ _).trans (flt (fun q => by have q2 := (lw_gt _ _).mp q; rw [Int64.lt_iff_toInt_lt, hvn, show (9999999999 : Int64).toInt = 9999999999 from by decide] at q2; omega)).2.2.2) (by decide) (by decide) ?_
      show Steps p.tables e below (s₁.setTop (mkF m 48 #[.val (.ref a), .val (.long vv), .second] [])) _
      refine st1 _ ?_
      show Steps p.tables e below (T1.setTop (mkF m 51 #[.val (.ref a), .val (.long vv), .second] [(.ref b1)])) _
      refine XS.dup X1.here hx rfl (hb hby own_d_prog_10_method_4_code_51) rfl rfl ?_
      show Steps p.tables e below (T1.setTop (mkF m 52 #[.val (.ref a), .val (.long vv), .second] [(.ref b1), (.ref b1)])) _
      refine st8.trans ?_
      show Steps p.tables e below (T8.setTop (mkF m 55 #[.val (.ref a), .val (.long vv), .second] [(.ref b1)])) _
      refine XS.aloadN X8.here hx rfl (hb hby own_d_prog_10_method_4_code_55) rfl rfl ?_
      show Steps p.tables e below (T8.setTop (mkF m 56 #[.val (.ref a), .val (.long vv), .second] [(.ref a), (.ref b1)])) _
      refine st17 _ ?_
      show Steps p.tables e below (T17.setTop (mkF m 59 #[.val (.ref a), .val (.long vv), .second] [(.ref y), (.ref b1)])) _
      refine st19.trans ?_
      show Steps p.tables e below (T19.setTop (mkF m 62 #[.val (.ref a), .val (.long vv), .second] [(.ref b1)])) _
      refine XS.lloadN X19.here hx rfl (hb hby own_d_prog_10_method_4_code_62) rfl ?_
      show Steps p.tables e below (T19.setTop (mkF m 63 #[.val (.ref a), .val (.long vv), .second] [(.long vv), (.ref b1)])) _
      refine XS.bipush X19.here hx rfl (hb hby own_d_prog_10_method_4_code_63) ?_
      show Steps p.tables e below (T19.setTop (mkF m 65 #[.val (.ref a), .val (.long vv), .second] [(.int (10 : Int32)), (.long vv), (.ref b1)])) _
      exact kk_)
  have C28 : CHr Z consts_1 s.vm h0 s.vm T19.heap := CHr.keep K26 all0 hC0
  have Sf29 : Safe Z consts_1 s.vm T19.heap b1 := Safe.keep K26 all0 hC0 (Safe.new b6)
  have lt30 : b1 < T19.heap.size := (Nat.lt_of_lt_of_le A1.lt (Nat.le_trans Kq8.1 Kq19.1))
  have Sf31 : Safe Z consts_1 s.vm T19.heap d_8 := Safe.keep K26 all0 hC0 (Safe.new b14)
  have lt32 : d_8 < T19.heap.size := (Nat.lt_of_lt_of_le po8_2.2.2.2.2.1.lt Kq19.1)
  have Sf33 : Safe Z consts_1 s.vm T19.heap d2_19 := Safe.keep K26 all0 hC0 (Safe.new b25)
  have lt34 : d2_19 < T19.heap.size := po19_2.2.2.2.2.1.lt
  obtain ⟨_, _, ⟨T35, L35, k35, n35⟩, -, X35, hSq35, hgr35, ⟨Lc35, hQ35, l35, y35, z35, CC35⟩, st35⟩ := callSS X19 hx (y := (⟨"com/example/uketsuke/uketsuke/store/IdFormat", "digits", "(JI)Ljava/lang/String;"⟩ : MethodName)) hown (mvT hZ (hw _ (List.mem_of_getElem? (i := 87) rfl))) (mvT hZ (hw _ (List.mem_of_getElem? (i := 88) rfl))) (mvT hZ (hw _ (List.mem_of_getElem? (i := 1) rfl))) (mvT hZ (hw _ (List.mem_of_getElem? (i := 89) rfl))) (by decide) (backOfSH (s := s) (vm0 := s.vm) (W := 1) (own_idg l Z a0 hw [] (vv) ((10 : Int32)) (nn) (cnt) (gCS) (ist) (dt1) (dt2) (cD1) (cD2) T19.heap n0 (O0.keep K26 all0) (hvn) (own_pad10 hcd) (by omega) (hp6) (hG1) (hT1) (hT2) (hO1) (hO2) (hp12) (hp13) (hp14) (hD1) (hD2) hEL) hZ (hw _ (List.mem_of_getElem? (i := 89) rfl)) (hw _ (List.mem_of_getElem? (i := 1) rfl)) (by decide) (by decide) hEL C28.1) (g := (mkF m 65 #[.val (.ref a), .val (.long vv), .second] [(.int (10 : Int32)), (.long vv), (.ref b1)])) rfl (by rw [hml]; rfl) (argsL := [(.long vv), (.int (10 : Int32))]) (rest := [(.ref b1)]) (lenOf own_pd25 rfl) rfl (by show 2 * 0 + _ ≤ _; exact Nat.le_of_eq rfl) (hb hby own_d_prog_10_method_4_code_65) (fun _ _ => ⟨rfl, rfl, (by decide : 2 + 10 ≤ _), (by decide : 20 + 220 ≤ _)⟩)
  dsimp only [Pt.U, Pt.locs, Pt.cells, Pt.slots] at X35 l35 y35 z35 st35 hQ35 CC35 hSq35 hgr35
  subst l35 y35 z35
  have hSn35 := foldS (s := s) (vm0 := s.vm) hS0 (Nat.le_trans (Nat.zero_le _) K26.1) hSq35 hgr35
  have X35 : Stand p l e ({ frames := 7, cells := 14, slots := 344, locals := 133 } : Room) (s.setVm T35.vm) m #[(.ref a), (.long vv)] below meth c T35 _ _ _ := X35
  have hZ : Z.Warmed39 (s.setVm T35.vm).vm := State.Warmed39.trans (t := s.setVm s.vm) hZ hSq35.1
  have hown : (s.setVm T35.vm).vm.findClass "com/example/uketsuke/uketsuke/store/IdFormat" = some m.cls := by show T35.vm.findClass _ = _; rw [hSq35.1.alike.findClass]; exact hown
  obtain ⟨x_35, t_35, kt_35, rfl, Nq35, Kq35, po35_0, po35_1, po35_2, po35_3⟩ := hQ35
  have N35 := Fr.app N19 Nq35
  have ne36 : a ≠ x_35 := Nat.ne_of_lt (Nat.lt_of_lt_of_le (Nat.lt_of_lt_of_le hp0.lt (Nat.le_trans (Nat.le_trans E1.1 Kq8.1) Kq19.1)) po35_0)
  have ne37 : y ≠ x_35 := Nat.ne_of_lt (Nat.lt_of_lt_of_le (Nat.lt_of_lt_of_le hp1.1.lt (Nat.le_trans (Nat.le_trans E1.1 Kq8.1) Kq19.1)) po35_0)
  have ne38 : ty ≠ x_35 := Nat.ne_of_lt (Nat.lt_of_lt_of_le (Nat.lt_of_lt_of_le hp1.2.2.2.1.lt (Nat.le_trans (Nat.le_trans E1.1 Kq8.1) Kq19.1)) po35_0)
  have ne39 : b1 ≠ x_35 := Nat.ne_of_lt (Nat.lt_of_lt_of_le (Nat.lt_of_lt_of_le A1.lt (Nat.le_trans Kq8.1 Kq19.1)) po35_0)
  have ne40 : d_8 ≠ x_35 := Nat.ne_of_lt (Nat.lt_of_lt_of_le (Nat.lt_of_lt_of_le po8_2.2.2.2.2.1.lt Kq19.1) po35_0)
  have ne41 : d2_19 ≠ x_35 := Nat.ne_of_lt (Nat.lt_of_lt_of_le po19_2.2.2.2.2.1.lt po35_0)
  have g42 : n0 ≤ x_35 := Nat.le_trans (Nat.le_trans (own_le O0) K26.1) po35_0
  have b43 : h0.size ≤ x_35 := Nat.le_trans K26.1 po35_0
  have ne44 : a ≠ t_35 := Nat.ne_of_lt (Nat.lt_of_lt_of_le (Nat.lt_of_lt_of_le hp0.lt (Nat.le_trans (Nat.le_trans E1.1 Kq8.1) Kq19.1)) po35_1)
  have ne45 : y ≠ t_35 := Nat.ne_of_lt (Nat.lt_of_lt_of_le (Nat.lt_of_lt_of_le hp1.1.lt (Nat.le_trans (Nat.le_trans E1.1 Kq8.1) Kq19.1)) po35_1)
  have ne46 : ty ≠ t_35 := Nat.ne_of_lt (Nat.lt_of_lt_of_le (Nat.lt_of_lt_of_le hp1.2.2.2.1.lt (Nat.le_trans (Nat.le_trans E1.1 Kq8.1) Kq19.1)) po35_1)
  have ne47 : b1 ≠ t_35 := Nat.ne_of_lt (Nat.lt_of_lt_of_le (Nat.lt_of_lt_of_le A1.lt (Nat.le_trans Kq8.1 Kq19.1)) po35_1)
  have ne48 : d_8 ≠ t_35 := Nat.ne_of_lt (Nat.lt_of_lt_of_le (Nat.lt_of_lt_of_le po8_2.2.2.2.2.1.lt Kq19.1) po35_1)
  have ne49 : d2_19 ≠ t_35 := Nat.ne_of_lt (Nat.lt_of_lt_of_le po19_2.2.2.2.2.1.lt po35_1)
  have g50 : n0 ≤ t_35 := Nat.le_trans (Nat.le_trans (own_le O0) K26.1) po35_1
  have b51 : h0.size ≤ t_35 := Nat.le_trans K26.1 po35_1
  have K52 : Keep h0 T35.heap [] := K26.trans Kq35 all0
  have bz53 : h0.size ≤ b1 := Nat.le_trans KA0.1 b6
  have bz54 : h0.size ≤ d_8 := Nat.le_trans KA0.1 b14
  have bz55 : h0.size ≤ d2_19 := Nat.le_trans KA0.1 b25
  have bz56 : h0.size ≤ x_35 := Nat.le_trans KA0.1 b43
  have bz57 : h0.size ≤ t_35 := Nat.le_trans KA0.1 b51
  have CA58 : CHr Z consts_1 s.vm h0 T35.vm T35.heap := (CA0.trans C28).trans CC35
  have KA59 : Keep h0 T35.heap [] := KA0.trans K52 all0
  have O60 : Old Z n0 T35.heap := (O0.keep K52 all0)
  have Sf61 : Safe Z consts_1 T35.vm T35.heap b1 := CHr.safe CC35 lt30 Sf29
  have Sf62 : Safe Z consts_1 T35.vm T35.heap d_8 := CHr.safe CC35 lt32 Sf31
  have Sf63 : Safe Z consts_1 T35.vm T35.heap d2_19 := CHr.safe CC35 lt34 Sf33
  have K64 : Keep T35.heap T35.heap [b1, d_8, d2_19] := Keep.refl _ _
  have f65 : own_SB Z T35.heap b1 d2_19 k2_19 N2_19 (([] : List Int32) ++ ds) := (po19_2.keep Kq35 nin0 nin0)
  have f67 : Exa Z T35.heap b1 "java/lang/StringBuilder" := (po19_2.1.keep Kq35)
  obtain ⟨cq66, kq66, qa66, qb66, qc66⟩ := isOf hZ rfl f67
  obtain ⟨_, _, ⟨T66, L66, k66, n66⟩, -, X66, ⟨Lc66, hQ66, l66, y66, z66⟩, st66⟩ := X35.virtualBack hx (y := (⟨"java/lang/StringBuilder", "append", "(Ljava/lang/String;)Ljava/lang/StringBuilder;"⟩ : MethodName)) (z := (⟨"java/lang/StringBuilder", "append", "(Ljava/lang/String;)Ljava/lang/StringBuilder;"⟩ : MethodName)) hown (mvT hZ (hw _ (List.mem_of_getElem? (i := 35) rfl))) (mvT hZ (hw _ (List.mem_of_getElem? (i := 36) rfl))) (notFace_of_selects (args := #[]) (mvT hZ (hw _ (List.mem_of_getElem? (i := 38) rfl)))) (mvT hZ (hw _ (List.mem_of_getElem? (i := 38) rfl))) (mvT hZ (hw _ (List.mem_of_getElem? (i := 37) rfl))) (by decide) (backOf (W := 0) (own_appS l Z a0 hw [] (b1) (d2_19) (k2_19) (N2_19) ((([] : List Int32) ++ ds)) (x_35) (t_35) (kt_35) ((([] ++ List.replicate cnt (48 : Int32)) ++ own_decL nn)) (gCS) T35.heap n0 (O60.keep K64 (allS g5 (allS po8_1 (allS po19_1 all0)))) (f65) (g5) (po19_1) (po35_3) ((Ne.symm ne39)) ((Ne.symm ne41)) ((Ne.symm ne47)) ((Ne.symm ne49)) (by omega) (by intro q; rw [hl1, hl2] at q; omega) (by omega) (hp6) (hG1)) hZ (hw _ (List.mem_of_getElem? (i := 39) rfl)) (hw _ (List.mem_of_getElem? (i := 13) rfl)) (by decide) (by decide)) qa66 qc66 (g := (mkF m 68 #[.val (.ref a), .val (.long vv), .second] [(.ref x_35), (.ref b1)])) rfl (by rw [hml]; rfl) (Steps.refl _) (argsL := [(.ref x_35)]) (rest := []) (lenOf own_pd22 rfl) rfl (by show 2 * 0 + _ ≤ _; exact Nat.le_of_eq rfl) (hb hby own_d_prog_10_method_4_code_68) (fun _ _ => ⟨rfl, rfl, (by decide : 12 + 0 ≤ _), (by decide : 240 + 0 ≤ _)⟩)
  dsimp only [Pt.U, Pt.locs, Pt.cells, Pt.slots] at X66 l66 y66 z66 st66 hQ66
  subst l66 y66 z66
  obtain ⟨d2_66, k2_66, N2_66, rfl, Nq66, Kq66, po66_0, po66_1, po66_2, po66_3⟩ := hQ66
  have N66 := Fr.app N35 Nq66
  have ne68 : a ≠ d2_66 := own_orne po66_0 ne20 (Nat.lt_of_lt_of_le hp0.lt (Nat.le_trans (Nat.le_trans (Nat.le_trans E1.1 Kq8.1) Kq19.1) Kq35.1))
  have ne69 : y ≠ d2_66 := own_orne po66_0 ne21 (Nat.lt_of_lt_of_le hp1.1.lt (Nat.le_trans (Nat.le_trans (Nat.le_trans E1.1 Kq8.1) Kq19.1) Kq35.1))
  have ne70 : ty ≠ d2_66 := own_orne po66_0 ne22 (Nat.lt_of_lt_of_le hp1.2.2.2.1.lt (Nat.le_trans (Nat.le_trans (Nat.le_trans E1.1 Kq8.1) Kq19.1) Kq35.1))
  have ne71 : b1 ≠ d2_66 := own_orne po66_0 ne23 (Nat.lt_of_lt_of_le A1.lt (Nat.le_trans (Nat.le_trans Kq8.1 Kq19.1) Kq35.1))
  have ne72 : x_35 ≠ d2_66 := own_orne po66_0 (Ne.symm ne41) po35_3.1.lt
  have ne73 : t_35 ≠ d2_66 := own_orne po66_0 (Ne.symm ne49) po35_3.2.2.2.1.lt
  have g74 : n0 ≤ d2_66 := own_orle po66_0 po19_1 (Nat.le_trans (own_le O60) K64.1)
  have K75 : Keep T35.heap T66.heap [b1, d_8, d2_19] := K64.trans Kq66 (allS (Or.inl (List.mem_of_getElem? (i := 0) rfl)) (allS (Or.inl (List.mem_of_getElem? (i := 2) rfl)) all0))
  have hB := po66_3
  obtain ⟨cq76, kq76, qa76, qb76, qc76⟩ := isOf hZ rfl po66_2.1
  obtain ⟨_, _, ⟨T76, L76, k76, n76⟩, -, X76, ⟨Lc76, hQ76, l76, y76, z76⟩, st76⟩ := X66.virtualBack hx (y := (⟨"java/lang/StringBuilder", "toString", "()Ljava/lang/String;"⟩ : MethodName)) (z := (⟨"java/lang/StringBuilder", "toString", "()Ljava/lang/String;"⟩ : MethodName)) hown (mvT hZ (hw _ (List.mem_of_getElem? (i := 132) rfl))) (mvT hZ (hw _ (List.mem_of_getElem? (i := 133) rfl))) (notFace_of_selects (args := #[]) (mvT hZ (hw _ (List.mem_of_getElem? (i := 135) rfl)))) (mvT hZ (hw _ (List.mem_of_getElem? (i := 135) rfl))) (mvT hZ (hw _ (List.mem_of_getElem? (i := 134) rfl))) (by decide) (backOf (W := 0) (own_toStr l Z a0 hw [] (b1) (d2_66) (k2_66) (N2_66) (((([] : List Int32) ++ ds) ++ (([] ++ List.replicate cnt (48 : Int32)) ++ own_decL nn))) (gCS) T66.heap n0 (O60.keep K75 (allS g5 (allS po8_1 (allS po19_1 all0)))) (po66_2) (by rw [hl3]; omega) (by rw [hl3]; omega) (hp6) (hG1)) hZ (hw _ (List.mem_of_getElem? (i := 136) rfl)) (hw _ (List.mem_of_getElem? (i := 13) rfl)) (by decide) (by decide)) qa76 qc76 (g := (mkF m 71 #[.val (.ref a), .val (.long vv), .second] [(.ref b1)])) rfl (by rw [hml]; rfl) (Steps.refl _) (argsL := []) (rest := []) (lenOf own_pd23 rfl) rfl (by show 2 * 0 + _ ≤ _; exact Nat.le_of_eq rfl) (hb hby own_d_prog_10_method_4_code_71) (fun _ _ => ⟨rfl, rfl, (by decide : 12 + 2 ≤ _), (by decide : 240 + 104 ≤ _)⟩)
  dsimp only [Pt.U, Pt.locs, Pt.cells, Pt.slots] at X76 l76 y76 z76 st76 hQ76
  subst l76 y76 z76
  obtain ⟨x_76, t_76, kt_76, rfl, Nq76, Kq76, po76_0, po76_1, po76_2, po76_3⟩ := hQ76
  have N76 := Fr.app N66 Nq76
  have ne77 : a ≠ x_76 := Nat.ne_of_lt (Nat.lt_of_lt_of_le (Nat.lt_of_lt_of_le hp0.lt (Nat.le_trans (Nat.le_trans (Nat.le_trans (Nat.le_trans E1.1 Kq8.1) Kq19.1) Kq35.1) Kq66.1)) po76_0)
  have ne78 : y ≠ x_76 := Nat.ne_of_lt (Nat.lt_of_lt_of_le (Nat.lt_of_lt_of_le hp1.1.lt (Nat.le_trans (Nat.le_trans (Nat.le_trans (Nat.le_trans E1.1 Kq8.1) Kq19.1) Kq35.1) Kq66.1)) po76_0)
  have ne79 : ty ≠ x_76 := Nat.ne_of_lt (Nat.lt_of_lt_of_le (Nat.lt_of_lt_of_le hp1.2.2.2.1.lt (Nat.le_trans (Nat.le_trans (Nat.le_trans (Nat.le_trans E1.1 Kq8.1) Kq19.1) Kq35.1) Kq66.1)) po76_0)
  have ne80 : b1 ≠ x_76 := Nat.ne_of_lt (Nat.lt_of_lt_of_le (Nat.lt_of_lt_of_le A1.lt (Nat.le_trans (Nat.le_trans (Nat.le_trans Kq8.1 Kq19.1) Kq35.1) Kq66.1)) po76_0)
  have ne81 : d_8 ≠ x_76 := Nat.ne_of_lt (Nat.lt_of_lt_of_le (Nat.lt_of_lt_of_le po8_2.2.2.2.2.1.lt (Nat.le_trans (Nat.le_trans Kq19.1 Kq35.1) Kq66.1)) po76_0)
  have ne82 : d2_19 ≠ x_76 := Nat.ne_of_lt (Nat.lt_of_lt_of_le (Nat.lt_of_lt_of_le po19_2.2.2.2.2.1.lt (Nat.le_trans Kq35.1 Kq66.1)) po76_0)
  have ne83 : x_35 ≠ x_76 := Nat.ne_of_lt (Nat.lt_of_lt_of_le (Nat.lt_of_lt_of_le po35_3.1.lt Kq66.1) po76_0)
  have ne84 : t_35 ≠ x_76 := Nat.ne_of_lt (Nat.lt_of_lt_of_le (Nat.lt_of_lt_of_le po35_3.2.2.2.1.lt Kq66.1) po76_0)
  have ne85 : d2_66 ≠ x_76 := Nat.ne_of_lt (Nat.lt_of_lt_of_le po66_2.2.2.2.2.1.lt po76_0)
  have g86 : n0 ≤ x_76 := Nat.le_trans (Nat.le_trans (own_le O60) K75.1) po76_0
  have b87 : T35.heap.size ≤ x_76 := Nat.le_trans K75.1 po76_0
  have ne88 : a ≠ t_76 := Nat.ne_of_lt (Nat.lt_of_lt_of_le (Nat.lt_of_lt_of_le hp0.lt (Nat.le_trans (Nat.le_trans (Nat.le_trans (Nat.le_trans E1.1 Kq8.1) Kq19.1) Kq35.1) Kq66.1)) po76_1)
  have ne89 : y ≠ t_76 := Nat.ne_of_lt (Nat.lt_of_lt_of_le (Nat.lt_of_lt_of_le hp1.1.lt (Nat.le_trans (Nat.le_trans (Nat.le_trans (Nat.le_trans E1.1 Kq8.1) Kq19.1) Kq35.1) Kq66.1)) po76_1)
  have ne90 : ty ≠ t_76 := Nat.ne_of_lt (Nat.lt_of_lt_of_le (Nat.lt_of_lt_of_le hp1.2.2.2.1.lt (Nat.le_trans (Nat.le_trans (Nat.le_trans (Nat.le_trans E1.1 Kq8.1) Kq19.1) Kq35.1) Kq66.1)) po76_1)
  have ne91 : b1 ≠ t_76 := Nat.ne_of_lt (Nat.lt_of_lt_of_le (Nat.lt_of_lt_of_le A1.lt (Nat.le_trans (Nat.le_trans (Nat.le_trans Kq8.1 Kq19.1) Kq35.1) Kq66.1)) po76_1)
  have ne92 : d_8 ≠ t_76 := Nat.ne_of_lt (Nat.lt_of_lt_of_le (Nat.lt_of_lt_of_le po8_2.2.2.2.2.1.lt (Nat.le_trans (Nat.le_trans Kq19.1 Kq35.1) Kq66.1)) po76_1)
  have ne93 : d2_19 ≠ t_76 := Nat.ne_of_lt (Nat.lt_of_lt_of_le (Nat.lt_of_lt_of_le po19_2.2.2.2.2.1.lt (Nat.le_trans Kq35.1 Kq66.1)) po76_1)
  have ne94 : x_35 ≠ t_76 := Nat.ne_of_lt (Nat.lt_of_lt_of_le (Nat.lt_of_lt_of_le po35_3.1.lt Kq66.1) po76_1)
  have ne95 : t_35 ≠ t_76 := Nat.ne_of_lt (Nat.lt_of_lt_of_le (Nat.lt_of_lt_of_le po35_3.2.2.2.1.lt Kq66.1) po76_1)
  have ne96 : d2_66 ≠ t_76 := Nat.ne_of_lt (Nat.lt_of_lt_of_le po66_2.2.2.2.2.1.lt po76_1)
  have g97 : n0 ≤ t_76 := Nat.le_trans (Nat.le_trans (own_le O60) K75.1) po76_1
  have b98 : T35.heap.size ≤ t_76 := Nat.le_trans K75.1 po76_1
  have K99 : Keep T35.heap T76.heap [b1, d_8, d2_19] := K75.trans Kq76 all0
  have C100 : CHr Z consts_1 T35.vm T35.heap T35.vm T76.heap := CHr.keep K99 (allS Sf61 (allS Sf62 (allS Sf63 all0))) CC35.1
  have CAe : CHr Z consts_1 s.vm h0 T35.vm T76.heap := CA58.trans C100
  have CAf : CHr Z consts_1 s.vm h0 T76.vm T76.heap := CAe.trans (CHv.at (s := s) (vm0 := T35.vm) X76 hZ hEL CAe.1)
  obtain ⟨fs, hr, hrun, hended, hRW⟩ := Stand.leaveW (s := s) (vm₁ := T35.vm) X76 hSn35 (Nat.le_trans (Nat.le_refl _) K99.1) (v := some (.ref x_76)) (fun h => by rw [Bd.returns] at h; cases h)
  refine ⟨_, _, r27 _ ?_, hrun, hended, _, _, rfl, ?_, (by show CHr Z consts_1 s.vm s.heap T76.vm T76.heap; rw [hh]; exact CAf), ⟨hRW.1, hRW.2.1, hRW.2.2.1, hRW.2.2.2.mono (by decide) (by decide)⟩⟩
  · show Steps p.tables e below (T19.setTop (mkF m 65 #[.val (.ref a), .val (.long vv), .second] [(.int (10 : Int32)), (.long vv), (.ref b1)])) _
    refine st35.trans ?_
    show Steps p.tables e below (T35.setTop (mkF m 68 #[.val (.ref a), .val (.long vv), .second] [(.ref x_35), (.ref b1)])) _
    refine st66.trans ?_
    show Steps p.tables e below (T66.setTop (mkF m 71 #[.val (.ref a), .val (.long vv), .second] [(.ref b1)])) _
    refine st76.trans ?_
    show Steps p.tables e below (T76.setTop (mkF m 74 #[.val (.ref a), .val (.long vv), .second] [(.ref x_76)])) _
    exact retOut X76 hx (t := (.object "java/lang/String")) Bd.returns rfl (Or.inr (Or.inr (Or.inr (Or.inr ⟨rfl, rfl, rfl⟩)))) (hb hby own_d_prog_10_method_4_code_74) hr
  · show Q_own_fmt Z a y ty ky ds vv nn cnt gCS ist dt1 dt2 cD1 cD2 h0 n0 _ T76.heap _
    exact ⟨x_76, t_76, kt_76, rfl, N76, (KA59.trans K99 (allS (Or.inr bz53) (allS (Or.inr bz54) (allS (Or.inr bz55) all0)))), (Nat.le_trans KA59.1 b87), (Nat.le_trans KA59.1 b98), po76_2, po76_3⟩
theorem own_pn_own_law : plainName "com/example/uketsuke/uketsuke/store/IdFormatFormatPinLaw" = true := by first | (simp [plainName, overriddenIn]; done) | decide +kernel
theorem own_ef_own_law (m : MethodId) (i0 : Int32) (lq1 : Int64) : entryFrame m #[(.int i0), (.long lq1)] maxLocals = mkF m 0 #[.val (.int i0), .val (.long lq1), .second, .unset, .unset, .unset, .unset, .unset, .unset] [] := by first | (simp [entryFrame, mkF, argsToLocals, own_cI, own_cJ, own_cR, own_cN, maxLocals]; done) | rfl
abbrev own_F_own_law (m : MethodId) (i0 : Int32) (lq1 : Int64) : JFrame := entryFrame m #[(.int i0), (.long lq1)] maxLocals
def Q_own_law (Z : State) (i0 : Int32) (lq1 : Int64) (u0 : Addr) (yy0 : Addr) (tyy0 : Addr) (kyy0 : ClassId) (u1 : Addr) (yy1 : Addr) (tyy1 : Addr) (kyy1 : ClassId) (gCS : Int32) (gFM : Value) (ist : Addr) (dt1 : Addr) (dt2 : Addr) (cD1 : Cell) (cD2 : Cell) (h0 : Heap) (n0 : Nat) (v : Option Value) (h : Heap) (L : List Loc) : Prop := v = some (.int (1 : Int32)) ∧ Fr n0 L
set_option maxRecDepth 65536 in
set_option maxHeartbeats 40000000 in
theorem own_law (l : Launch) (Z : State) (a0 : Array Value) (hw : ∀ d ∈ tables_1, d.before a0 Z = true) (ws : List Jvm.Cond) (i0 : Int32) (lq1 : Int64) (u0 : Addr) (yy0 : Addr) (tyy0 : Addr) (kyy0 : ClassId) (u1 : Addr) (yy1 : Addr) (tyy1 : Addr) (kyy1 : ClassId) (gCS : Int32) (gFM : Value) (ist : Addr) (dt1 : Addr) (dt2 : Addr) (cD1 : Cell) (cD2 : Cell) (h0 : Heap) (n0 : Nat) (O0 : Old Z n0 h0) (hp0 : Sta Z Z.heap "com/example/uketsuke/uketsuke/store/IdFormat" "JOB" "Lcom/example/uketsuke/uketsuke/store/IdFormat;" (.ref u0)) (hp1 : Exa Z h0 u0 "com/example/uketsuke/uketsuke/store/IdFormat") (hp2 : Fld Z h0 u0 "com/example/uketsuke/uketsuke/store/IdFormat" "prefix" "Ljava/lang/String;" (.ref yy0)) (hp3 : own_Str Z h0 yy0 tyy0 kyy0 ([106, 105, 100] : List Int32)) (hp4 : Sta Z Z.heap "com/example/uketsuke/uketsuke/store/IdFormat" "BATCH" "Lcom/example/uketsuke/uketsuke/store/IdFormat;" (.ref u1)) (hp5 : Exa Z h0 u1 "com/example/uketsuke/uketsuke/store/IdFormat") (hp6 : Fld Z h0 u1 "com/example/uketsuke/uketsuke/store/IdFormat" "prefix" "Ljava/lang/String;" (.ref yy1)) (hp7 : own_Str Z h0 yy1 tyy1 kyy1 ([98, 105, 100] : List Int32)) (hp8 : Sta Z Z.heap "java/lang/String" "COMPACT_STRINGS" "Z" (.int gCS)) (hG1 : ¬ gCS = (0 : Int32)) (hp10 : Sta Z Z.heap "jdk/internal/util/Preconditions" "SIOOBE_FORMATTER" "Ljava/util/function/BiFunction;" gFM) (hG3 : gFM.isRef = true) (hT1 : Jvm.Free.SBG.Tbl Z "DigitOnes" ist dt1 cD1) (hT2 : Jvm.Free.SBG.Tbl Z "DigitTens" ist dt2 cD2) (hO1 : Jvm.Free.SBG.Ones cD1) (hO2 : Jvm.Free.SBG.Tens cD2) (hp16 : ist < n0) (hp17 : dt1 < n0) (hp18 : dt2 < n0) (hD1 : Z.heap[dt1]? = some cD1) (hD2 : Z.heap[dt2]? = some cD2) (hEL : EW Z a0 consts_1) :
    MetFree l x (head1 (Jvm.Cond.code x code maxLocals ret :: ws) room_1) (fun aa_ U_ => aa_ = #[(.int i0), (.long lq1)] ∧ Z.Warmed39 U_.vm ∧ U_.heap = h0 ∧ CHv Z consts_1 U_.vm h0) (fun _ _ _ _ _ => True) (fun _ U_ o_ V_ => ∃ v_ L_, o_ = .returned v_ ∧ Q_own_law Z i0 lq1 u0 yy0 tyy0 kyy0 u1 yy1 tyy1 kyy1 gCS gFM ist dt1 dt2 cD1 cD2 h0 n0 v_ V_.heap L_ ∧ ReturnedEndW U_ o_ V_ L_ room_1.cells room_1.slots) := by
  refine MetFree.of_bodySF (plainFor_of_name own_pn_own_law) hisR ?_
  intro p e s m args below meth c s₁ Bd hml0 hP hK
  obtain ⟨rfl, hZ, hh, hC0⟩ := hP
  have hx := Bd.exec
  have hby := Bd.bytes
  have hml : c.maxLocals = 9 := hml0
  have hown : s.vm.findClass "com/example/uketsuke/uketsuke/store/IdFormatFormatPinLaw" = some m.cls := findClass_of_methodNamed Bd.named
  have hnm := (name_of_methodNamed Bd.named Bd.method).1
  have X0 : Stand p l e room_1 s m #[(.int i0), (.long lq1)] below meth c s₁ [] 0 0 := Stand.of_body Bd
  have e0 : s₁.heap = h0 := by rw [← hh, Bd.state]; rfl
  have N0 := Fr.nil n0
  have hS0 : s.Since s.vm 0 := (State.WarmedH.refl s).since 0
  have CA0 : CHr Z consts_1 s.vm h0 s.vm h0 := CHr.refl hC0
  have KA0 : Keep h0 h0 [] := Keep.refl _ _
  have K0 : Keep h0 h0 [] := Keep.refl _ _
  have r0 : GoTo p.tables e below s₁ (own_F_own_law m i0 lq1) s₁ (mkF m 0 #[.val (.int i0), .val (.long lq1), .second, .unset, .unset, .unset, .unset, .unset, .unset] []) := fun tt_ kk_ => castTop (own_ef_own_law m i0 lq1) kk_
  have r1 : GoTo p.tables e below s₁ (own_F_own_law m i0 lq1) s₁ (mkF m 3 #[.val (.int i0), .val (.long lq1), .second, .unset, .unset, .unset, .unset, .unset, .unset] [(.int (i0 &&& (1 : Int32)))]) := fun tt_ kk_ => r0 tt_ (by
      show Steps p.tables e below (s₁.setTop (mkF m 0 #[.val (.int i0), .val (.long lq1), .second, .unset, .unset, .unset, .unset, .unset, .unset] [])) _
      refine XS.iloadN X0.here hx rfl (hb hby at_0) rfl ?_
      show Steps p.tables e below (s₁.setTop (mkF m 1 #[.val (.int i0), .val (.long lq1), .second, .unset, .unset, .unset, .unset, .unset, .unset] [(.int i0)])) _
      refine XS.iconst X0.here hx rfl (hb hby at_1) ?_
      show Steps p.tables e below (s₁.setTop (mkF m 2 #[.val (.int i0), .val (.long lq1), .second, .unset, .unset, .unset, .unset, .unset, .unset] [(.int (1 : Int32)), (.int i0)])) _
      refine XS.iand X0.here hx rfl (hb hby at_2) rfl ?_
      show Steps p.tables e below (s₁.setTop (mkF m 3 #[.val (.int i0), .val (.long lq1), .second, .unset, .unset, .unset, .unset, .unset, .unset] [(.int (i0 &&& (1 : Int32)))])) _
      exact kk_)
  by_cases hc2 : (i0 &&& (1 : Int32)) = (0 : Int32)
  · obtain ⟨T3, X3, e3, st3⟩ := getS2 X0 hx hZ hown (host := "") (Or.inl (hw _ (List.mem_of_getElem? (i := 0) rfl))) Via.refl e0 (hp4.ext (O0.keep K0 all0).2) (g := (mkF m 22 #[.val (.int i0), .val (.long lq1), .second, .val (.int (0 : Int32)), .unset, .unset, .unset, .unset, .unset] [])) rfl (hb hby at_22)
    have r4 : GoTo p.tables e below s₁ (own_F_own_law m i0 lq1) T3 (mkF m 36 #[.val (.int i0), .val (.long lq1), .second, .val (.int (0 : Int32)), .val (.ref u1), .unset, .unset, .unset, .unset] [(.long ((lq1 &&& (9223372036854775807 : Int64)) % (10000000000 : Int64)))]) := fun tt_ kk_ => r1 tt_ (by
        show Steps p.tables e below (s₁.setTop (mkF m 3 #[.val (.int i0), .val (.long lq1), .second, .unset, .unset, .unset, .unset, .unset, .unset] [(.int (i0 &&& (1 : Int32)))])) _
        refine XS.ifYes X0.here hx rfl (pc0 := 3) (pc' := 10) rfl (hb hby at_3) rfl ((if0 _ _).trans (teq hc2).1) (by decide) (by decide) ?_
        show Steps p.tables e below (s₁.setTop (mkF m 10 #[.val (.int i0), .val (.long lq1), .second, .unset, .unset, .unset, .unset, .unset, .unset] [])) _
        refine XS.iconst X0.here hx rfl (hb hby at_10) ?_
        show Steps p.tables e below (s₁.setTop (mkF m 11 #[.val (.int i0), .val (.long lq1), .second, .unset, .unset, .unset, .unset, .unset, .unset] [(.int (0 : Int32))])) _
        refine XS.istoreN X0.here hx rfl (hb hby at_11) rfl (l' := #[.val (.int i0), .val (.long lq1), .second, .val (.int (0 : Int32)), .unset, .unset, .unset, .unset, .unset]) rfl ?_
        show Steps p.tables e below (s₁.setTop (mkF m 12 #[.val (.int i0), .val (.long lq1), .second, .val (.int (0 : Int32)), .unset, .unset, .unset, .unset, .unset] [])) _
        refine XS.iloadN X0.here hx rfl (hb hby at_12) rfl ?_
        show Steps p.tables e below (s₁.setTop (mkF m 13 #[.val (.int i0), .val (.long lq1), .second, .val (.int (0 : Int32)), .unset, .unset, .unset, .unset, .unset] [(.int (0 : Int32))])) _
        refine XS.ifYes X0.here hx rfl (pc0 := 13) (pc' := 22) rfl (hb hby at_13) rfl ((if0 _ _).trans (teq rfl).1) (by decide) (by decide) ?_
        show Steps p.tables e below (s₁.setTop (mkF m 22 #[.val (.int i0), .val (.long lq1), .second, .val (.int (0 : Int32)), .unset, .unset, .unset, .unset, .unset] [])) _
        refine st3 _ ?_
        show Steps p.tables e below (T3.setTop (mkF m 25 #[.val (.int i0), .val (.long lq1), .second, .val (.int (0 : Int32)), .unset, .unset, .unset, .unset, .unset] [(.ref u1)])) _
        refine XS.astore X3.here hx rfl (hb hby at_25) rfl rfl (l' := #[.val (.int i0), .val (.long lq1), .second, .val (.int (0 : Int32)), .val (.ref u1), .unset, .unset, .unset, .unset]) rfl ?_
        show Steps p.tables e below (T3.setTop (mkF m 27 #[.val (.int i0), .val (.long lq1), .second, .val (.int (0 : Int32)), .val (.ref u1), .unset, .unset, .unset, .unset] [])) _
        refine XS.lloadN X3.here hx rfl (hb hby at_27) rfl ?_
        show Steps p.tables e below (T3.setTop (mkF m 28 #[.val (.int i0), .val (.long lq1), .second, .val (.int (0 : Int32)), .val (.ref u1), .unset, .unset, .unset, .unset] [(.long lq1)])) _
        refine X3.ldc2J hx hown (mvT hZ (hw _ (List.mem_of_getElem? (i := 3) rfl))) rfl (hb hby at_28) ?_
        show Steps p.tables e below (T3.setTop (mkF m 31 #[.val (.int i0), .val (.long lq1), .second, .val (.int (0 : Int32)), .val (.ref u1), .unset, .unset, .unset, .unset] [(.long (9223372036854775807 : Int64)), (.long lq1)])) _
        refine XS.land X3.here hx rfl (hb hby at_31) rfl ?_
        show Steps p.tables e below (T3.setTop (mkF m 32 #[.val (.int i0), .val (.long lq1), .second, .val (.int (0 : Int32)), .val (.ref u1), .unset, .unset, .unset, .unset] [(.long (lq1 &&& (9223372036854775807 : Int64)))])) _
        refine X3.ldc2J hx hown (mvT hZ (hw _ (List.mem_of_getElem? (i := 4) rfl))) rfl (hb hby at_32) ?_
        show Steps p.tables e below (T3.setTop (mkF m 35 #[.val (.int i0), .val (.long lq1), .second, .val (.int (0 : Int32)), .val (.ref u1), .unset, .unset, .unset, .unset] [(.long (10000000000 : Int64)), (.long (lq1 &&& (9223372036854775807 : Int64)))])) _
        refine own_lrem X3 hx rfl (hb hby at_35) rfl (by decide) ?_
        show Steps p.tables e below (T3.setTop (mkF m 36 #[.val (.int i0), .val (.long lq1), .second, .val (.int (0 : Int32)), .val (.ref u1), .unset, .unset, .unset, .unset] [(.long ((lq1 &&& (9223372036854775807 : Int64)) % (10000000000 : Int64)))])) _
        exact kk_)
    obtain ⟨vv, h_vv⟩ : ∃ z : Int64, z = ((lq1 &&& (9223372036854775807 : Int64)) % (10000000000 : Int64)) := ⟨_, rfl⟩
    have r5 : GoTo p.tables e below s₁ (own_F_own_law m i0 lq1) T3 (mkF m 36 #[.val (.int i0), .val (.long lq1), .second, .val (.int (0 : Int32)), .val (.ref u1), .unset, .unset, .unset, .unset] [(.long vv)]) := by rw [h_vv]; exact r4
    obtain ⟨nn, hvn, hn10⟩ : ∃ n : Nat, vv.toInt = n ∧ n ≤ 9999999999 := by rw [h_vv]; exact own_val10 lq1
    obtain ⟨cnt, hcd⟩ := own_d10 hn10
    have r6 : GoTo p.tables e below s₁ (own_F_own_law m i0 lq1) T3 (mkF m 42 #[.val (.int i0), .val (.long lq1), .second, .val (.int (0 : Int32)), .val (.ref u1), .val (.long vv), .second, .unset, .unset] [(.long vv), (.ref u1)]) := fun tt_ kk_ => r5 tt_ (by
        show Steps p.tables e below (T3.setTop (mkF m 36 #[.val (.int i0), .val (.long lq1), .second, .val (.int (0 : Int32)), .val (.ref u1), .unset, .unset, .unset, .unset] [(.long vv)])) _
        refine XS.lstore X3.here hx rfl (hb hby at_36) rfl (l' := #[.val (.int i0), .val (.long lq1), .second, .val (.int (0 : Int32)), .val (.ref u1), .val (.long vv), .second, .unset, .unset]) rfl ?_
        show Steps p.tables e below (T3.setTop (mkF m 38 #[.val (.int i0), .val (.long lq1), .second, .val (.int (0 : Int32)), .val (.ref u1), .val (.long vv), .second, .unset, .unset] [])) _
        refine XS.aload X3.here hx rfl (hb hby at_38) rfl rfl ?_
        show Steps p.tables e below (T3.setTop (mkF m 40 #[.val (.int i0), .val (.long lq1), .second, .val (.int (0 : Int32)), .val (.ref u1), .val (.long vv), .second, .unset, .unset] [(.ref u1)])) _
        refine XS.lload X3.here hx rfl (hb hby at_40) rfl ?_
        show Steps p.tables e below (T3.setTop (mkF m 42 #[.val (.int i0), .val (.long lq1), .second, .val (.int (0 : Int32)), .val (.ref u1), .val (.long vv), .second, .unset, .unset] [(.long vv), (.ref u1)])) _
        exact kk_)
    have C7 : CHr Z consts_1 s.vm h0 s.vm h0 := CHr.keep K0 all0 hC0
    obtain ⟨cq8, kq8, qa8, qb8, qc8⟩ := isOf hZ e3 hp5
    obtain ⟨_, _, ⟨T8, L8, k8, n8⟩, -, X8, hSq8, hgr8, ⟨Lc8, hQ8, l8, y8, z8, CC8⟩, st8⟩ := X3.virtualBackS hx (y := (⟨"com/example/uketsuke/uketsuke/store/IdFormat", "format", "(J)Ljava/lang/String;"⟩ : MethodName)) (z := (⟨"com/example/uketsuke/uketsuke/store/IdFormat", "format", "(J)Ljava/lang/String;"⟩ : MethodName)) hown (mvT hZ (hw _ (List.mem_of_getElem? (i := 5) rfl))) (mvT hZ (hw _ (List.mem_of_getElem? (i := 6) rfl))) (notFace_of_selects (args := #[]) (mvT hZ (hw _ (List.mem_of_getElem? (i := 8) rfl)))) (mvT hZ (hw _ (List.mem_of_getElem? (i := 8) rfl))) (mvT hZ (hw _ (List.mem_of_getElem? (i := 7) rfl))) (by decide) (backOfSH (s := s) (vm0 := s.vm) (W := 0) (own_fmt l Z a0 hw [] (u1) (yy1) (tyy1) (kyy1) (([98, 105, 100] : List Int32)) (vv) (nn) (cnt) (gCS) (ist) (dt1) (dt2) (cD1) (cD2) h0 n0 (O0.keep K0 all0) (hp6) (hp7) (rfl) (hvn) (hn10) (hcd) (hp8) (hG1) (hT1) (hT2) (hO1) (hO2) (hp16) (hp17) (hp18) (hD1) (hD2) hEL) hZ (hw _ (List.mem_of_getElem? (i := 9) rfl)) (hw _ (List.mem_of_getElem? (i := 1) rfl)) (by decide) (by decide) hEL C7.1) qa8 qc8 (g := (mkF m 42 #[.val (.int i0), .val (.long lq1), .second, .val (.int (0 : Int32)), .val (.ref u1), .val (.long vv), .second, .unset, .unset] [(.long vv), (.ref u1)])) rfl (by rw [hml]; rfl) (Steps.refl _) (argsL := [(.long vv)]) (rest := []) (lenOf own_pd19 rfl) rfl (by show 2 * 0 + _ ≤ _; exact Nat.le_of_eq rfl) (hb hby at_42) (fun _ _ => ⟨rfl, e3, (by decide : 0 + 14 ≤ _), (by decide : 0 + 344 ≤ _)⟩)
    dsimp only [Pt.U, Pt.locs, Pt.cells, Pt.slots] at X8 l8 y8 z8 st8 hQ8 CC8 hSq8 hgr8
    subst l8 y8 z8
    have hSn8 := foldS (s := s) (vm0 := s.vm) hS0 (by rw [e3]; exact (Nat.le_trans (Nat.zero_le _) K0.1)) hSq8 hgr8
    have X8 : Stand p l e room_1 (s.setVm T8.vm) m #[(.int i0), (.long lq1)] below meth c T8 _ _ _ := X8
    have hZ : Z.Warmed39 (s.setVm T8.vm).vm := State.Warmed39.trans (t := s.setVm s.vm) hZ hSq8.1
    have hown : (s.setVm T8.vm).vm.findClass "com/example/uketsuke/uketsuke/store/IdFormatFormatPinLaw" = some m.cls := by show T8.vm.findClass _ = _; rw [hSq8.1.alike.findClass]; exact hown
    obtain ⟨x_8, t_8, kt_8, rfl, Nq8, Kq8, po8_0, po8_1, po8_2, po8_3⟩ := hQ8
    have N8 := Fr.app N0 Nq8
    have ne9 : u0 ≠ x_8 := Nat.ne_of_lt (Nat.lt_of_lt_of_le hp1.lt po8_0)
    have ne10 : yy0 ≠ x_8 := Nat.ne_of_lt (Nat.lt_of_lt_of_le hp3.1.lt po8_0)
    have ne11 : tyy0 ≠ x_8 := Nat.ne_of_lt (Nat.lt_of_lt_of_le hp3.2.2.2.1.lt po8_0)
    have ne12 : u1 ≠ x_8 := Nat.ne_of_lt (Nat.lt_of_lt_of_le hp5.lt po8_0)
    have ne13 : yy1 ≠ x_8 := Nat.ne_of_lt (Nat.lt_of_lt_of_le hp7.1.lt po8_0)
    have ne14 : tyy1 ≠ x_8 := Nat.ne_of_lt (Nat.lt_of_lt_of_le hp7.2.2.2.1.lt po8_0)
    have g15 : n0 ≤ x_8 := Nat.le_trans (Nat.le_trans (own_le O0) K0.1) po8_0
    have b16 : h0.size ≤ x_8 := Nat.le_trans K0.1 po8_0
    have ne17 : u0 ≠ t_8 := Nat.ne_of_lt (Nat.lt_of_lt_of_le hp1.lt po8_1)
    have ne18 : yy0 ≠ t_8 := Nat.ne_of_lt (Nat.lt_of_lt_of_le hp3.1.lt po8_1)
    have ne19 : tyy0 ≠ t_8 := Nat.ne_of_lt (Nat.lt_of_lt_of_le hp3.2.2.2.1.lt po8_1)
    have ne20 : u1 ≠ t_8 := Nat.ne_of_lt (Nat.lt_of_lt_of_le hp5.lt po8_1)
    have ne21 : yy1 ≠ t_8 := Nat.ne_of_lt (Nat.lt_of_lt_of_le hp7.1.lt po8_1)
    have ne22 : tyy1 ≠ t_8 := Nat.ne_of_lt (Nat.lt_of_lt_of_le hp7.2.2.2.1.lt po8_1)
    have g23 : n0 ≤ t_8 := Nat.le_trans (Nat.le_trans (own_le O0) K0.1) po8_1
    have b24 : h0.size ≤ t_8 := Nat.le_trans K0.1 po8_1
    have K25 : Keep h0 T8.heap [] := K0.trans Kq8 all0
    have bz26 : h0.size ≤ x_8 := Nat.le_trans KA0.1 b16
    have bz27 : h0.size ≤ t_8 := Nat.le_trans KA0.1 b24
    have CA28 : CHr Z consts_1 s.vm h0 T8.vm T8.heap := (CA0.trans C7).trans CC8
    have KA29 : Keep h0 T8.heap [] := KA0.trans K25 all0
    have O30 : Old Z n0 T8.heap := (O0.keep K25 all0)
    have K31 : Keep T8.heap T8.heap [] := Keep.refl _ _
    have hl3 : (((([] ++ ([98, 105, 100] : List Int32)) ++ (([] ++ List.replicate cnt (48 : Int32)) ++ own_decL nn))) : List Int32).length = 13 := by rw [List.length_append, own_padLen, hcd]; rfl
    obtain ⟨Lg32, X32, N32⟩ : ∃ L' : List Loc, Stand p l e room_1 (s.setVm T8.vm) m #[(.int i0), (.long lq1)] below meth c T8 L' 14 344 ∧ Fr n0 L' := ⟨_, X8, N8⟩
    obtain ⟨cq33, kq33, qa33, qb33, qc33⟩ := isOf hZ rfl po8_3.1
    obtain ⟨_, _, ⟨T33, L33, k33, n33⟩, -, X33, ⟨Lc33, hQ33, l33, y33, z33⟩, st33⟩ := X32.virtualBack hx (y := (⟨"java/lang/String", "length", "()I"⟩ : MethodName)) (z := (⟨"java/lang/String", "length", "()I"⟩ : MethodName)) hown (mvT hZ (hw _ (List.mem_of_getElem? (i := 175) rfl))) (mvT hZ (hw _ (List.mem_of_getElem? (i := 46) rfl))) (notFace_of_selects (args := #[]) (mvT hZ (hw _ (List.mem_of_getElem? (i := 48) rfl)))) (mvT hZ (hw _ (List.mem_of_getElem? (i := 48) rfl))) (mvT hZ (hw _ (List.mem_of_getElem? (i := 47) rfl))) (by decide) (backOf (W := 0) (own_strlen l Z a0 hw [] (x_8) (t_8) (kt_8) (((([] ++ ([98, 105, 100] : List Int32)) ++ (([] ++ List.replicate cnt (48 : Int32)) ++ own_decL nn)))) (gCS) T8.heap n0 (O30.keep K31 all0) (po8_3) (hp8) (hG1)) hZ (hw _ (List.mem_of_getElem? (i := 49) rfl)) (hw _ (List.mem_of_getElem? (i := 27) rfl)) (by decide) (by decide)) qa33 qc33 (g := (mkF m 49 #[.val (.int i0), .val (.long lq1), .second, .val (.int (0 : Int32)), .val (.ref u1), .val (.long vv), .second, .val (.ref x_8), .unset] [(.ref x_8)])) rfl (by rw [hml]; rfl) (Steps.refl _) (argsL := []) (rest := []) (lenOf own_pd8 rfl) rfl (by show 2 * 0 + _ ≤ _; exact Nat.le_of_eq rfl) (hb hby at_49) (fun _ _ => ⟨rfl, rfl, (by decide : 14 + 0 ≤ _), (by decide : 344 + 0 ≤ _)⟩)
    dsimp only [Pt.U, Pt.locs, Pt.cells, Pt.slots] at X33 l33 y33 z33 st33 hQ33
    subst l33 y33 z33
    obtain ⟨rfl, Nq33, hh33⟩ := hQ33
    have N33 := Fr.app N32 Nq33
    have r34 : GoTo p.tables e below s₁ (own_F_own_law m i0 lq1) T33 (mkF m 52 #[.val (.int i0), .val (.long lq1), .second, .val (.int (0 : Int32)), .val (.ref u1), .val (.long vv), .second, .val (.ref x_8), .unset] [(.int (Int32.ofNat ((([] ++ ([98, 105, 100] : List Int32)) ++ (([] ++ List.replicate cnt (48 : Int32)) ++ own_decL nn))).length))]) := fun tt_ kk_ => r6 tt_ (by
        show Steps p.tables e below (T3.setTop (mkF m 42 #[.val (.int i0), .val (.long lq1), .second, .val (.int (0 : Int32)), .val (.ref u1), .val (.long vv), .second, .unset, .unset] [(.long vv), (.ref u1)])) _
        refine st8.trans ?_
        show Steps p.tables e below (T8.setTop (mkF m 45 #[.val (.int i0), .val (.long lq1), .second, .val (.int (0 : Int32)), .val (.ref u1), .val (.long vv), .second, .unset, .unset] [(.ref x_8)])) _
        refine XS.astore X8.here hx rfl (hb hby at_45) rfl rfl (l' := #[.val (.int i0), .val (.long lq1), .second, .val (.int (0 : Int32)), .val (.ref u1), .val (.long vv), .second, .val (.ref x_8), .unset]) rfl ?_
        show Steps p.tables e below (T8.setTop (mkF m 47 #[.val (.int i0), .val (.long lq1), .second, .val (.int (0 : Int32)), .val (.ref u1), .val (.long vv), .second, .val (.ref x_8), .unset] [])) _
        refine XS.aload X8.here hx rfl (hb hby at_47) rfl rfl ?_
        show Steps p.tables e below (T8.setTop (mkF m 49 #[.val (.int i0), .val (.long lq1), .second, .val (.int (0 : Int32)), .val (.ref u1), .val (.long vv), .second, .val (.ref x_8), .unset] [(.ref x_8)])) _
        refine st33.trans ?_
        show Steps p.tables e below (T33.setTop (mkF m 52 #[.val (.int i0), .val (.long lq1), .second, .val (.int (0 : Int32)), .val (.ref u1), .val (.long vv), .second, .val (.ref x_8), .unset] [(.int (Int32.ofNat ((([] ++ ([98, 105, 100] : List Int32)) ++ (([] ++ List.replicate cnt (48 : Int32)) ++ own_decL nn))).length))])) _
        exact kk_)
    have r35 : GoTo p.tables e below s₁ (own_F_own_law m i0 lq1) T33 (mkF m 52 #[.val (.int i0), .val (.long lq1), .second, .val (.int (0 : Int32)), .val (.ref u1), .val (.long vv), .second, .val (.ref x_8), .unset] [(.int (13 : Int32))]) := Eq.mp (congrArg (fun zz_ => GoTo p.tables e below s₁ (own_F_own_law m i0 lq1) T33 (mkF m 52 #[.val (.int i0), .val (.long lq1), .second, .val (.int (0 : Int32)), .val (.ref u1), .val (.long vv), .second, .val (.ref x_8), .unset] [(.int zz_)])) (show (Int32.ofNat ((([] ++ ([98, 105, 100] : List Int32)) ++ (([] ++ List.replicate cnt (48 : Int32)) ++ own_decL nn))).length) = (13 : Int32) from (by rw [hl3]; rfl))) r34
    obtain ⟨cq36, kq36, qa36, qb36, qc36⟩ := isOf hZ hh33 po8_3.1
    obtain ⟨_, _, ⟨T36, L36, k36, n36⟩, -, X36, ⟨Lc36, hQ36, l36, y36, z36⟩, st36⟩ := X33.virtualBack hx (y := (⟨"java/lang/String", "charAt", "(I)C"⟩ : MethodName)) (z := (⟨"java/lang/String", "charAt", "(I)C"⟩ : MethodName)) hown (mvT hZ (hw _ (List.mem_of_getElem? (i := 176) rfl))) (mvT hZ (hw _ (List.mem_of_getElem? (i := 177) rfl))) (notFace_of_selects (args := #[]) (mvT hZ (hw _ (List.mem_of_getElem? (i := 179) rfl)))) (mvT hZ (hw _ (List.mem_of_getElem? (i := 179) rfl))) (mvT hZ (hw _ (List.mem_of_getElem? (i := 178) rfl))) (by decide) (backOf (W := 0) (own_chAt l Z a0 hw [] (x_8) (t_8) (kt_8) (((([] ++ ([98, 105, 100] : List Int32)) ++ (([] ++ List.replicate cnt (48 : Int32)) ++ own_decL nn)))) (0) (gCS) (gFM) T8.heap n0 (O30.keep K31 all0) (po8_3) (by rw [hl3]; decide) (hp8) (hG1) (hp10) (hG3)) hZ (hw _ (List.mem_of_getElem? (i := 180) rfl)) (hw _ (List.mem_of_getElem? (i := 27) rfl)) (by decide) (by decide)) qa36 qc36 (g := (mkF m 75 #[.val (.int i0), .val (.long lq1), .second, .val (.int (0 : Int32)), .val (.ref u1), .val (.long vv), .second, .val (.ref x_8), .val (.int (98 : Int32))] [(.int (0 : Int32)), (.ref x_8)])) rfl (by rw [hml]; rfl) (Steps.refl _) (argsL := [(.int (0 : Int32))]) (rest := []) (lenOf own_pd24 rfl) rfl (by show 2 * 0 + _ ≤ _; exact Nat.le_of_eq rfl) (hb hby at_75) (fun _ _ => ⟨rfl, hh33, (by decide : 14 + 0 ≤ _), (by decide : 344 + 0 ≤ _)⟩)
    dsimp only [Pt.U, Pt.locs, Pt.cells, Pt.slots] at X36 l36 y36 z36 st36 hQ36
    subst l36 y36 z36
    obtain ⟨rfl, Nq36, hh36⟩ := hQ36
    have N36 := Fr.app N33 Nq36
    have r37 : GoTo p.tables e below s₁ (own_F_own_law m i0 lq1) T36 (mkF m 78 #[.val (.int i0), .val (.long lq1), .second, .val (.int (0 : Int32)), .val (.ref u1), .val (.long vv), .second, .val (.ref x_8), .val (.int (98 : Int32))] [(.int (((([] ++ ([98, 105, 100] : List Int32)) ++ (([] ++ List.replicate cnt (48 : Int32)) ++ own_decL nn))).getD 0 0))]) := fun tt_ kk_ => r35 tt_ (by
        show Steps p.tables e below (T33.setTop (mkF m 52 #[.val (.int i0), .val (.long lq1), .second, .val (.int (0 : Int32)), .val (.ref u1), .val (.long vv), .second, .val (.ref x_8), .unset] [(.int (13 : Int32))])) _
        refine XS.bipush X33.here hx rfl (hb hby at_52) ?_
        show Steps p.tables e below (T33.setTop (mkF m 54 #[.val (.int i0), .val (.long lq1), .second, .val (.int (0 : Int32)), .val (.ref u1), .val (.long vv), .second, .val (.ref x_8), .unset] [(.int (13 : Int32)), (.int (13 : Int32))])) _
        refine XS.icmpYes X33.here hx rfl (pc0 := 54) (pc' := 59) rfl (hb hby at_54) rfl (teq rfl).1 (by decide) (by decide) ?_
        show Steps p.tables e below (T33.setTop (mkF m 59 #[.val (.int i0), .val (.long lq1), .second, .val (.int (0 : Int32)), .val (.ref u1), .val (.long vv), .second, .val (.ref x_8), .unset] [])) _
        refine XS.iloadN X33.here hx rfl (hb hby at_59) rfl ?_
        show Steps p.tables e below (T33.setTop (mkF m 60 #[.val (.int i0), .val (.long lq1), .second, .val (.int (0 : Int32)), .val (.ref u1), .val (.long vv), .second, .val (.ref x_8), .unset] [(.int (0 : Int32))])) _
        refine XS.ifYes X33.here hx rfl (pc0 := 60) (pc' := 68) rfl (hb hby at_60) rfl ((if0 _ _).trans (teq rfl).1) (by decide) (by decide) ?_
        show Steps p.tables e below (T33.setTop (mkF m 68 #[.val (.int i0), .val (.long lq1), .second, .val (.int (0 : Int32)), .val (.ref u1), .val (.long vv), .second, .val (.ref x_8), .unset] [])) _
        refine XS.bipush X33.here hx rfl (hb hby at_68) ?_
        show Steps p.tables e below (T33.setTop (mkF m 70 #[.val (.int i0), .val (.long lq1), .second, .val (.int (0 : Int32)), .val (.ref u1), .val (.long vv), .second, .val (.ref x_8), .unset] [(.int (98 : Int32))])) _
        refine XS.istore X33.here hx rfl (hb hby at_70) rfl (l' := #[.val (.int i0), .val (.long lq1), .second, .val (.int (0 : Int32)), .val (.ref u1), .val (.long vv), .second, .val (.ref x_8), .val (.int (98 : Int32))]) rfl ?_
        show Steps p.tables e below (T33.setTop (mkF m 72 #[.val (.int i0), .val (.long lq1), .second, .val (.int (0 : Int32)), .val (.ref u1), .val (.long vv), .second, .val (.ref x_8), .val (.int (98 : Int32))] [])) _
        refine XS.aload X33.here hx rfl (hb hby at_72) rfl rfl ?_
        show Steps p.tables e below (T33.setTop (mkF m 74 #[.val (.int i0), .val (.long lq1), .second, .val (.int (0 : Int32)), .val (.ref u1), .val (.long vv), .second, .val (.ref x_8), .val (.int (98 : Int32))] [(.ref x_8)])) _
        refine XS.iconst X33.here hx rfl (hb hby at_74) ?_
        show Steps p.tables e below (T33.setTop (mkF m 75 #[.val (.int i0), .val (.long lq1), .second, .val (.int (0 : Int32)), .val (.ref u1), .val (.long vv), .second, .val (.ref x_8), .val (.int (98 : Int32))] [(.int (0 : Int32)), (.ref x_8)])) _
        refine st36.trans ?_
        show Steps p.tables e below (T36.setTop (mkF m 78 #[.val (.int i0), .val (.long lq1), .second, .val (.int (0 : Int32)), .val (.ref u1), .val (.long vv), .second, .val (.ref x_8), .val (.int (98 : Int32))] [(.int (((([] ++ ([98, 105, 100] : List Int32)) ++ (([] ++ List.replicate cnt (48 : Int32)) ++ own_decL nn))).getD 0 0))])) _
        exact kk_)
    have r38 : GoTo p.tables e below s₁ (own_F_own_law m i0 lq1) T36 (mkF m 78 #[.val (.int i0), .val (.long lq1), .second, .val (.int (0 : Int32)), .val (.ref u1), .val (.long vv), .second, .val (.ref x_8), .val (.int (98 : Int32))] [(.int (98 : Int32))]) := Eq.mp (congrArg (fun zz_ => GoTo p.tables e below s₁ (own_F_own_law m i0 lq1) T36 (mkF m 78 #[.val (.int i0), .val (.long lq1), .second, .val (.int (0 : Int32)), .val (.ref u1), .val (.long vv), .second, .val (.ref x_8), .val (.int (98 : Int32))] [(.int zz_)])) (show (((([] ++ ([98, 105, 100] : List Int32)) ++ (([] ++ List.replicate cnt (48 : Int32)) ++ own_decL nn))).getD 0 0) = (98 : Int32) from (own_fmt0 (by decide)))) r37
    obtain ⟨Lg39, X39, N39⟩ : ∃ L' : List Loc, Stand p l e room_1 (s.setVm T8.vm) m #[(.int i0), (.long lq1)] below meth c T36 L' 14 344 ∧ Fr n0 L' := ⟨_, X36, N36⟩
    obtain ⟨cq40, kq40, qa40, qb40, qc40⟩ := isOf hZ hh36 po8_3.1
    obtain ⟨_, _, ⟨T40, L40, k40, n40⟩, -, X40, ⟨Lc40, hQ40, l40, y40, z40⟩, st40⟩ := X39.virtualBack hx (y := (⟨"java/lang/String", "charAt", "(I)C"⟩ : MethodName)) (z := (⟨"java/lang/String", "charAt", "(I)C"⟩ : MethodName)) hown (mvT hZ (hw _ (List.mem_of_getElem? (i := 176) rfl))) (mvT hZ (hw _ (List.mem_of_getElem? (i := 177) rfl))) (notFace_of_selects (args := #[]) (mvT hZ (hw _ (List.mem_of_getElem? (i := 179) rfl)))) (mvT hZ (hw _ (List.mem_of_getElem? (i := 179) rfl))) (mvT hZ (hw _ (List.mem_of_getElem? (i := 178) rfl))) (by decide) (backOf (W := 0) (own_chAt l Z a0 hw [] (x_8) (t_8) (kt_8) (((([] ++ ([98, 105, 100] : List Int32)) ++ (([] ++ List.replicate cnt (48 : Int32)) ++ own_decL nn)))) (1) (gCS) (gFM) T8.heap n0 (O30.keep K31 all0) (po8_3) (by rw [hl3]; decide) (hp8) (hG1) (hp10) (hG3)) hZ (hw _ (List.mem_of_getElem? (i := 180) rfl)) (hw _ (List.mem_of_getElem? (i := 27) rfl)) (by decide) (by decide)) qa40 qc40 (g := (mkF m 86 #[.val (.int i0), .val (.long lq1), .second, .val (.int (0 : Int32)), .val (.ref u1), .val (.long vv), .second, .val (.ref x_8), .val (.int (98 : Int32))] [(.int (1 : Int32)), (.ref x_8)])) rfl (by rw [hml]; rfl) (Steps.refl _) (argsL := [(.int (1 : Int32))]) (rest := []) (lenOf own_pd24 rfl) rfl (by show 2 * 0 + _ ≤ _; exact Nat.le_of_eq rfl) (hb hby at_86) (fun _ _ => ⟨rfl, hh36, (by decide : 14 + 0 ≤ _), (by decide : 344 + 0 ≤ _)⟩)
    dsimp only [Pt.U, Pt.locs, Pt.cells, Pt.slots] at X40 l40 y40 z40 st40 hQ40
    subst l40 y40 z40
    obtain ⟨rfl, Nq40, hh40⟩ := hQ40
    have N40 := Fr.app N39 Nq40
    have r41 : GoTo p.tables e below s₁ (own_F_own_law m i0 lq1) T40 (mkF m 89 #[.val (.int i0), .val (.long lq1), .second, .val (.int (0 : Int32)), .val (.ref u1), .val (.long vv), .second, .val (.ref x_8), .val (.int (98 : Int32))] [(.int (((([] ++ ([98, 105, 100] : List Int32)) ++ (([] ++ List.replicate cnt (48 : Int32)) ++ own_decL nn))).getD 1 0))]) := fun tt_ kk_ => r38 tt_ (by
        show Steps p.tables e below (T36.setTop (mkF m 78 #[.val (.int i0), .val (.long lq1), .second, .val (.int (0 : Int32)), .val (.ref u1), .val (.long vv), .second, .val (.ref x_8), .val (.int (98 : Int32))] [(.int (98 : Int32))])) _
        refine XS.iload X36.here hx rfl (hb hby at_78) rfl ?_
        show Steps p.tables e below (T36.setTop (mkF m 80 #[.val (.int i0), .val (.long lq1), .second, .val (.int (0 : Int32)), .val (.ref u1), .val (.long vv), .second, .val (.ref x_8), .val (.int (98 : Int32))] [(.int (98 : Int32)), (.int (98 : Int32))])) _
        refine XS.icmpNo X36.here hx rfl (hb hby at_80) rfl (teq rfl).2 ?_
        show Steps p.tables e below (T36.setTop (mkF m 83 #[.val (.int i0), .val (.long lq1), .second, .val (.int (0 : Int32)), .val (.ref u1), .val (.long vv), .second, .val (.ref x_8), .val (.int (98 : Int32))] [])) _
        refine XS.aload X36.here hx rfl (hb hby at_83) rfl rfl ?_
        show Steps p.tables e below (T36.setTop (mkF m 85 #[.val (.int i0), .val (.long lq1), .second, .val (.int (0 : Int32)), .val (.ref u1), .val (.long vv), .second, .val (.ref x_8), .val (.int (98 : Int32))] [(.ref x_8)])) _
        refine XS.iconst X36.here hx rfl (hb hby at_85) ?_
        show Steps p.tables e below (T36.setTop (mkF m 86 #[.val (.int i0), .val (.long lq1), .second, .val (.int (0 : Int32)), .val (.ref u1), .val (.long vv), .second, .val (.ref x_8), .val (.int (98 : Int32))] [(.int (1 : Int32)), (.ref x_8)])) _
        refine st40.trans ?_
        show Steps p.tables e below (T40.setTop (mkF m 89 #[.val (.int i0), .val (.long lq1), .second, .val (.int (0 : Int32)), .val (.ref u1), .val (.long vv), .second, .val (.ref x_8), .val (.int (98 : Int32))] [(.int (((([] ++ ([98, 105, 100] : List Int32)) ++ (([] ++ List.replicate cnt (48 : Int32)) ++ own_decL nn))).getD 1 0))])) _
        exact kk_)
    have r42 : GoTo p.tables e below s₁ (own_F_own_law m i0 lq1) T40 (mkF m 89 #[.val (.int i0), .val (.long lq1), .second, .val (.int (0 : Int32)), .val (.ref u1), .val (.long vv), .second, .val (.ref x_8), .val (.int (98 : Int32))] [(.int (105 : Int32))]) := Eq.mp (congrArg (fun zz_ => GoTo p.tables e below s₁ (own_F_own_law m i0 lq1) T40 (mkF m 89 #[.val (.int i0), .val (.long lq1), .second, .val (.int (0 : Int32)), .val (.ref u1), .val (.long vv), .second, .val (.ref x_8), .val (.int (98 : Int32))] [(.int zz_)])) (show (((([] ++ ([98, 105, 100] : List Int32)) ++ (([] ++ List.replicate cnt (48 : Int32)) ++ own_decL nn))).getD 1 0) = (105 : Int32) from (own_fmt0 (by decide)))) r41
    obtain ⟨cq43, kq43, qa43, qb43, qc43⟩ := isOf hZ hh40 po8_3.1
    obtain ⟨_, _, ⟨T43, L43, k43, n43⟩, -, X43, ⟨Lc43, hQ43, l43, y43, z43⟩, st43⟩ := X40.virtualBack hx (y := (⟨"java/lang/String", "charAt", "(I)C"⟩ : MethodName)) (z := (⟨"java/lang/String", "charAt", "(I)C"⟩ : MethodName)) hown (mvT hZ (hw _ (List.mem_of_getElem? (i := 176) rfl))) (mvT hZ (hw _ (List.mem_of_getElem? (i := 177) rfl))) (notFace_of_selects (args := #[]) (mvT hZ (hw _ (List.mem_of_getElem? (i := 179) rfl)))) (mvT hZ (hw _ (List.mem_of_getElem? (i := 179) rfl))) (mvT hZ (hw _ (List.mem_of_getElem? (i := 178) rfl))) (by decide) (backOf (W := 0) (own_chAt l Z a0 hw [] (x_8) (t_8) (kt_8) (((([] ++ ([98, 105, 100] : List Int32)) ++ (([] ++ List.replicate cnt (48 : Int32)) ++ own_decL nn)))) (2) (gCS) (gFM) T8.heap n0 (O30.keep K31 all0) (po8_3) (by rw [hl3]; decide) (hp8) (hG1) (hp10) (hG3)) hZ (hw _ (List.mem_of_getElem? (i := 180) rfl)) (hw _ (List.mem_of_getElem? (i := 27) rfl)) (by decide) (by decide)) qa43 qc43 (g := (mkF m 97 #[.val (.int i0), .val (.long lq1), .second, .val (.int (0 : Int32)), .val (.ref u1), .val (.long vv), .second, .val (.ref x_8), .val (.int (98 : Int32))] [(.int (2 : Int32)), (.ref x_8)])) rfl (by rw [hml]; rfl) (Steps.refl _) (argsL := [(.int (2 : Int32))]) (rest := []) (lenOf own_pd24 rfl) rfl (by show 2 * 0 + _ ≤ _; exact Nat.le_of_eq rfl) (hb hby at_97) (fun _ _ => ⟨rfl, hh40, (by decide : 14 + 0 ≤ _), (by decide : 344 + 0 ≤ _)⟩)
    dsimp only [Pt.U, Pt.locs, Pt.cells, Pt.slots] at X43 l43 y43 z43 st43 hQ43
    subst l43 y43 z43
    obtain ⟨rfl, Nq43, hh43⟩ := hQ43
    have N43 := Fr.app N40 Nq43
    have r44 : GoTo p.tables e below s₁ (own_F_own_law m i0 lq1) T43 (mkF m 100 #[.val (.int i0), .val (.long lq1), .second, .val (.int (0 : Int32)), .val (.ref u1), .val (.long vv), .second, .val (.ref x_8), .val (.int (98 : Int32))] [(.int (((([] ++ ([98, 105, 100] : List Int32)) ++ (([] ++ List.replicate cnt (48 : Int32)) ++ own_decL nn))).getD 2 0))]) := fun tt_ kk_ => r42 tt_ (by
        show Steps p.tables e below (T40.setTop (mkF m 89 #[.val (.int i0), .val (.long lq1), .second, .val (.int (0 : Int32)), .val (.ref u1), .val (.long vv), .second, .val (.ref x_8), .val (.int (98 : Int32))] [(.int (105 : Int32))])) _
        refine XS.bipush X40.here hx rfl (hb hby at_89) ?_
        show Steps p.tables e below (T40.setTop (mkF m 91 #[.val (.int i0), .val (.long lq1), .second, .val (.int (0 : Int32)), .val (.ref u1), .val (.long vv), .second, .val (.ref x_8), .val (.int (98 : Int32))] [(.int (105 : Int32)), (.int (105 : Int32))])) _
        refine XS.icmpNo X40.here hx rfl (hb hby at_91) rfl (teq rfl).2 ?_
        show Steps p.tables e below (T40.setTop (mkF m 94 #[.val (.int i0), .val (.long lq1), .second, .val (.int (0 : Int32)), .val (.ref u1), .val (.long vv), .second, .val (.ref x_8), .val (.int (98 : Int32))] [])) _
        refine XS.aload X40.here hx rfl (hb hby at_94) rfl rfl ?_
        show Steps p.tables e below (T40.setTop (mkF m 96 #[.val (.int i0), .val (.long lq1), .second, .val (.int (0 : Int32)), .val (.ref u1), .val (.long vv), .second, .val (.ref x_8), .val (.int (98 : Int32))] [(.ref x_8)])) _
        refine XS.iconst X40.here hx rfl (hb hby at_96) ?_
        show Steps p.tables e below (T40.setTop (mkF m 97 #[.val (.int i0), .val (.long lq1), .second, .val (.int (0 : Int32)), .val (.ref u1), .val (.long vv), .second, .val (.ref x_8), .val (.int (98 : Int32))] [(.int (2 : Int32)), (.ref x_8)])) _
        refine st43.trans ?_
        show Steps p.tables e below (T43.setTop (mkF m 100 #[.val (.int i0), .val (.long lq1), .second, .val (.int (0 : Int32)), .val (.ref u1), .val (.long vv), .second, .val (.ref x_8), .val (.int (98 : Int32))] [(.int (((([] ++ ([98, 105, 100] : List Int32)) ++ (([] ++ List.replicate cnt (48 : Int32)) ++ own_decL nn))).getD 2 0))])) _
        exact kk_)
    have r45 : GoTo p.tables e below s₁ (own_F_own_law m i0 lq1) T43 (mkF m 100 #[.val (.int i0), .val (.long lq1), .second, .val (.int (0 : Int32)), .val (.ref u1), .val (.long vv), .second, .val (.ref x_8), .val (.int (98 : Int32))] [(.int (100 : Int32))]) := Eq.mp (congrArg (fun zz_ => GoTo p.tables e below s₁ (own_F_own_law m i0 lq1) T43 (mkF m 100 #[.val (.int i0), .val (.long lq1), .second, .val (.int (0 : Int32)), .val (.ref u1), .val (.long vv), .second, .val (.ref x_8), .val (.int (98 : Int32))] [(.int zz_)])) (show (((([] ++ ([98, 105, 100] : List Int32)) ++ (([] ++ List.replicate cnt (48 : Int32)) ++ own_decL nn))).getD 2 0) = (100 : Int32) from (own_fmt0 (by decide)))) r44
    obtain ⟨Lg46, X46, N46⟩ : ∃ L' : List Loc, Stand p l e room_1 (s.setVm T8.vm) m #[(.int i0), (.long lq1)] below meth c T43 L' 14 344 ∧ Fr n0 L' := ⟨_, X43, N43⟩
    obtain ⟨_, _, ⟨T47, L47, k47, n47⟩, -, X47, ⟨Lc47, hQ47, l47, y47, z47⟩, st47⟩ := Jvm.LawKit.callS X46 hx (y := (⟨"com/example/uketsuke/uketsuke/store/IdFormatFormatPinLaw", "digitAt", "(Ljava/lang/String;IJJ)Z"⟩ : MethodName)) hown (mvT hZ (hw _ (List.mem_of_getElem? (i := 199) rfl))) (mvT hZ (hw _ (List.mem_of_getElem? (i := 200) rfl))) (mvT hZ (hw _ (List.mem_of_getElem? (i := 201) rfl))) (mvT hZ (hw _ (List.mem_of_getElem? (i := 202) rfl))) (by decide) (backOf (W := 0) (own_dAt l Z a0 hw [] (x_8) (t_8) (kt_8) (((([] ++ ([98, 105, 100] : List Int32)) ++ (([] ++ List.replicate cnt (48 : Int32)) ++ own_decL nn)))) ((3 + 0)) (vv) (nn) (1000000000) (gCS) (gFM) T8.heap n0 (O30.keep K31 all0) (po8_3) (hvn) (by decide) (by decide) (by rw [hl3]; decide) (own_fmtAt (i := 0) rfl (by omega) hcd (by decide)) (hp8) (hG1) (hp10) (hG3)) hZ (hw _ (List.mem_of_getElem? (i := 202) rfl)) (hw _ (List.mem_of_getElem? (i := 201) rfl)) (by decide) (by decide)) (g := (mkF m 115 #[.val (.int i0), .val (.long lq1), .second, .val (.int (0 : Int32)), .val (.ref u1), .val (.long vv), .second, .val (.ref x_8), .val (.int (98 : Int32))] [(.long (1000000000 : Int64)), (.long vv), (.int (3 : Int32)), (.ref x_8)])) rfl (by rw [hml]; rfl) (argsL := [(.ref x_8), (.int (3 : Int32)), (.long vv), (.long (1000000000 : Int64))]) (rest := []) (lenOf own_pd26 rfl) rfl (by show 2 * 0 + _ ≤ _; exact Nat.le_of_eq rfl) (hb hby at_115) (fun _ _ => ⟨rfl, hh43, (by decide : 14 + 0 ≤ _), (by decide : 344 + 0 ≤ _)⟩)
    dsimp only [Pt.U, Pt.locs, Pt.cells, Pt.slots] at X47 l47 y47 z47 st47 hQ47
    subst l47 y47 z47
    obtain ⟨rfl, Nq47, hh47⟩ := hQ47
    have N47 := Fr.app N46 Nq47
    obtain ⟨_, _, ⟨T48, L48, k48, n48⟩, -, X48, ⟨Lc48, hQ48, l48, y48, z48⟩, st48⟩ := Jvm.LawKit.callS X47 hx (y := (⟨"com/example/uketsuke/uketsuke/store/IdFormatFormatPinLaw", "digitAt", "(Ljava/lang/String;IJJ)Z"⟩ : MethodName)) hown (mvT hZ (hw _ (List.mem_of_getElem? (i := 199) rfl))) (mvT hZ (hw _ (List.mem_of_getElem? (i := 200) rfl))) (mvT hZ (hw _ (List.mem_of_getElem? (i := 201) rfl))) (mvT hZ (hw _ (List.mem_of_getElem? (i := 202) rfl))) (by decide) (backOf (W := 0) (own_dAt l Z a0 hw [] (x_8) (t_8) (kt_8) (((([] ++ ([98, 105, 100] : List Int32)) ++ (([] ++ List.replicate cnt (48 : Int32)) ++ own_decL nn)))) ((3 + 1)) (vv) (nn) (100000000) (gCS) (gFM) T8.heap n0 (O30.keep K31 all0) (po8_3) (hvn) (by decide) (by decide) (by rw [hl3]; decide) (own_fmtAt (i := 1) rfl (by omega) hcd (by decide)) (hp8) (hG1) (hp10) (hG3)) hZ (hw _ (List.mem_of_getElem? (i := 202) rfl)) (hw _ (List.mem_of_getElem? (i := 201) rfl)) (by decide) (by decide)) (g := (mkF m 129 #[.val (.int i0), .val (.long lq1), .second, .val (.int (0 : Int32)), .val (.ref u1), .val (.long vv), .second, .val (.ref x_8), .val (.int (98 : Int32))] [(.long (100000000 : Int64)), (.long vv), (.int (4 : Int32)), (.ref x_8)])) rfl (by rw [hml]; rfl) (argsL := [(.ref x_8), (.int (4 : Int32)), (.long vv), (.long (100000000 : Int64))]) (rest := []) (lenOf own_pd26 rfl) rfl (by show 2 * 0 + _ ≤ _; exact Nat.le_of_eq rfl) (hb hby at_129) (fun _ _ => ⟨rfl, hh47, (by decide : 14 + 0 ≤ _), (by decide : 344 + 0 ≤ _)⟩)
    dsimp only [Pt.U, Pt.locs, Pt.cells, Pt.slots] at X48 l48 y48 z48 st48 hQ48
    subst l48 y48 z48
    obtain ⟨rfl, Nq48, hh48⟩ := hQ48
    have N48 := Fr.app N47 Nq48
    obtain ⟨Lg49, X49, N49⟩ : ∃ L' : List Loc, Stand p l e room_1 (s.setVm T8.vm) m #[(.int i0), (.long lq1)] below meth c T48 L' 14 344 ∧ Fr n0 L' := ⟨_, X48, N48⟩
    obtain ⟨_, _, ⟨T50, L50, k50, n50⟩, -, X50, ⟨Lc50, hQ50, l50, y50, z50⟩, st50⟩ := Jvm.LawKit.callS X49 hx (y := (⟨"com/example/uketsuke/uketsuke/store/IdFormatFormatPinLaw", "digitAt", "(Ljava/lang/String;IJJ)Z"⟩ : MethodName)) hown (mvT hZ (hw _ (List.mem_of_getElem? (i := 199) rfl))) (mvT hZ (hw _ (List.mem_of_getElem? (i := 200) rfl))) (mvT hZ (hw _ (List.mem_of_getElem? (i := 201) rfl))) (mvT hZ (hw _ (List.mem_of_getElem? (i := 202) rfl))) (by decide) (backOf (W := 0) (own_dAt l Z a0 hw [] (x_8) (t_8) (kt_8) (((([] ++ ([98, 105, 100] : List Int32)) ++ (([] ++ List.replicate cnt (48 : Int32)) ++ own_decL nn)))) ((3 + 2)) (vv) (nn) (10000000) (gCS) (gFM) T8.heap n0 (O30.keep K31 all0) (po8_3) (hvn) (by decide) (by decide) (by rw [hl3]; decide) (own_fmtAt (i := 2) rfl (by omega) hcd (by decide)) (hp8) (hG1) (hp10) (hG3)) hZ (hw _ (List.mem_of_getElem? (i := 202) rfl)) (hw _ (List.mem_of_getElem? (i := 201) rfl)) (by decide) (by decide)) (g := (mkF m 143 #[.val (.int i0), .val (.long lq1), .second, .val (.int (0 : Int32)), .val (.ref u1), .val (.long vv), .second, .val (.ref x_8), .val (.int (98 : Int32))] [(.long (10000000 : Int64)), (.long vv), (.int (5 : Int32)), (.ref x_8)])) rfl (by rw [hml]; rfl) (argsL := [(.ref x_8), (.int (5 : Int32)), (.long vv), (.long (10000000 : Int64))]) (rest := []) (lenOf own_pd26 rfl) rfl (by show 2 * 0 + _ ≤ _; exact Nat.le_of_eq rfl) (hb hby at_143) (fun _ _ => ⟨rfl, hh48, (by decide : 14 + 0 ≤ _), (by decide : 344 + 0 ≤ _)⟩)
    dsimp only [Pt.U, Pt.locs, Pt.cells, Pt.slots] at X50 l50 y50 z50 st50 hQ50
    subst l50 y50 z50
    obtain ⟨rfl, Nq50, hh50⟩ := hQ50
    have N50 := Fr.app N49 Nq50
    obtain ⟨_, _, ⟨T51, L51, k51, n51⟩, -, X51, ⟨Lc51, hQ51, l51, y51, z51⟩, st51⟩ := Jvm.LawKit.callS X50 hx (y := (⟨"com/example/uketsuke/uketsuke/store/IdFormatFormatPinLaw", "digitAt", "(Ljava/lang/String;IJJ)Z"⟩ : MethodName)) hown (mvT hZ (hw _ (List.mem_of_getElem? (i := 199) rfl))) (mvT hZ (hw _ (List.mem_of_getElem? (i := 200) rfl))) (mvT hZ (hw _ (List.mem_of_getElem? (i := 201) rfl))) (mvT hZ (hw _ (List.mem_of_getElem? (i := 202) rfl))) (by decide) (backOf (W := 0) (own_dAt l Z a0 hw [] (x_8) (t_8) (kt_8) (((([] ++ ([98, 105, 100] : List Int32)) ++ (([] ++ List.replicate cnt (48 : Int32)) ++ own_decL nn)))) ((3 + 3)) (vv) (nn) (1000000) (gCS) (gFM) T8.heap n0 (O30.keep K31 all0) (po8_3) (hvn) (by decide) (by decide) (by rw [hl3]; decide) (own_fmtAt (i := 3) rfl (by omega) hcd (by decide)) (hp8) (hG1) (hp10) (hG3)) hZ (hw _ (List.mem_of_getElem? (i := 202) rfl)) (hw _ (List.mem_of_getElem? (i := 201) rfl)) (by decide) (by decide)) (g := (mkF m 158 #[.val (.int i0), .val (.long lq1), .second, .val (.int (0 : Int32)), .val (.ref u1), .val (.long vv), .second, .val (.ref x_8), .val (.int (98 : Int32))] [(.long (1000000 : Int64)), (.long vv), (.int (6 : Int32)), (.ref x_8)])) rfl (by rw [hml]; rfl) (argsL := [(.ref x_8), (.int (6 : Int32)), (.long vv), (.long (1000000 : Int64))]) (rest := []) (lenOf own_pd26 rfl) rfl (by show 2 * 0 + _ ≤ _; exact Nat.le_of_eq rfl) (hb hby at_158) (fun _ _ => ⟨rfl, hh50, (by decide : 14 + 0 ≤ _), (by decide : 344 + 0 ≤ _)⟩)
    dsimp only [Pt.U, Pt.locs, Pt.cells, Pt.slots] at X51 l51 y51 z51 st51 hQ51
    subst l51 y51 z51
    obtain ⟨rfl, Nq51, hh51⟩ := hQ51
    have N51 := Fr.app N50 Nq51
    obtain ⟨Lg52, X52, N52⟩ : ∃ L' : List Loc, Stand p l e room_1 (s.setVm T8.vm) m #[(.int i0), (.long lq1)] below meth c T51 L' 14 344 ∧ Fr n0 L' := ⟨_, X51, N51⟩
    obtain ⟨_, _, ⟨T53, L53, k53, n53⟩, -, X53, ⟨Lc53, hQ53, l53, y53, z53⟩, st53⟩ := Jvm.LawKit.callS X52 hx (y := (⟨"com/example/uketsuke/uketsuke/store/IdFormatFormatPinLaw", "digitAt", "(Ljava/lang/String;IJJ)Z"⟩ : MethodName)) hown (mvT hZ (hw _ (List.mem_of_getElem? (i := 199) rfl))) (mvT hZ (hw _ (List.mem_of_getElem? (i := 200) rfl))) (mvT hZ (hw _ (List.mem_of_getElem? (i := 201) rfl))) (mvT hZ (hw _ (List.mem_of_getElem? (i := 202) rfl))) (by decide) (backOf (W := 0) (own_dAt l Z a0 hw [] (x_8) (t_8) (kt_8) (((([] ++ ([98, 105, 100] : List Int32)) ++ (([] ++ List.replicate cnt (48 : Int32)) ++ own_decL nn)))) ((3 + 4)) (vv) (nn) (100000) (gCS) (gFM) T8.heap n0 (O30.keep K31 all0) (po8_3) (hvn) (by decide) (by decide) (by rw [hl3]; decide) (own_fmtAt (i := 4) rfl (by omega) hcd (by decide)) (hp8) (hG1) (hp10) (hG3)) hZ (hw _ (List.mem_of_getElem? (i := 202) rfl)) (hw _ (List.mem_of_getElem? (i := 201) rfl)) (by decide) (by decide)) (g := (mkF m 173 #[.val (.int i0), .val (.long lq1), .second, .val (.int (0 : Int32)), .val (.ref u1), .val (.long vv), .second, .val (.ref x_8), .val (.int (98 : Int32))] [(.long (100000 : Int64)), (.long vv), (.int (7 : Int32)), (.ref x_8)])) rfl (by rw [hml]; rfl) (argsL := [(.ref x_8), (.int (7 : Int32)), (.long vv), (.long (100000 : Int64))]) (rest := []) (lenOf own_pd26 rfl) rfl (by show 2 * 0 + _ ≤ _; exact Nat.le_of_eq rfl) (hb hby at_173) (fun _ _ => ⟨rfl, hh51, (by decide : 14 + 0 ≤ _), (by decide : 344 + 0 ≤ _)⟩)
    dsimp only [Pt.U, Pt.locs, Pt.cells, Pt.slots] at X53 l53 y53 z53 st53 hQ53
    subst l53 y53 z53
    obtain ⟨rfl, Nq53, hh53⟩ := hQ53
    have N53 := Fr.app N52 Nq53
    obtain ⟨_, _, ⟨T54, L54, k54, n54⟩, -, X54, ⟨Lc54, hQ54, l54, y54, z54⟩, st54⟩ := Jvm.LawKit.callS X53 hx (y := (⟨"com/example/uketsuke/uketsuke/store/IdFormatFormatPinLaw", "digitAt", "(Ljava/lang/String;IJJ)Z"⟩ : MethodName)) hown (mvT hZ (hw _ (List.mem_of_getElem? (i := 199) rfl))) (mvT hZ (hw _ (List.mem_of_getElem? (i := 200) rfl))) (mvT hZ (hw _ (List.mem_of_getElem? (i := 201) rfl))) (mvT hZ (hw _ (List.mem_of_getElem? (i := 202) rfl))) (by decide) (backOf (W := 0) (own_dAt l Z a0 hw [] (x_8) (t_8) (kt_8) (((([] ++ ([98, 105, 100] : List Int32)) ++ (([] ++ List.replicate cnt (48 : Int32)) ++ own_decL nn)))) ((3 + 5)) (vv) (nn) (10000) (gCS) (gFM) T8.heap n0 (O30.keep K31 all0) (po8_3) (hvn) (by decide) (by decide) (by rw [hl3]; decide) (own_fmtAt (i := 5) rfl (by omega) hcd (by decide)) (hp8) (hG1) (hp10) (hG3)) hZ (hw _ (List.mem_of_getElem? (i := 202) rfl)) (hw _ (List.mem_of_getElem? (i := 201) rfl)) (by decide) (by decide)) (g := (mkF m 188 #[.val (.int i0), .val (.long lq1), .second, .val (.int (0 : Int32)), .val (.ref u1), .val (.long vv), .second, .val (.ref x_8), .val (.int (98 : Int32))] [(.long (10000 : Int64)), (.long vv), (.int (8 : Int32)), (.ref x_8)])) rfl (by rw [hml]; rfl) (argsL := [(.ref x_8), (.int (8 : Int32)), (.long vv), (.long (10000 : Int64))]) (rest := []) (lenOf own_pd26 rfl) rfl (by show 2 * 0 + _ ≤ _; exact Nat.le_of_eq rfl) (hb hby at_188) (fun _ _ => ⟨rfl, hh53, (by decide : 14 + 0 ≤ _), (by decide : 344 + 0 ≤ _)⟩)
    dsimp only [Pt.U, Pt.locs, Pt.cells, Pt.slots] at X54 l54 y54 z54 st54 hQ54
    subst l54 y54 z54
    obtain ⟨rfl, Nq54, hh54⟩ := hQ54
    have N54 := Fr.app N53 Nq54
    obtain ⟨Lg55, X55, N55⟩ : ∃ L' : List Loc, Stand p l e room_1 (s.setVm T8.vm) m #[(.int i0), (.long lq1)] below meth c T54 L' 14 344 ∧ Fr n0 L' := ⟨_, X54, N54⟩
    obtain ⟨_, _, ⟨T56, L56, k56, n56⟩, -, X56, ⟨Lc56, hQ56, l56, y56, z56⟩, st56⟩ := Jvm.LawKit.callS X55 hx (y := (⟨"com/example/uketsuke/uketsuke/store/IdFormatFormatPinLaw", "digitAt", "(Ljava/lang/String;IJJ)Z"⟩ : MethodName)) hown (mvT hZ (hw _ (List.mem_of_getElem? (i := 199) rfl))) (mvT hZ (hw _ (List.mem_of_getElem? (i := 200) rfl))) (mvT hZ (hw _ (List.mem_of_getElem? (i := 201) rfl))) (mvT hZ (hw _ (List.mem_of_getElem? (i := 202) rfl))) (by decide) (backOf (W := 0) (own_dAt l Z a0 hw [] (x_8) (t_8) (kt_8) (((([] ++ ([98, 105, 100] : List Int32)) ++ (([] ++ List.replicate cnt (48 : Int32)) ++ own_decL nn)))) ((3 + 6)) (vv) (nn) (1000) (gCS) (gFM) T8.heap n0 (O30.keep K31 all0) (po8_3) (hvn) (by decide) (by decide) (by rw [hl3]; decide) (own_fmtAt (i := 6) rfl (by omega) hcd (by decide)) (hp8) (hG1) (hp10) (hG3)) hZ (hw _ (List.mem_of_getElem? (i := 202) rfl)) (hw _ (List.mem_of_getElem? (i := 201) rfl)) (by decide) (by decide)) (g := (mkF m 203 #[.val (.int i0), .val (.long lq1), .second, .val (.int (0 : Int32)), .val (.ref u1), .val (.long vv), .second, .val (.ref x_8), .val (.int (98 : Int32))] [(.long (1000 : Int64)), (.long vv), (.int (9 : Int32)), (.ref x_8)])) rfl (by rw [hml]; rfl) (argsL := [(.ref x_8), (.int (9 : Int32)), (.long vv), (.long (1000 : Int64))]) (rest := []) (lenOf own_pd26 rfl) rfl (by show 2 * 0 + _ ≤ _; exact Nat.le_of_eq rfl) (hb hby at_203) (fun _ _ => ⟨rfl, hh54, (by decide : 14 + 0 ≤ _), (by decide : 344 + 0 ≤ _)⟩)
    dsimp only [Pt.U, Pt.locs, Pt.cells, Pt.slots] at X56 l56 y56 z56 st56 hQ56
    subst l56 y56 z56
    obtain ⟨rfl, Nq56, hh56⟩ := hQ56
    have N56 := Fr.app N55 Nq56
    obtain ⟨_, _, ⟨T57, L57, k57, n57⟩, -, X57, ⟨Lc57, hQ57, l57, y57, z57⟩, st57⟩ := Jvm.LawKit.callS X56 hx (y := (⟨"com/example/uketsuke/uketsuke/store/IdFormatFormatPinLaw", "digitAt", "(Ljava/lang/String;IJJ)Z"⟩ : MethodName)) hown (mvT hZ (hw _ (List.mem_of_getElem? (i := 199) rfl))) (mvT hZ (hw _ (List.mem_of_getElem? (i := 200) rfl))) (mvT hZ (hw _ (List.mem_of_getElem? (i := 201) rfl))) (mvT hZ (hw _ (List.mem_of_getElem? (i := 202) rfl))) (by decide) (backOf (W := 0) (own_dAt l Z a0 hw [] (x_8) (t_8) (kt_8) (((([] ++ ([98, 105, 100] : List Int32)) ++ (([] ++ List.replicate cnt (48 : Int32)) ++ own_decL nn)))) ((3 + 7)) (vv) (nn) (100) (gCS) (gFM) T8.heap n0 (O30.keep K31 all0) (po8_3) (hvn) (by decide) (by decide) (by rw [hl3]; decide) (own_fmtAt (i := 7) rfl (by omega) hcd (by decide)) (hp8) (hG1) (hp10) (hG3)) hZ (hw _ (List.mem_of_getElem? (i := 202) rfl)) (hw _ (List.mem_of_getElem? (i := 201) rfl)) (by decide) (by decide)) (g := (mkF m 218 #[.val (.int i0), .val (.long lq1), .second, .val (.int (0 : Int32)), .val (.ref u1), .val (.long vv), .second, .val (.ref x_8), .val (.int (98 : Int32))] [(.long (100 : Int64)), (.long vv), (.int (10 : Int32)), (.ref x_8)])) rfl (by rw [hml]; rfl) (argsL := [(.ref x_8), (.int (10 : Int32)), (.long vv), (.long (100 : Int64))]) (rest := []) (lenOf own_pd26 rfl) rfl (by show 2 * 0 + _ ≤ _; exact Nat.le_of_eq rfl) (hb hby at_218) (fun _ _ => ⟨rfl, hh56, (by decide : 14 + 0 ≤ _), (by decide : 344 + 0 ≤ _)⟩)
    dsimp only [Pt.U, Pt.locs, Pt.cells, Pt.slots] at X57 l57 y57 z57 st57 hQ57
    subst l57 y57 z57
    obtain ⟨rfl, Nq57, hh57⟩ := hQ57
    have N57 := Fr.app N56 Nq57
    obtain ⟨Lg58, X58, N58⟩ : ∃ L' : List Loc, Stand p l e room_1 (s.setVm T8.vm) m #[(.int i0), (.long lq1)] below meth c T57 L' 14 344 ∧ Fr n0 L' := ⟨_, X57, N57⟩
    obtain ⟨_, _, ⟨T59, L59, k59, n59⟩, -, X59, ⟨Lc59, hQ59, l59, y59, z59⟩, st59⟩ := Jvm.LawKit.callS X58 hx (y := (⟨"com/example/uketsuke/uketsuke/store/IdFormatFormatPinLaw", "digitAt", "(Ljava/lang/String;IJJ)Z"⟩ : MethodName)) hown (mvT hZ (hw _ (List.mem_of_getElem? (i := 199) rfl))) (mvT hZ (hw _ (List.mem_of_getElem? (i := 200) rfl))) (mvT hZ (hw _ (List.mem_of_getElem? (i := 201) rfl))) (mvT hZ (hw _ (List.mem_of_getElem? (i := 202) rfl))) (by decide) (backOf (W := 0) (own_dAt l Z a0 hw [] (x_8) (t_8) (kt_8) (((([] ++ ([98, 105, 100] : List Int32)) ++ (([] ++ List.replicate cnt (48 : Int32)) ++ own_decL nn)))) ((3 + 8)) (vv) (nn) (10) (gCS) (gFM) T8.heap n0 (O30.keep K31 all0) (po8_3) (hvn) (by decide) (by decide) (by rw [hl3]; decide) (own_fmtAt (i := 8) rfl (by omega) hcd (by decide)) (hp8) (hG1) (hp10) (hG3)) hZ (hw _ (List.mem_of_getElem? (i := 202) rfl)) (hw _ (List.mem_of_getElem? (i := 201) rfl)) (by decide) (by decide)) (g := (mkF m 233 #[.val (.int i0), .val (.long lq1), .second, .val (.int (0 : Int32)), .val (.ref u1), .val (.long vv), .second, .val (.ref x_8), .val (.int (98 : Int32))] [(.long (10 : Int64)), (.long vv), (.int (11 : Int32)), (.ref x_8)])) rfl (by rw [hml]; rfl) (argsL := [(.ref x_8), (.int (11 : Int32)), (.long vv), (.long (10 : Int64))]) (rest := []) (lenOf own_pd26 rfl) rfl (by show 2 * 0 + _ ≤ _; exact Nat.le_of_eq rfl) (hb hby at_233) (fun _ _ => ⟨rfl, hh57, (by decide : 14 + 0 ≤ _), (by decide : 344 + 0 ≤ _)⟩)
    dsimp only [Pt.U, Pt.locs, Pt.cells, Pt.slots] at X59 l59 y59 z59 st59 hQ59
    subst l59 y59 z59
    obtain ⟨rfl, Nq59, hh59⟩ := hQ59
    have N59 := Fr.app N58 Nq59
    obtain ⟨_, _, ⟨T60, L60, k60, n60⟩, -, X60, ⟨Lc60, hQ60, l60, y60, z60⟩, st60⟩ := Jvm.LawKit.callS X59 hx (y := (⟨"com/example/uketsuke/uketsuke/store/IdFormatFormatPinLaw", "digitAt", "(Ljava/lang/String;IJJ)Z"⟩ : MethodName)) hown (mvT hZ (hw _ (List.mem_of_getElem? (i := 199) rfl))) (mvT hZ (hw _ (List.mem_of_getElem? (i := 200) rfl))) (mvT hZ (hw _ (List.mem_of_getElem? (i := 201) rfl))) (mvT hZ (hw _ (List.mem_of_getElem? (i := 202) rfl))) (by decide) (backOf (W := 0) (own_dAt l Z a0 hw [] (x_8) (t_8) (kt_8) (((([] ++ ([98, 105, 100] : List Int32)) ++ (([] ++ List.replicate cnt (48 : Int32)) ++ own_decL nn)))) ((3 + 9)) (vv) (nn) (1) (gCS) (gFM) T8.heap n0 (O30.keep K31 all0) (po8_3) (hvn) (by decide) (by decide) (by rw [hl3]; decide) (own_fmtAt (i := 9) rfl (by omega) hcd (by decide)) (hp8) (hG1) (hp10) (hG3)) hZ (hw _ (List.mem_of_getElem? (i := 202) rfl)) (hw _ (List.mem_of_getElem? (i := 201) rfl)) (by decide) (by decide)) (g := (mkF m 246 #[.val (.int i0), .val (.long lq1), .second, .val (.int (0 : Int32)), .val (.ref u1), .val (.long vv), .second, .val (.ref x_8), .val (.int (98 : Int32))] [(.long (1 : Int64)), (.long vv), (.int (12 : Int32)), (.ref x_8)])) rfl (by rw [hml]; rfl) (argsL := [(.ref x_8), (.int (12 : Int32)), (.long vv), (.long (1 : Int64))]) (rest := []) (lenOf own_pd26 rfl) rfl (by show 2 * 0 + _ ≤ _; exact Nat.le_of_eq rfl) (hb hby at_246) (fun _ _ => ⟨rfl, hh59, (by decide : 14 + 0 ≤ _), (by decide : 344 + 0 ≤ _)⟩)
    dsimp only [Pt.U, Pt.locs, Pt.cells, Pt.slots] at X60 l60 y60 z60 st60 hQ60
    subst l60 y60 z60
    obtain ⟨rfl, Nq60, hh60⟩ := hQ60
    have N60 := Fr.app N59 Nq60
    obtain ⟨fs, hr, hrun, hended, hRW⟩ := Stand.leaveW (s := s) (vm₁ := T8.vm) X60 hSn8 (by rw [hh60]; exact (Nat.le_trans (Nat.le_refl _) K31.1)) (v := some (.int (nar .boolean (1 : Int32)))) (fun h => by rw [Bd.returns] at h; cases h)
    refine ⟨_, _, r45 _ ?_, hrun, hended, _, _, rfl, ?_, ⟨hRW.1, hRW.2.1, hRW.2.2.1, hRW.2.2.2.mono (by decide) (by decide)⟩⟩
    · show Steps p.tables e below (T43.setTop (mkF m 100 #[.val (.int i0), .val (.long lq1), .second, .val (.int (0 : Int32)), .val (.ref u1), .val (.long vv), .second, .val (.ref x_8), .val (.int (98 : Int32))] [(.int (100 : Int32))])) _
      refine XS.bipush X43.here hx rfl (hb hby at_100) ?_
      show Steps p.tables e below (T43.setTop (mkF m 102 #[.val (.int i0), .val (.long lq1), .second, .val (.int (0 : Int32)), .val (.ref u1), .val (.long vv), .second, .val (.ref x_8), .val (.int (98 : Int32))] [(.int (100 : Int32)), (.int (100 : Int32))])) _
      refine XS.icmpYes X43.here hx rfl (pc0 := 102) (pc' := 107) rfl (hb hby at_102) rfl (teq rfl).1 (by decide) (by decide) ?_
      show Steps p.tables e below (T43.setTop (mkF m 107 #[.val (.int i0), .val (.long lq1), .second, .val (.int (0 : Int32)), .val (.ref u1), .val (.long vv), .second, .val (.ref x_8), .val (.int (98 : Int32))] [])) _
      refine XS.aload X43.here hx rfl (hb hby at_107) rfl rfl ?_
      show Steps p.tables e below (T43.setTop (mkF m 109 #[.val (.int i0), .val (.long lq1), .second, .val (.int (0 : Int32)), .val (.ref u1), .val (.long vv), .second, .val (.ref x_8), .val (.int (98 : Int32))] [(.ref x_8)])) _
      refine XS.iconst X43.here hx rfl (hb hby at_109) ?_
      show Steps p.tables e below (T43.setTop (mkF m 110 #[.val (.int i0), .val (.long lq1), .second, .val (.int (0 : Int32)), .val (.ref u1), .val (.long vv), .second, .val (.ref x_8), .val (.int (98 : Int32))] [(.int (3 : Int32)), (.ref x_8)])) _
      refine XS.lload X43.here hx rfl (hb hby at_110) rfl ?_
      show Steps p.tables e below (T43.setTop (mkF m 112 #[.val (.int i0), .val (.long lq1), .second, .val (.int (0 : Int32)), .val (.ref u1), .val (.long vv), .second, .val (.ref x_8), .val (.int (98 : Int32))] [(.long vv), (.int (3 : Int32)), (.ref x_8)])) _
      refine X43.ldc2J hx hown (mvT hZ (hw _ (List.mem_of_getElem? (i := 198) rfl))) rfl (hb hby at_112) ?_
      show Steps p.tables e below (T43.setTop (mkF m 115 #[.val (.int i0), .val (.long lq1), .second, .val (.int (0 : Int32)), .val (.ref u1), .val (.long vv), .second, .val (.ref x_8), .val (.int (98 : Int32))] [(.long (1000000000 : Int64)), (.long vv), (.int (3 : Int32)), (.ref x_8)])) _
      refine st47 _ ?_
      show Steps p.tables e below (T47.setTop (mkF m 118 #[.val (.int i0), .val (.long lq1), .second, .val (.int (0 : Int32)), .val (.ref u1), .val (.long vv), .second, .val (.ref x_8), .val (.int (98 : Int32))] [(.int (1 : Int32))])) _
      refine XS.ifNo X47.here hx rfl (hb hby at_118) rfl ((if0 _ _).trans (feq (by decide)).1) ?_
      show Steps p.tables e below (T47.setTop (mkF m 121 #[.val (.int i0), .val (.long lq1), .second, .val (.int (0 : Int32)), .val (.ref u1), .val (.long vv), .second, .val (.ref x_8), .val (.int (98 : Int32))] [])) _
      refine XS.aload X47.here hx rfl (hb hby at_121) rfl rfl ?_
      show Steps p.tables e below (T47.setTop (mkF m 123 #[.val (.int i0), .val (.long lq1), .second, .val (.int (0 : Int32)), .val (.ref u1), .val (.long vv), .second, .val (.ref x_8), .val (.int (98 : Int32))] [(.ref x_8)])) _
      refine XS.iconst X47.here hx rfl (hb hby at_123) ?_
      show Steps p.tables e below (T47.setTop (mkF m 124 #[.val (.int i0), .val (.long lq1), .second, .val (.int (0 : Int32)), .val (.ref u1), .val (.long vv), .second, .val (.ref x_8), .val (.int (98 : Int32))] [(.int (4 : Int32)), (.ref x_8)])) _
      refine XS.lload X47.here hx rfl (hb hby at_124) rfl ?_
      show Steps p.tables e below (T47.setTop (mkF m 126 #[.val (.int i0), .val (.long lq1), .second, .val (.int (0 : Int32)), .val (.ref u1), .val (.long vv), .second, .val (.ref x_8), .val (.int (98 : Int32))] [(.long vv), (.int (4 : Int32)), (.ref x_8)])) _
      refine X47.ldc2J hx hown (mvT hZ (hw _ (List.mem_of_getElem? (i := 204) rfl))) rfl (hb hby at_126) ?_
      show Steps p.tables e below (T47.setTop (mkF m 129 #[.val (.int i0), .val (.long lq1), .second, .val (.int (0 : Int32)), .val (.ref u1), .val (.long vv), .second, .val (.ref x_8), .val (.int (98 : Int32))] [(.long (100000000 : Int64)), (.long vv), (.int (4 : Int32)), (.ref x_8)])) _
      refine st48 _ ?_
      show Steps p.tables e below (T48.setTop (mkF m 132 #[.val (.int i0), .val (.long lq1), .second, .val (.int (0 : Int32)), .val (.ref u1), .val (.long vv), .second, .val (.ref x_8), .val (.int (98 : Int32))] [(.int (1 : Int32))])) _
      refine XS.ifNo X48.here hx rfl (hb hby at_132) rfl ((if0 _ _).trans (feq (by decide)).1) ?_
      show Steps p.tables e below (T48.setTop (mkF m 135 #[.val (.int i0), .val (.long lq1), .second, .val (.int (0 : Int32)), .val (.ref u1), .val (.long vv), .second, .val (.ref x_8), .val (.int (98 : Int32))] [])) _
      refine XS.aload X48.here hx rfl (hb hby at_135) rfl rfl ?_
      show Steps p.tables e below (T48.setTop (mkF m 137 #[.val (.int i0), .val (.long lq1), .second, .val (.int (0 : Int32)), .val (.ref u1), .val (.long vv), .second, .val (.ref x_8), .val (.int (98 : Int32))] [(.ref x_8)])) _
      refine XS.iconst X48.here hx rfl (hb hby at_137) ?_
      show Steps p.tables e below (T48.setTop (mkF m 138 #[.val (.int i0), .val (.long lq1), .second, .val (.int (0 : Int32)), .val (.ref u1), .val (.long vv), .second, .val (.ref x_8), .val (.int (98 : Int32))] [(.int (5 : Int32)), (.ref x_8)])) _
      refine XS.lload X48.here hx rfl (hb hby at_138) rfl ?_
      show Steps p.tables e below (T48.setTop (mkF m 140 #[.val (.int i0), .val (.long lq1), .second, .val (.int (0 : Int32)), .val (.ref u1), .val (.long vv), .second, .val (.ref x_8), .val (.int (98 : Int32))] [(.long vv), (.int (5 : Int32)), (.ref x_8)])) _
      refine X48.ldc2J hx hown (mvT hZ (hw _ (List.mem_of_getElem? (i := 205) rfl))) rfl (hb hby at_140) ?_
      show Steps p.tables e below (T48.setTop (mkF m 143 #[.val (.int i0), .val (.long lq1), .second, .val (.int (0 : Int32)), .val (.ref u1), .val (.long vv), .second, .val (.ref x_8), .val (.int (98 : Int32))] [(.long (10000000 : Int64)), (.long vv), (.int (5 : Int32)), (.ref x_8)])) _
      refine st50 _ ?_
      show Steps p.tables e below (T50.setTop (mkF m 146 #[.val (.int i0), .val (.long lq1), .second, .val (.int (0 : Int32)), .val (.ref u1), .val (.long vv), .second, .val (.ref x_8), .val (.int (98 : Int32))] [(.int (1 : Int32))])) _
      refine XS.ifNo X50.here hx rfl (hb hby at_146) rfl ((if0 _ _).trans (feq (by decide)).1) ?_
      show Steps p.tables e below (T50.setTop (mkF m 149 #[.val (.int i0), .val (.long lq1), .second, .val (.int (0 : Int32)), .val (.ref u1), .val (.long vv), .second, .val (.ref x_8), .val (.int (98 : Int32))] [])) _
      refine XS.aload X50.here hx rfl (hb hby at_149) rfl rfl ?_
      show Steps p.tables e below (T50.setTop (mkF m 151 #[.val (.int i0), .val (.long lq1), .second, .val (.int (0 : Int32)), .val (.ref u1), .val (.long vv), .second, .val (.ref x_8), .val (.int (98 : Int32))] [(.ref x_8)])) _
      refine XS.bipush X50.here hx rfl (hb hby at_151) ?_
      show Steps p.tables e below (T50.setTop (mkF m 153 #[.val (.int i0), .val (.long lq1), .second, .val (.int (0 : Int32)), .val (.ref u1), .val (.long vv), .second, .val (.ref x_8), .val (.int (98 : Int32))] [(.int (6 : Int32)), (.ref x_8)])) _
      refine XS.lload X50.here hx rfl (hb hby at_153) rfl ?_
      show Steps p.tables e below (T50.setTop (mkF m 155 #[.val (.int i0), .val (.long lq1), .second, .val (.int (0 : Int32)), .val (.ref u1), .val (.long vv), .second, .val (.ref x_8), .val (.int (98 : Int32))] [(.long vv), (.int (6 : Int32)), (.ref x_8)])) _
      refine X50.ldc2J hx hown (mvT hZ (hw _ (List.mem_of_getElem? (i := 206) rfl))) rfl (hb hby at_155) ?_
      show Steps p.tables e below (T50.setTop (mkF m 158 #[.val (.int i0), .val (.long lq1), .second, .val (.int (0 : Int32)), .val (.ref u1), .val (.long vv), .second, .val (.ref x_8), .val (.int (98 : Int32))] [(.long (1000000 : Int64)), (.long vv), (.int (6 : Int32)), (.ref x_8)])) _
      refine st51 _ ?_
      show Steps p.tables e below (T51.setTop (mkF m 161 #[.val (.int i0), .val (.long lq1), .second, .val (.int (0 : Int32)), .val (.ref u1), .val (.long vv), .second, .val (.ref x_8), .val (.int (98 : Int32))] [(.int (1 : Int32))])) _
      refine XS.ifNo X51.here hx rfl (hb hby at_161) rfl ((if0 _ _).trans (feq (by decide)).1) ?_
      show Steps p.tables e below (T51.setTop (mkF m 164 #[.val (.int i0), .val (.long lq1), .second, .val (.int (0 : Int32)), .val (.ref u1), .val (.long vv), .second, .val (.ref x_8), .val (.int (98 : Int32))] [])) _
      refine XS.aload X51.here hx rfl (hb hby at_164) rfl rfl ?_
      show Steps p.tables e below (T51.setTop (mkF m 166 #[.val (.int i0), .val (.long lq1), .second, .val (.int (0 : Int32)), .val (.ref u1), .val (.long vv), .second, .val (.ref x_8), .val (.int (98 : Int32))] [(.ref x_8)])) _
      refine XS.bipush X51.here hx rfl (hb hby at_166) ?_
      show Steps p.tables e below (T51.setTop (mkF m 168 #[.val (.int i0), .val (.long lq1), .second, .val (.int (0 : Int32)), .val (.ref u1), .val (.long vv), .second, .val (.ref x_8), .val (.int (98 : Int32))] [(.int (7 : Int32)), (.ref x_8)])) _
      refine XS.lload X51.here hx rfl (hb hby at_168) rfl ?_
      show Steps p.tables e below (T51.setTop (mkF m 170 #[.val (.int i0), .val (.long lq1), .second, .val (.int (0 : Int32)), .val (.ref u1), .val (.long vv), .second, .val (.ref x_8), .val (.int (98 : Int32))] [(.long vv), (.int (7 : Int32)), (.ref x_8)])) _
      refine X51.ldc2J hx hown (mvT hZ (hw _ (List.mem_of_getElem? (i := 207) rfl))) rfl (hb hby at_170) ?_
      show Steps p.tables e below (T51.setTop (mkF m 173 #[.val (.int i0), .val (.long lq1), .second, .val (.int (0 : Int32)), .val (.ref u1), .val (.long vv), .second, .val (.ref x_8), .val (.int (98 : Int32))] [(.long (100000 : Int64)), (.long vv), (.int (7 : Int32)), (.ref x_8)])) _
      refine st53 _ ?_
      show Steps p.tables e below (T53.setTop (mkF m 176 #[.val (.int i0), .val (.long lq1), .second, .val (.int (0 : Int32)), .val (.ref u1), .val (.long vv), .second, .val (.ref x_8), .val (.int (98 : Int32))] [(.int (1 : Int32))])) _
      refine XS.ifNo X53.here hx rfl (hb hby at_176) rfl ((if0 _ _).trans (feq (by decide)).1) ?_
      show Steps p.tables e below (T53.setTop (mkF m 179 #[.val (.int i0), .val (.long lq1), .second, .val (.int (0 : Int32)), .val (.ref u1), .val (.long vv), .second, .val (.ref x_8), .val (.int (98 : Int32))] [])) _
      refine XS.aload X53.here hx rfl (hb hby at_179) rfl rfl ?_
      show Steps p.tables e below (T53.setTop (mkF m 181 #[.val (.int i0), .val (.long lq1), .second, .val (.int (0 : Int32)), .val (.ref u1), .val (.long vv), .second, .val (.ref x_8), .val (.int (98 : Int32))] [(.ref x_8)])) _
      refine XS.bipush X53.here hx rfl (hb hby at_181) ?_
      show Steps p.tables e below (T53.setTop (mkF m 183 #[.val (.int i0), .val (.long lq1), .second, .val (.int (0 : Int32)), .val (.ref u1), .val (.long vv), .second, .val (.ref x_8), .val (.int (98 : Int32))] [(.int (8 : Int32)), (.ref x_8)])) _
      refine XS.lload X53.here hx rfl (hb hby at_183) rfl ?_
      show Steps p.tables e below (T53.setTop (mkF m 185 #[.val (.int i0), .val (.long lq1), .second, .val (.int (0 : Int32)), .val (.ref u1), .val (.long vv), .second, .val (.ref x_8), .val (.int (98 : Int32))] [(.long vv), (.int (8 : Int32)), (.ref x_8)])) _
      refine X53.ldc2J hx hown (mvT hZ (hw _ (List.mem_of_getElem? (i := 208) rfl))) rfl (hb hby at_185) ?_
      show Steps p.tables e below (T53.setTop (mkF m 188 #[.val (.int i0), .val (.long lq1), .second, .val (.int (0 : Int32)), .val (.ref u1), .val (.long vv), .second, .val (.ref x_8), .val (.int (98 : Int32))] [(.long (10000 : Int64)), (.long vv), (.int (8 : Int32)), (.ref x_8)])) _
      refine st54 _ ?_
      show Steps p.tables e below (T54.setTop (mkF m 191 #[.val (.int i0), .val (.long lq1), .second, .val (.int (0 : Int32)), .val (.ref u1), .val (.long vv), .second, .val (.ref x_8), .val (.int (98 : Int32))] [(.int (1 : Int32))])) _
      refine XS.ifNo X54.here hx rfl (hb hby at_191) rfl ((if0 _ _).trans (feq (by decide)).1) ?_
      show Steps p.tables e below (T54.setTop (mkF m 194 #[.val (.int i0), .val (.long lq1), .second, .val (.int (0 : Int32)), .val (.ref u1), .val (.long vv), .second, .val (.ref x_8), .val (.int (98 : Int32))] [])) _
      refine XS.aload X54.here hx rfl (hb hby at_194) rfl rfl ?_
      show Steps p.tables e below (T54.setTop (mkF m 196 #[.val (.int i0), .val (.long lq1), .second, .val (.int (0 : Int32)), .val (.ref u1), .val (.long vv), .second, .val (.ref x_8), .val (.int (98 : Int32))] [(.ref x_8)])) _
      refine XS.bipush X54.here hx rfl (hb hby at_196) ?_
      show Steps p.tables e below (T54.setTop (mkF m 198 #[.val (.int i0), .val (.long lq1), .second, .val (.int (0 : Int32)), .val (.ref u1), .val (.long vv), .second, .val (.ref x_8), .val (.int (98 : Int32))] [(.int (9 : Int32)), (.ref x_8)])) _
      refine XS.lload X54.here hx rfl (hb hby at_198) rfl ?_
      show Steps p.tables e below (T54.setTop (mkF m 200 #[.val (.int i0), .val (.long lq1), .second, .val (.int (0 : Int32)), .val (.ref u1), .val (.long vv), .second, .val (.ref x_8), .val (.int (98 : Int32))] [(.long vv), (.int (9 : Int32)), (.ref x_8)])) _
      refine X54.ldc2J hx hown (mvT hZ (hw _ (List.mem_of_getElem? (i := 209) rfl))) rfl (hb hby at_200) ?_
      show Steps p.tables e below (T54.setTop (mkF m 203 #[.val (.int i0), .val (.long lq1), .second, .val (.int (0 : Int32)), .val (.ref u1), .val (.long vv), .second, .val (.ref x_8), .val (.int (98 : Int32))] [(.long (1000 : Int64)), (.long vv), (.int (9 : Int32)), (.ref x_8)])) _
      refine st56 _ ?_
      show Steps p.tables e below (T56.setTop (mkF m 206 #[.val (.int i0), .val (.long lq1), .second, .val (.int (0 : Int32)), .val (.ref u1), .val (.long vv), .second, .val (.ref x_8), .val (.int (98 : Int32))] [(.int (1 : Int32))])) _
      refine XS.ifNo X56.here hx rfl (hb hby at_206) rfl ((if0 _ _).trans (feq (by decide)).1) ?_
      show Steps p.tables e below (T56.setTop (mkF m 209 #[.val (.int i0), .val (.long lq1), .second, .val (.int (0 : Int32)), .val (.ref u1), .val (.long vv), .second, .val (.ref x_8), .val (.int (98 : Int32))] [])) _
      refine XS.aload X56.here hx rfl (hb hby at_209) rfl rfl ?_
      show Steps p.tables e below (T56.setTop (mkF m 211 #[.val (.int i0), .val (.long lq1), .second, .val (.int (0 : Int32)), .val (.ref u1), .val (.long vv), .second, .val (.ref x_8), .val (.int (98 : Int32))] [(.ref x_8)])) _
      refine XS.bipush X56.here hx rfl (hb hby at_211) ?_
      show Steps p.tables e below (T56.setTop (mkF m 213 #[.val (.int i0), .val (.long lq1), .second, .val (.int (0 : Int32)), .val (.ref u1), .val (.long vv), .second, .val (.ref x_8), .val (.int (98 : Int32))] [(.int (10 : Int32)), (.ref x_8)])) _
      refine XS.lload X56.here hx rfl (hb hby at_213) rfl ?_
      show Steps p.tables e below (T56.setTop (mkF m 215 #[.val (.int i0), .val (.long lq1), .second, .val (.int (0 : Int32)), .val (.ref u1), .val (.long vv), .second, .val (.ref x_8), .val (.int (98 : Int32))] [(.long vv), (.int (10 : Int32)), (.ref x_8)])) _
      refine X56.ldc2J hx hown (mvT hZ (hw _ (List.mem_of_getElem? (i := 210) rfl))) rfl (hb hby at_215) ?_
      show Steps p.tables e below (T56.setTop (mkF m 218 #[.val (.int i0), .val (.long lq1), .second, .val (.int (0 : Int32)), .val (.ref u1), .val (.long vv), .second, .val (.ref x_8), .val (.int (98 : Int32))] [(.long (100 : Int64)), (.long vv), (.int (10 : Int32)), (.ref x_8)])) _
      refine st57 _ ?_
      show Steps p.tables e below (T57.setTop (mkF m 221 #[.val (.int i0), .val (.long lq1), .second, .val (.int (0 : Int32)), .val (.ref u1), .val (.long vv), .second, .val (.ref x_8), .val (.int (98 : Int32))] [(.int (1 : Int32))])) _
      refine XS.ifNo X57.here hx rfl (hb hby at_221) rfl ((if0 _ _).trans (feq (by decide)).1) ?_
      show Steps p.tables e below (T57.setTop (mkF m 224 #[.val (.int i0), .val (.long lq1), .second, .val (.int (0 : Int32)), .val (.ref u1), .val (.long vv), .second, .val (.ref x_8), .val (.int (98 : Int32))] [])) _
      refine XS.aload X57.here hx rfl (hb hby at_224) rfl rfl ?_
      show Steps p.tables e below (T57.setTop (mkF m 226 #[.val (.int i0), .val (.long lq1), .second, .val (.int (0 : Int32)), .val (.ref u1), .val (.long vv), .second, .val (.ref x_8), .val (.int (98 : Int32))] [(.ref x_8)])) _
      refine XS.bipush X57.here hx rfl (hb hby at_226) ?_
      show Steps p.tables e below (T57.setTop (mkF m 228 #[.val (.int i0), .val (.long lq1), .second, .val (.int (0 : Int32)), .val (.ref u1), .val (.long vv), .second, .val (.ref x_8), .val (.int (98 : Int32))] [(.int (11 : Int32)), (.ref x_8)])) _
      refine XS.lload X57.here hx rfl (hb hby at_228) rfl ?_
      show Steps p.tables e below (T57.setTop (mkF m 230 #[.val (.int i0), .val (.long lq1), .second, .val (.int (0 : Int32)), .val (.ref u1), .val (.long vv), .second, .val (.ref x_8), .val (.int (98 : Int32))] [(.long vv), (.int (11 : Int32)), (.ref x_8)])) _
      refine X57.ldc2J hx hown (mvT hZ (hw _ (List.mem_of_getElem? (i := 203) rfl))) rfl (hb hby at_230) ?_
      show Steps p.tables e below (T57.setTop (mkF m 233 #[.val (.int i0), .val (.long lq1), .second, .val (.int (0 : Int32)), .val (.ref u1), .val (.long vv), .second, .val (.ref x_8), .val (.int (98 : Int32))] [(.long (10 : Int64)), (.long vv), (.int (11 : Int32)), (.ref x_8)])) _
      refine st59 _ ?_
      show Steps p.tables e below (T59.setTop (mkF m 236 #[.val (.int i0), .val (.long lq1), .second, .val (.int (0 : Int32)), .val (.ref u1), .val (.long vv), .second, .val (.ref x_8), .val (.int (98 : Int32))] [(.int (1 : Int32))])) _
      refine XS.ifNo X59.here hx rfl (hb hby at_236) rfl ((if0 _ _).trans (feq (by decide)).1) ?_
      show Steps p.tables e below (T59.setTop (mkF m 239 #[.val (.int i0), .val (.long lq1), .second, .val (.int (0 : Int32)), .val (.ref u1), .val (.long vv), .second, .val (.ref x_8), .val (.int (98 : Int32))] [])) _
      refine XS.aload X59.here hx rfl (hb hby at_239) rfl rfl ?_
      show Steps p.tables e below (T59.setTop (mkF m 241 #[.val (.int i0), .val (.long lq1), .second, .val (.int (0 : Int32)), .val (.ref u1), .val (.long vv), .second, .val (.ref x_8), .val (.int (98 : Int32))] [(.ref x_8)])) _
      refine XS.bipush X59.here hx rfl (hb hby at_241) ?_
      show Steps p.tables e below (T59.setTop (mkF m 243 #[.val (.int i0), .val (.long lq1), .second, .val (.int (0 : Int32)), .val (.ref u1), .val (.long vv), .second, .val (.ref x_8), .val (.int (98 : Int32))] [(.int (12 : Int32)), (.ref x_8)])) _
      refine XS.lload X59.here hx rfl (hb hby at_243) rfl ?_
      show Steps p.tables e below (T59.setTop (mkF m 245 #[.val (.int i0), .val (.long lq1), .second, .val (.int (0 : Int32)), .val (.ref u1), .val (.long vv), .second, .val (.ref x_8), .val (.int (98 : Int32))] [(.long vv), (.int (12 : Int32)), (.ref x_8)])) _
      refine XS.lconst X59.here hx rfl (hb hby at_245) ?_
      show Steps p.tables e below (T59.setTop (mkF m 246 #[.val (.int i0), .val (.long lq1), .second, .val (.int (0 : Int32)), .val (.ref u1), .val (.long vv), .second, .val (.ref x_8), .val (.int (98 : Int32))] [(.long (1 : Int64)), (.long vv), (.int (12 : Int32)), (.ref x_8)])) _
      refine st60 _ ?_
      show Steps p.tables e below (T60.setTop (mkF m 249 #[.val (.int i0), .val (.long lq1), .second, .val (.int (0 : Int32)), .val (.ref u1), .val (.long vv), .second, .val (.ref x_8), .val (.int (98 : Int32))] [(.int (1 : Int32))])) _
      refine XS.ifNo X60.here hx rfl (hb hby at_249) rfl ((if0 _ _).trans (feq (by decide)).1) ?_
      show Steps p.tables e below (T60.setTop (mkF m 252 #[.val (.int i0), .val (.long lq1), .second, .val (.int (0 : Int32)), .val (.ref u1), .val (.long vv), .second, .val (.ref x_8), .val (.int (98 : Int32))] [])) _
      refine XS.iconst X60.here hx rfl (hb hby at_252) ?_
      show Steps p.tables e below (T60.setTop (mkF m 253 #[.val (.int i0), .val (.long lq1), .second, .val (.int (0 : Int32)), .val (.ref u1), .val (.long vv), .second, .val (.ref x_8), .val (.int (98 : Int32))] [(.int (1 : Int32))])) _
      refine XS.goto X60.here hx rfl (pc0 := 253) (pc' := 257) rfl (hb hby at_253) (by decide) (by decide) ?_
      show Steps p.tables e below (T60.setTop (mkF m 257 #[.val (.int i0), .val (.long lq1), .second, .val (.int (0 : Int32)), .val (.ref u1), .val (.long vv), .second, .val (.ref x_8), .val (.int (98 : Int32))] [(.int (1 : Int32))])) _
      exact retN X60 hx (t := .boolean) Bd.returns (by simp) (hb hby at_257) hr
    · show Q_own_law Z i0 lq1 u0 yy0 tyy0 kyy0 u1 yy1 tyy1 kyy1 gCS gFM ist dt1 dt2 cD1 cD2 h0 n0 _ T60.heap _
      rw [hh60]
      exact ⟨rfl, N60⟩
  · obtain ⟨T61, X61, e61, st61⟩ := getS2 X0 hx hZ hown (host := "") (Or.inl (hw _ (List.mem_of_getElem? (i := 211) rfl))) Via.refl e0 (hp0.ext (O0.keep K0 all0).2) (g := (mkF m 16 #[.val (.int i0), .val (.long lq1), .second, .val (.int (1 : Int32)), .unset, .unset, .unset, .unset, .unset] [])) rfl (hb hby at_16)
    have r62 : GoTo p.tables e below s₁ (own_F_own_law m i0 lq1) T61 (mkF m 36 #[.val (.int i0), .val (.long lq1), .second, .val (.int (1 : Int32)), .val (.ref u0), .unset, .unset, .unset, .unset] [(.long ((lq1 &&& (9223372036854775807 : Int64)) % (10000000000 : Int64)))]) := fun tt_ kk_ => r1 tt_ (by
        show Steps p.tables e below (s₁.setTop (mkF m 3 #[.val (.int i0), .val (.long lq1), .second, .unset, .unset, .unset, .unset, .unset, .unset] [(.int (i0 &&& (1 : Int32)))])) _
        refine XS.ifNo X0.here hx rfl (hb hby at_3) rfl ((if0 _ _).trans (feq hc2).1) ?_
        show Steps p.tables e below (s₁.setTop (mkF m 6 #[.val (.int i0), .val (.long lq1), .second, .unset, .unset, .unset, .unset, .unset, .unset] [])) _
        refine XS.iconst X0.here hx rfl (hb hby at_6) ?_
        show Steps p.tables e below (s₁.setTop (mkF m 7 #[.val (.int i0), .val (.long lq1), .second, .unset, .unset, .unset, .unset, .unset, .unset] [(.int (1 : Int32))])) _
        refine XS.goto X0.here hx rfl (pc0 := 7) (pc' := 11) rfl (hb hby at_7) (by decide) (by decide) ?_
        show Steps p.tables e below (s₁.setTop (mkF m 11 #[.val (.int i0), .val (.long lq1), .second, .unset, .unset, .unset, .unset, .unset, .unset] [(.int (1 : Int32))])) _
        refine XS.istoreN X0.here hx rfl (hb hby at_11) rfl (l' := #[.val (.int i0), .val (.long lq1), .second, .val (.int (1 : Int32)), .unset, .unset, .unset, .unset, .unset]) rfl ?_
        show Steps p.tables e below (s₁.setTop (mkF m 12 #[.val (.int i0), .val (.long lq1), .second, .val (.int (1 : Int32)), .unset, .unset, .unset, .unset, .unset] [])) _
        refine XS.iloadN X0.here hx rfl (hb hby at_12) rfl ?_
        show Steps p.tables e below (s₁.setTop (mkF m 13 #[.val (.int i0), .val (.long lq1), .second, .val (.int (1 : Int32)), .unset, .unset, .unset, .unset, .unset] [(.int (1 : Int32))])) _
        refine XS.ifNo X0.here hx rfl (hb hby at_13) rfl ((if0 _ _).trans (feq (by decide)).1) ?_
        show Steps p.tables e below (s₁.setTop (mkF m 16 #[.val (.int i0), .val (.long lq1), .second, .val (.int (1 : Int32)), .unset, .unset, .unset, .unset, .unset] [])) _
        refine st61 _ ?_
        show Steps p.tables e below (T61.setTop (mkF m 19 #[.val (.int i0), .val (.long lq1), .second, .val (.int (1 : Int32)), .unset, .unset, .unset, .unset, .unset] [(.ref u0)])) _
        refine XS.goto X61.here hx rfl (pc0 := 19) (pc' := 25) rfl (hb hby at_19) (by decide) (by decide) ?_
        show Steps p.tables e below (T61.setTop (mkF m 25 #[.val (.int i0), .val (.long lq1), .second, .val (.int (1 : Int32)), .unset, .unset, .unset, .unset, .unset] [(.ref u0)])) _
        refine XS.astore X61.here hx rfl (hb hby at_25) rfl rfl (l' := #[.val (.int i0), .val (.long lq1), .second, .val (.int (1 : Int32)), .val (.ref u0), .unset, .unset, .unset, .unset]) rfl ?_
        show Steps p.tables e below (T61.setTop (mkF m 27 #[.val (.int i0), .val (.long lq1), .second, .val (.int (1 : Int32)), .val (.ref u0), .unset, .unset, .unset, .unset] [])) _
        refine XS.lloadN X61.here hx rfl (hb hby at_27) rfl ?_
        show Steps p.tables e below (T61.setTop (mkF m 28 #[.val (.int i0), .val (.long lq1), .second, .val (.int (1 : Int32)), .val (.ref u0), .unset, .unset, .unset, .unset] [(.long lq1)])) _
        refine X61.ldc2J hx hown (mvT hZ (hw _ (List.mem_of_getElem? (i := 3) rfl))) rfl (hb hby at_28) ?_
        show Steps p.tables e below (T61.setTop (mkF m 31 #[.val (.int i0), .val (.long lq1), .second, .val (.int (1 : Int32)), .val (.ref u0), .unset, .unset, .unset, .unset] [(.long (9223372036854775807 : Int64)), (.long lq1)])) _
        refine XS.land X61.here hx rfl (hb hby at_31) rfl ?_
        show Steps p.tables e below (T61.setTop (mkF m 32 #[.val (.int i0), .val (.long lq1), .second, .val (.int (1 : Int32)), .val (.ref u0), .unset, .unset, .unset, .unset] [(.long (lq1 &&& (9223372036854775807 : Int64)))])) _
        refine X61.ldc2J hx hown (mvT hZ (hw _ (List.mem_of_getElem? (i := 4) rfl))) rfl (hb hby at_32) ?_
        show Steps p.tables e below (T61.setTop (mkF m 35 #[.val (.int i0), .val (.long lq1), .second, .val (.int (1 : Int32)), .val (.ref u0), .unset, .unset, .unset, .unset] [(.long (10000000000 : Int64)), (.long (lq1 &&& (9223372036854775807 : Int64)))])) _
        refine own_lrem X61 hx rfl (hb hby at_35) rfl (by decide) ?_
        show Steps p.tables e below (T61.setTop (mkF m 36 #[.val (.int i0), .val (.long lq1), .second, .val (.int (1 : Int32)), .val (.ref u0), .unset, .unset, .unset, .unset] [(.long ((lq1 &&& (9223372036854775807 : Int64)) % (10000000000 : Int64)))])) _
        exact kk_)
    obtain ⟨vv, h_vv⟩ : ∃ z : Int64, z = ((lq1 &&& (9223372036854775807 : Int64)) % (10000000000 : Int64)) := ⟨_, rfl⟩
    have r63 : GoTo p.tables e below s₁ (own_F_own_law m i0 lq1) T61 (mkF m 36 #[.val (.int i0), .val (.long lq1), .second, .val (.int (1 : Int32)), .val (.ref u0), .unset, .unset, .unset, .unset] [(.long vv)]) := by rw [h_vv]; exact r62
    obtain ⟨nn, hvn, hn10⟩ : ∃ n : Nat, vv.toInt = n ∧ n ≤ 9999999999 := by rw [h_vv]; exact own_val10 lq1
    obtain ⟨cnt, hcd⟩ := own_d10 hn10
    obtain ⟨Lg64, X64, N64⟩ : ∃ L' : List Loc, Stand p l e room_1 s m #[(.int i0), (.long lq1)] below meth c T61 L' 0 0 ∧ Fr n0 L' := ⟨_, X61, N0⟩
    have r65 : GoTo p.tables e below s₁ (own_F_own_law m i0 lq1) T61 (mkF m 42 #[.val (.int i0), .val (.long lq1), .second, .val (.int (1 : Int32)), .val (.ref u0), .val (.long vv), .second, .unset, .unset] [(.long vv), (.ref u0)]) := fun tt_ kk_ => r63 tt_ (by
        show Steps p.tables e below (T61.setTop (mkF m 36 #[.val (.int i0), .val (.long lq1), .second, .val (.int (1 : Int32)), .val (.ref u0), .unset, .unset, .unset, .unset] [(.long vv)])) _
        refine XS.lstore X61.here hx rfl (hb hby at_36) rfl (l' := #[.val (.int i0), .val (.long lq1), .second, .val (.int (1 : Int32)), .val (.ref u0), .val (.long vv), .second, .unset, .unset]) rfl ?_
        show Steps p.tables e below (T61.setTop (mkF m 38 #[.val (.int i0), .val (.long lq1), .second, .val (.int (1 : Int32)), .val (.ref u0), .val (.long vv), .second, .unset, .unset] [])) _
        refine XS.aload X61.here hx rfl (hb hby at_38) rfl rfl ?_
        show Steps p.tables e below (T61.setTop (mkF m 40 #[.val (.int i0), .val (.long lq1), .second, .val (.int (1 : Int32)), .val (.ref u0), .val (.long vv), .second, .unset, .unset] [(.ref u0)])) _
        refine XS.lload X61.here hx rfl (hb hby at_40) rfl ?_
        show Steps p.tables e below (T61.setTop (mkF m 42 #[.val (.int i0), .val (.long lq1), .second, .val (.int (1 : Int32)), .val (.ref u0), .val (.long vv), .second, .unset, .unset] [(.long vv), (.ref u0)])) _
        exact kk_)
    have C66 : CHr Z consts_1 s.vm h0 s.vm h0 := CHr.keep K0 all0 hC0
    obtain ⟨cq67, kq67, qa67, qb67, qc67⟩ := isOf hZ e61 hp1
    obtain ⟨_, _, ⟨T67, L67, k67, n67⟩, -, X67, hSq67, hgr67, ⟨Lc67, hQ67, l67, y67, z67, CC67⟩, st67⟩ := X64.virtualBackS hx (y := (⟨"com/example/uketsuke/uketsuke/store/IdFormat", "format", "(J)Ljava/lang/String;"⟩ : MethodName)) (z := (⟨"com/example/uketsuke/uketsuke/store/IdFormat", "format", "(J)Ljava/lang/String;"⟩ : MethodName)) hown (mvT hZ (hw _ (List.mem_of_getElem? (i := 5) rfl))) (mvT hZ (hw _ (List.mem_of_getElem? (i := 6) rfl))) (notFace_of_selects (args := #[]) (mvT hZ (hw _ (List.mem_of_getElem? (i := 8) rfl)))) (mvT hZ (hw _ (List.mem_of_getElem? (i := 8) rfl))) (mvT hZ (hw _ (List.mem_of_getElem? (i := 7) rfl))) (by decide) (backOfSH (s := s) (vm0 := s.vm) (W := 0) (own_fmt l Z a0 hw [] (u0) (yy0) (tyy0) (kyy0) (([106, 105, 100] : List Int32)) (vv) (nn) (cnt) (gCS) (ist) (dt1) (dt2) (cD1) (cD2) h0 n0 (O0.keep K0 all0) (hp2) (hp3) (rfl) (hvn) (hn10) (hcd) (hp8) (hG1) (hT1) (hT2) (hO1) (hO2) (hp16) (hp17) (hp18) (hD1) (hD2) hEL) hZ (hw _ (List.mem_of_getElem? (i := 9) rfl)) (hw _ (List.mem_of_getElem? (i := 1) rfl)) (by decide) (by decide) hEL C66.1) qa67 qc67 (g := (mkF m 42 #[.val (.int i0), .val (.long lq1), .second, .val (.int (1 : Int32)), .val (.ref u0), .val (.long vv), .second, .unset, .unset] [(.long vv), (.ref u0)])) rfl (by rw [hml]; rfl) (Steps.refl _) (argsL := [(.long vv)]) (rest := []) (lenOf own_pd19 rfl) rfl (by show 2 * 0 + _ ≤ _; exact Nat.le_of_eq rfl) (hb hby at_42) (fun _ _ => ⟨rfl, e61, (by decide : 0 + 14 ≤ _), (by decide : 0 + 344 ≤ _)⟩)
    dsimp only [Pt.U, Pt.locs, Pt.cells, Pt.slots] at X67 l67 y67 z67 st67 hQ67 CC67 hSq67 hgr67
    subst l67 y67 z67
    have hSn67 := foldS (s := s) (vm0 := s.vm) hS0 (by rw [e61]; exact (Nat.le_trans (Nat.zero_le _) K0.1)) hSq67 hgr67
    have X67 : Stand p l e room_1 (s.setVm T67.vm) m #[(.int i0), (.long lq1)] below meth c T67 _ _ _ := X67
    have hZ : Z.Warmed39 (s.setVm T67.vm).vm := State.Warmed39.trans (t := s.setVm s.vm) hZ hSq67.1
    have hown : (s.setVm T67.vm).vm.findClass "com/example/uketsuke/uketsuke/store/IdFormatFormatPinLaw" = some m.cls := by show T67.vm.findClass _ = _; rw [hSq67.1.alike.findClass]; exact hown
    obtain ⟨x_67, t_67, kt_67, rfl, Nq67, Kq67, po67_0, po67_1, po67_2, po67_3⟩ := hQ67
    have N67 := Fr.app N64 Nq67
    have ne68 : u0 ≠ x_67 := Nat.ne_of_lt (Nat.lt_of_lt_of_le hp1.lt po67_0)
    have ne69 : yy0 ≠ x_67 := Nat.ne_of_lt (Nat.lt_of_lt_of_le hp3.1.lt po67_0)
    have ne70 : tyy0 ≠ x_67 := Nat.ne_of_lt (Nat.lt_of_lt_of_le hp3.2.2.2.1.lt po67_0)
    have ne71 : u1 ≠ x_67 := Nat.ne_of_lt (Nat.lt_of_lt_of_le hp5.lt po67_0)
    have ne72 : yy1 ≠ x_67 := Nat.ne_of_lt (Nat.lt_of_lt_of_le hp7.1.lt po67_0)
    have ne73 : tyy1 ≠ x_67 := Nat.ne_of_lt (Nat.lt_of_lt_of_le hp7.2.2.2.1.lt po67_0)
    have g74 : n0 ≤ x_67 := Nat.le_trans (Nat.le_trans (own_le O0) K0.1) po67_0
    have b75 : h0.size ≤ x_67 := Nat.le_trans K0.1 po67_0
    have ne76 : u0 ≠ t_67 := Nat.ne_of_lt (Nat.lt_of_lt_of_le hp1.lt po67_1)
    have ne77 : yy0 ≠ t_67 := Nat.ne_of_lt (Nat.lt_of_lt_of_le hp3.1.lt po67_1)
    have ne78 : tyy0 ≠ t_67 := Nat.ne_of_lt (Nat.lt_of_lt_of_le hp3.2.2.2.1.lt po67_1)
    have ne79 : u1 ≠ t_67 := Nat.ne_of_lt (Nat.lt_of_lt_of_le hp5.lt po67_1)
    have ne80 : yy1 ≠ t_67 := Nat.ne_of_lt (Nat.lt_of_lt_of_le hp7.1.lt po67_1)
    have ne81 : tyy1 ≠ t_67 := Nat.ne_of_lt (Nat.lt_of_lt_of_le hp7.2.2.2.1.lt po67_1)
    have g82 : n0 ≤ t_67 := Nat.le_trans (Nat.le_trans (own_le O0) K0.1) po67_1
    have b83 : h0.size ≤ t_67 := Nat.le_trans K0.1 po67_1
    have K84 : Keep h0 T67.heap [] := K0.trans Kq67 all0
    have bz85 : h0.size ≤ x_67 := Nat.le_trans KA0.1 b75
    have bz86 : h0.size ≤ t_67 := Nat.le_trans KA0.1 b83
    have CA87 : CHr Z consts_1 s.vm h0 T67.vm T67.heap := (CA0.trans C66).trans CC67
    have KA88 : Keep h0 T67.heap [] := KA0.trans K84 all0
    have O89 : Old Z n0 T67.heap := (O0.keep K84 all0)
    have K90 : Keep T67.heap T67.heap [] := Keep.refl _ _
    have hl3 : (((([] ++ ([106, 105, 100] : List Int32)) ++ (([] ++ List.replicate cnt (48 : Int32)) ++ own_decL nn))) : List Int32).length = 13 := by rw [List.length_append, own_padLen, hcd]; rfl
    obtain ⟨cq91, kq91, qa91, qb91, qc91⟩ := isOf hZ rfl po67_3.1
    obtain ⟨_, _, ⟨T91, L91, k91, n91⟩, -, X91, ⟨Lc91, hQ91, l91, y91, z91⟩, st91⟩ := X67.virtualBack hx (y := (⟨"java/lang/String", "length", "()I"⟩ : MethodName)) (z := (⟨"java/lang/String", "length", "()I"⟩ : MethodName)) hown (mvT hZ (hw _ (List.mem_of_getElem? (i := 175) rfl))) (mvT hZ (hw _ (List.mem_of_getElem? (i := 46) rfl))) (notFace_of_selects (args := #[]) (mvT hZ (hw _ (List.mem_of_getElem? (i := 48) rfl)))) (mvT hZ (hw _ (List.mem_of_getElem? (i := 48) rfl))) (mvT hZ (hw _ (List.mem_of_getElem? (i := 47) rfl))) (by decide) (backOf (W := 0) (own_strlen l Z a0 hw [] (x_67) (t_67) (kt_67) (((([] ++ ([106, 105, 100] : List Int32)) ++ (([] ++ List.replicate cnt (48 : Int32)) ++ own_decL nn)))) (gCS) T67.heap n0 (O89.keep K90 all0) (po67_3) (hp8) (hG1)) hZ (hw _ (List.mem_of_getElem? (i := 49) rfl)) (hw _ (List.mem_of_getElem? (i := 27) rfl)) (by decide) (by decide)) qa91 qc91 (g := (mkF m 49 #[.val (.int i0), .val (.long lq1), .second, .val (.int (1 : Int32)), .val (.ref u0), .val (.long vv), .second, .val (.ref x_67), .unset] [(.ref x_67)])) rfl (by rw [hml]; rfl) (Steps.refl _) (argsL := []) (rest := []) (lenOf own_pd8 rfl) rfl (by show 2 * 0 + _ ≤ _; exact Nat.le_of_eq rfl) (hb hby at_49) (fun _ _ => ⟨rfl, rfl, (by decide : 14 + 0 ≤ _), (by decide : 344 + 0 ≤ _)⟩)
    dsimp only [Pt.U, Pt.locs, Pt.cells, Pt.slots] at X91 l91 y91 z91 st91 hQ91
    subst l91 y91 z91
    obtain ⟨rfl, Nq91, hh91⟩ := hQ91
    have N91 := Fr.app N67 Nq91
    have r92 : GoTo p.tables e below s₁ (own_F_own_law m i0 lq1) T91 (mkF m 52 #[.val (.int i0), .val (.long lq1), .second, .val (.int (1 : Int32)), .val (.ref u0), .val (.long vv), .second, .val (.ref x_67), .unset] [(.int (Int32.ofNat ((([] ++ ([106, 105, 100] : List Int32)) ++ (([] ++ List.replicate cnt (48 : Int32)) ++ own_decL nn))).length))]) := fun tt_ kk_ => r65 tt_ (by
        show Steps p.tables e below (T61.setTop (mkF m 42 #[.val (.int i0), .val (.long lq1), .second, .val (.int (1 : Int32)), .val (.ref u0), .val (.long vv), .second, .unset, .unset] [(.long vv), (.ref u0)])) _
        refine st67.trans ?_
        show Steps p.tables e below (T67.setTop (mkF m 45 #[.val (.int i0), .val (.long lq1), .second, .val (.int (1 : Int32)), .val (.ref u0), .val (.long vv), .second, .unset, .unset] [(.ref x_67)])) _
        refine XS.astore X67.here hx rfl (hb hby at_45) rfl rfl (l' := #[.val (.int i0), .val (.long lq1), .second, .val (.int (1 : Int32)), .val (.ref u0), .val (.long vv), .second, .val (.ref x_67), .unset]) rfl ?_
        show Steps p.tables e below (T67.setTop (mkF m 47 #[.val (.int i0), .val (.long lq1), .second, .val (.int (1 : Int32)), .val (.ref u0), .val (.long vv), .second, .val (.ref x_67), .unset] [])) _
        refine XS.aload X67.here hx rfl (hb hby at_47) rfl rfl ?_
        show Steps p.tables e below (T67.setTop (mkF m 49 #[.val (.int i0), .val (.long lq1), .second, .val (.int (1 : Int32)), .val (.ref u0), .val (.long vv), .second, .val (.ref x_67), .unset] [(.ref x_67)])) _
        refine st91.trans ?_
        show Steps p.tables e below (T91.setTop (mkF m 52 #[.val (.int i0), .val (.long lq1), .second, .val (.int (1 : Int32)), .val (.ref u0), .val (.long vv), .second, .val (.ref x_67), .unset] [(.int (Int32.ofNat ((([] ++ ([106, 105, 100] : List Int32)) ++ (([] ++ List.replicate cnt (48 : Int32)) ++ own_decL nn))).length))])) _
        exact kk_)
    have r93 : GoTo p.tables e below s₁ (own_F_own_law m i0 lq1) T91 (mkF m 52 #[.val (.int i0), .val (.long lq1), .second, .val (.int (1 : Int32)), .val (.ref u0), .val (.long vv), .second, .val (.ref x_67), .unset] [(.int (13 : Int32))]) := Eq.mp (congrArg (fun zz_ => GoTo p.tables e below s₁ (own_F_own_law m i0 lq1) T91 (mkF m 52 #[.val (.int i0), .val (.long lq1), .second, .val (.int (1 : Int32)), .val (.ref u0), .val (.long vv), .second, .val (.ref x_67), .unset] [(.int zz_)])) (show (Int32.ofNat ((([] ++ ([106, 105, 100] : List Int32)) ++ (([] ++ List.replicate cnt (48 : Int32)) ++ own_decL nn))).length) = (13 : Int32) from (by rw [hl3]; rfl))) r92
    obtain ⟨Lg94, X94, N94⟩ : ∃ L' : List Loc, Stand p l e room_1 (s.setVm T67.vm) m #[(.int i0), (.long lq1)] below meth c T91 L' 14 344 ∧ Fr n0 L' := ⟨_, X91, N91⟩
    obtain ⟨cq95, kq95, qa95, qb95, qc95⟩ := isOf hZ hh91 po67_3.1
    obtain ⟨_, _, ⟨T95, L95, k95, n95⟩, -, X95, ⟨Lc95, hQ95, l95, y95, z95⟩, st95⟩ := X94.virtualBack hx (y := (⟨"java/lang/String", "charAt", "(I)C"⟩ : MethodName)) (z := (⟨"java/lang/String", "charAt", "(I)C"⟩ : MethodName)) hown (mvT hZ (hw _ (List.mem_of_getElem? (i := 176) rfl))) (mvT hZ (hw _ (List.mem_of_getElem? (i := 177) rfl))) (notFace_of_selects (args := #[]) (mvT hZ (hw _ (List.mem_of_getElem? (i := 179) rfl)))) (mvT hZ (hw _ (List.mem_of_getElem? (i := 179) rfl))) (mvT hZ (hw _ (List.mem_of_getElem? (i := 178) rfl))) (by decide) (backOf (W := 0) (own_chAt l Z a0 hw [] (x_67) (t_67) (kt_67) (((([] ++ ([106, 105, 100] : List Int32)) ++ (([] ++ List.replicate cnt (48 : Int32)) ++ own_decL nn)))) (0) (gCS) (gFM) T67.heap n0 (O89.keep K90 all0) (po67_3) (by rw [hl3]; decide) (hp8) (hG1) (hp10) (hG3)) hZ (hw _ (List.mem_of_getElem? (i := 180) rfl)) (hw _ (List.mem_of_getElem? (i := 27) rfl)) (by decide) (by decide)) qa95 qc95 (g := (mkF m 75 #[.val (.int i0), .val (.long lq1), .second, .val (.int (1 : Int32)), .val (.ref u0), .val (.long vv), .second, .val (.ref x_67), .val (.int (106 : Int32))] [(.int (0 : Int32)), (.ref x_67)])) rfl (by rw [hml]; rfl) (Steps.refl _) (argsL := [(.int (0 : Int32))]) (rest := []) (lenOf own_pd24 rfl) rfl (by show 2 * 0 + _ ≤ _; exact Nat.le_of_eq rfl) (hb hby at_75) (fun _ _ => ⟨rfl, hh91, (by decide : 14 + 0 ≤ _), (by decide : 344 + 0 ≤ _)⟩)
    dsimp only [Pt.U, Pt.locs, Pt.cells, Pt.slots] at X95 l95 y95 z95 st95 hQ95
    subst l95 y95 z95
    obtain ⟨rfl, Nq95, hh95⟩ := hQ95
    have N95 := Fr.app N94 Nq95
    have r96 : GoTo p.tables e below s₁ (own_F_own_law m i0 lq1) T95 (mkF m 78 #[.val (.int i0), .val (.long lq1), .second, .val (.int (1 : Int32)), .val (.ref u0), .val (.long vv), .second, .val (.ref x_67), .val (.int (106 : Int32))] [(.int (((([] ++ ([106, 105, 100] : List Int32)) ++ (([] ++ List.replicate cnt (48 : Int32)) ++ own_decL nn))).getD 0 0))]) := fun tt_ kk_ => r93 tt_ (by
        show Steps p.tables e below (T91.setTop (mkF m 52 #[.val (.int i0), .val (.long lq1), .second, .val (.int (1 : Int32)), .val (.ref u0), .val (.long vv), .second, .val (.ref x_67), .unset] [(.int (13 : Int32))])) _
        refine XS.bipush X91.here hx rfl (hb hby at_52) ?_
        show Steps p.tables e below (T91.setTop (mkF m 54 #[.val (.int i0), .val (.long lq1), .second, .val (.int (1 : Int32)), .val (.ref u0), .val (.long vv), .second, .val (.ref x_67), .unset] [(.int (13 : Int32)), (.int (13 : Int32))])) _
        refine XS.icmpYes X91.here hx rfl (pc0 := 54) (pc' := 59) rfl (hb hby at_54) rfl (teq rfl).1 (by decide) (by decide) ?_
        show Steps p.tables e below (T91.setTop (mkF m 59 #[.val (.int i0), .val (.long lq1), .second, .val (.int (1 : Int32)), .val (.ref u0), .val (.long vv), .second, .val (.ref x_67), .unset] [])) _
        refine XS.iloadN X91.here hx rfl (hb hby at_59) rfl ?_
        show Steps p.tables e below (T91.setTop (mkF m 60 #[.val (.int i0), .val (.long lq1), .second, .val (.int (1 : Int32)), .val (.ref u0), .val (.long vv), .second, .val (.ref x_67), .unset] [(.int (1 : Int32))])) _
        refine XS.ifNo X91.here hx rfl (hb hby at_60) rfl ((if0 _ _).trans (feq (by decide)).1) ?_
        show Steps p.tables e below (T91.setTop (mkF m 63 #[.val (.int i0), .val (.long lq1), .second, .val (.int (1 : Int32)), .val (.ref u0), .val (.long vv), .second, .val (.ref x_67), .unset] [])) _
        refine XS.bipush X91.here hx rfl (hb hby at_63) ?_
        show Steps p.tables e below (T91.setTop (mkF m 65 #[.val (.int i0), .val (.long lq1), .second, .val (.int (1 : Int32)), .val (.ref u0), .val (.long vv), .second, .val (.ref x_67), .unset] [(.int (106 : Int32))])) _
        refine XS.goto X91.here hx rfl (pc0 := 65) (pc' := 70) rfl (hb hby at_65) (by decide) (by decide) ?_
        show Steps p.tables e below (T91.setTop (mkF m 70 #[.val (.int i0), .val (.long lq1), .second, .val (.int (1 : Int32)), .val (.ref u0), .val (.long vv), .second, .val (.ref x_67), .unset] [(.int (106 : Int32))])) _
        refine XS.istore X91.here hx rfl (hb hby at_70) rfl (l' := #[.val (.int i0), .val (.long lq1), .second, .val (.int (1 : Int32)), .val (.ref u0), .val (.long vv), .second, .val (.ref x_67), .val (.int (106 : Int32))]) rfl ?_
        show Steps p.tables e below (T91.setTop (mkF m 72 #[.val (.int i0), .val (.long lq1), .second, .val (.int (1 : Int32)), .val (.ref u0), .val (.long vv), .second, .val (.ref x_67), .val (.int (106 : Int32))] [])) _
        refine XS.aload X91.here hx rfl (hb hby at_72) rfl rfl ?_
        show Steps p.tables e below (T91.setTop (mkF m 74 #[.val (.int i0), .val (.long lq1), .second, .val (.int (1 : Int32)), .val (.ref u0), .val (.long vv), .second, .val (.ref x_67), .val (.int (106 : Int32))] [(.ref x_67)])) _
        refine XS.iconst X91.here hx rfl (hb hby at_74) ?_
        show Steps p.tables e below (T91.setTop (mkF m 75 #[.val (.int i0), .val (.long lq1), .second, .val (.int (1 : Int32)), .val (.ref u0), .val (.long vv), .second, .val (.ref x_67), .val (.int (106 : Int32))] [(.int (0 : Int32)), (.ref x_67)])) _
        refine st95.trans ?_
        show Steps p.tables e below (T95.setTop (mkF m 78 #[.val (.int i0), .val (.long lq1), .second, .val (.int (1 : Int32)), .val (.ref u0), .val (.long vv), .second, .val (.ref x_67), .val (.int (106 : Int32))] [(.int (((([] ++ ([106, 105, 100] : List Int32)) ++ (([] ++ List.replicate cnt (48 : Int32)) ++ own_decL nn))).getD 0 0))])) _
        exact kk_)
    have r97 : GoTo p.tables e below s₁ (own_F_own_law m i0 lq1) T95 (mkF m 78 #[.val (.int i0), .val (.long lq1), .second, .val (.int (1 : Int32)), .val (.ref u0), .val (.long vv), .second, .val (.ref x_67), .val (.int (106 : Int32))] [(.int (106 : Int32))]) := Eq.mp (congrArg (fun zz_ => GoTo p.tables e below s₁ (own_F_own_law m i0 lq1) T95 (mkF m 78 #[.val (.int i0), .val (.long lq1), .second, .val (.int (1 : Int32)), .val (.ref u0), .val (.long vv), .second, .val (.ref x_67), .val (.int (106 : Int32))] [(.int zz_)])) (show (((([] ++ ([106, 105, 100] : List Int32)) ++ (([] ++ List.replicate cnt (48 : Int32)) ++ own_decL nn))).getD 0 0) = (106 : Int32) from (own_fmt0 (by decide)))) r96
    obtain ⟨cq98, kq98, qa98, qb98, qc98⟩ := isOf hZ hh95 po67_3.1
    obtain ⟨_, _, ⟨T98, L98, k98, n98⟩, -, X98, ⟨Lc98, hQ98, l98, y98, z98⟩, st98⟩ := X95.virtualBack hx (y := (⟨"java/lang/String", "charAt", "(I)C"⟩ : MethodName)) (z := (⟨"java/lang/String", "charAt", "(I)C"⟩ : MethodName)) hown (mvT hZ (hw _ (List.mem_of_getElem? (i := 176) rfl))) (mvT hZ (hw _ (List.mem_of_getElem? (i := 177) rfl))) (notFace_of_selects (args := #[]) (mvT hZ (hw _ (List.mem_of_getElem? (i := 179) rfl)))) (mvT hZ (hw _ (List.mem_of_getElem? (i := 179) rfl))) (mvT hZ (hw _ (List.mem_of_getElem? (i := 178) rfl))) (by decide) (backOf (W := 0) (own_chAt l Z a0 hw [] (x_67) (t_67) (kt_67) (((([] ++ ([106, 105, 100] : List Int32)) ++ (([] ++ List.replicate cnt (48 : Int32)) ++ own_decL nn)))) (1) (gCS) (gFM) T67.heap n0 (O89.keep K90 all0) (po67_3) (by rw [hl3]; decide) (hp8) (hG1) (hp10) (hG3)) hZ (hw _ (List.mem_of_getElem? (i := 180) rfl)) (hw _ (List.mem_of_getElem? (i := 27) rfl)) (by decide) (by decide)) qa98 qc98 (g := (mkF m 86 #[.val (.int i0), .val (.long lq1), .second, .val (.int (1 : Int32)), .val (.ref u0), .val (.long vv), .second, .val (.ref x_67), .val (.int (106 : Int32))] [(.int (1 : Int32)), (.ref x_67)])) rfl (by rw [hml]; rfl) (Steps.refl _) (argsL := [(.int (1 : Int32))]) (rest := []) (lenOf own_pd24 rfl) rfl (by show 2 * 0 + _ ≤ _; exact Nat.le_of_eq rfl) (hb hby at_86) (fun _ _ => ⟨rfl, hh95, (by decide : 14 + 0 ≤ _), (by decide : 344 + 0 ≤ _)⟩)
    dsimp only [Pt.U, Pt.locs, Pt.cells, Pt.slots] at X98 l98 y98 z98 st98 hQ98
    subst l98 y98 z98
    obtain ⟨rfl, Nq98, hh98⟩ := hQ98
    have N98 := Fr.app N95 Nq98
    have r99 : GoTo p.tables e below s₁ (own_F_own_law m i0 lq1) T98 (mkF m 89 #[.val (.int i0), .val (.long lq1), .second, .val (.int (1 : Int32)), .val (.ref u0), .val (.long vv), .second, .val (.ref x_67), .val (.int (106 : Int32))] [(.int (((([] ++ ([106, 105, 100] : List Int32)) ++ (([] ++ List.replicate cnt (48 : Int32)) ++ own_decL nn))).getD 1 0))]) := fun tt_ kk_ => r97 tt_ (by
        show Steps p.tables e below (T95.setTop (mkF m 78 #[.val (.int i0), .val (.long lq1), .second, .val (.int (1 : Int32)), .val (.ref u0), .val (.long vv), .second, .val (.ref x_67), .val (.int (106 : Int32))] [(.int (106 : Int32))])) _
        refine XS.iload X95.here hx rfl (hb hby at_78) rfl ?_
        show Steps p.tables e below (T95.setTop (mkF m 80 #[.val (.int i0), .val (.long lq1), .second, .val (.int (1 : Int32)), .val (.ref u0), .val (.long vv), .second, .val (.ref x_67), .val (.int (106 : Int32))] [(.int (106 : Int32)), (.int (106 : Int32))])) _
        refine XS.icmpNo X95.here hx rfl (hb hby at_80) rfl (teq rfl).2 ?_
        show Steps p.tables e below (T95.setTop (mkF m 83 #[.val (.int i0), .val (.long lq1), .second, .val (.int (1 : Int32)), .val (.ref u0), .val (.long vv), .second, .val (.ref x_67), .val (.int (106 : Int32))] [])) _
        refine XS.aload X95.here hx rfl (hb hby at_83) rfl rfl ?_
        show Steps p.tables e below (T95.setTop (mkF m 85 #[.val (.int i0), .val (.long lq1), .second, .val (.int (1 : Int32)), .val (.ref u0), .val (.long vv), .second, .val (.ref x_67), .val (.int (106 : Int32))] [(.ref x_67)])) _
        refine XS.iconst X95.here hx rfl (hb hby at_85) ?_
        show Steps p.tables e below (T95.setTop (mkF m 86 #[.val (.int i0), .val (.long lq1), .second, .val (.int (1 : Int32)), .val (.ref u0), .val (.long vv), .second, .val (.ref x_67), .val (.int (106 : Int32))] [(.int (1 : Int32)), (.ref x_67)])) _
        refine st98.trans ?_
        show Steps p.tables e below (T98.setTop (mkF m 89 #[.val (.int i0), .val (.long lq1), .second, .val (.int (1 : Int32)), .val (.ref u0), .val (.long vv), .second, .val (.ref x_67), .val (.int (106 : Int32))] [(.int (((([] ++ ([106, 105, 100] : List Int32)) ++ (([] ++ List.replicate cnt (48 : Int32)) ++ own_decL nn))).getD 1 0))])) _
        exact kk_)
    have r100 : GoTo p.tables e below s₁ (own_F_own_law m i0 lq1) T98 (mkF m 89 #[.val (.int i0), .val (.long lq1), .second, .val (.int (1 : Int32)), .val (.ref u0), .val (.long vv), .second, .val (.ref x_67), .val (.int (106 : Int32))] [(.int (105 : Int32))]) := Eq.mp (congrArg (fun zz_ => GoTo p.tables e below s₁ (own_F_own_law m i0 lq1) T98 (mkF m 89 #[.val (.int i0), .val (.long lq1), .second, .val (.int (1 : Int32)), .val (.ref u0), .val (.long vv), .second, .val (.ref x_67), .val (.int (106 : Int32))] [(.int zz_)])) (show (((([] ++ ([106, 105, 100] : List Int32)) ++ (([] ++ List.replicate cnt (48 : Int32)) ++ own_decL nn))).getD 1 0) = (105 : Int32) from (own_fmt0 (by decide)))) r99
    obtain ⟨Lg101, X101, N101⟩ : ∃ L' : List Loc, Stand p l e room_1 (s.setVm T67.vm) m #[(.int i0), (.long lq1)] below meth c T98 L' 14 344 ∧ Fr n0 L' := ⟨_, X98, N98⟩
    obtain ⟨cq102, kq102, qa102, qb102, qc102⟩ := isOf hZ hh98 po67_3.1
    obtain ⟨_, _, ⟨T102, L102, k102, n102⟩, -, X102, ⟨Lc102, hQ102, l102, y102, z102⟩, st102⟩ := X101.virtualBack hx (y := (⟨"java/lang/String", "charAt", "(I)C"⟩ : MethodName)) (z := (⟨"java/lang/String", "charAt", "(I)C"⟩ : MethodName)) hown (mvT hZ (hw _ (List.mem_of_getElem? (i := 176) rfl))) (mvT hZ (hw _ (List.mem_of_getElem? (i := 177) rfl))) (notFace_of_selects (args := #[]) (mvT hZ (hw _ (List.mem_of_getElem? (i := 179) rfl)))) (mvT hZ (hw _ (List.mem_of_getElem? (i := 179) rfl))) (mvT hZ (hw _ (List.mem_of_getElem? (i := 178) rfl))) (by decide) (backOf (W := 0) (own_chAt l Z a0 hw [] (x_67) (t_67) (kt_67) (((([] ++ ([106, 105, 100] : List Int32)) ++ (([] ++ List.replicate cnt (48 : Int32)) ++ own_decL nn)))) (2) (gCS) (gFM) T67.heap n0 (O89.keep K90 all0) (po67_3) (by rw [hl3]; decide) (hp8) (hG1) (hp10) (hG3)) hZ (hw _ (List.mem_of_getElem? (i := 180) rfl)) (hw _ (List.mem_of_getElem? (i := 27) rfl)) (by decide) (by decide)) qa102 qc102 (g := (mkF m 97 #[.val (.int i0), .val (.long lq1), .second, .val (.int (1 : Int32)), .val (.ref u0), .val (.long vv), .second, .val (.ref x_67), .val (.int (106 : Int32))] [(.int (2 : Int32)), (.ref x_67)])) rfl (by rw [hml]; rfl) (Steps.refl _) (argsL := [(.int (2 : Int32))]) (rest := []) (lenOf own_pd24 rfl) rfl (by show 2 * 0 + _ ≤ _; exact Nat.le_of_eq rfl) (hb hby at_97) (fun _ _ => ⟨rfl, hh98, (by decide : 14 + 0 ≤ _), (by decide : 344 + 0 ≤ _)⟩)
    dsimp only [Pt.U, Pt.locs, Pt.cells, Pt.slots] at X102 l102 y102 z102 st102 hQ102
    subst l102 y102 z102
    obtain ⟨rfl, Nq102, hh102⟩ := hQ102
    have N102 := Fr.app N101 Nq102
    have r103 : GoTo p.tables e below s₁ (own_F_own_law m i0 lq1) T102 (mkF m 100 #[.val (.int i0), .val (.long lq1), .second, .val (.int (1 : Int32)), .val (.ref u0), .val (.long vv), .second, .val (.ref x_67), .val (.int (106 : Int32))] [(.int (((([] ++ ([106, 105, 100] : List Int32)) ++ (([] ++ List.replicate cnt (48 : Int32)) ++ own_decL nn))).getD 2 0))]) := fun tt_ kk_ => r100 tt_ (by
        show Steps p.tables e below (T98.setTop (mkF m 89 #[.val (.int i0), .val (.long lq1), .second, .val (.int (1 : Int32)), .val (.ref u0), .val (.long vv), .second, .val (.ref x_67), .val (.int (106 : Int32))] [(.int (105 : Int32))])) _
        refine XS.bipush X98.here hx rfl (hb hby at_89) ?_
        show Steps p.tables e below (T98.setTop (mkF m 91 #[.val (.int i0), .val (.long lq1), .second, .val (.int (1 : Int32)), .val (.ref u0), .val (.long vv), .second, .val (.ref x_67), .val (.int (106 : Int32))] [(.int (105 : Int32)), (.int (105 : Int32))])) _
        refine XS.icmpNo X98.here hx rfl (hb hby at_91) rfl (teq rfl).2 ?_
        show Steps p.tables e below (T98.setTop (mkF m 94 #[.val (.int i0), .val (.long lq1), .second, .val (.int (1 : Int32)), .val (.ref u0), .val (.long vv), .second, .val (.ref x_67), .val (.int (106 : Int32))] [])) _
        refine XS.aload X98.here hx rfl (hb hby at_94) rfl rfl ?_
        show Steps p.tables e below (T98.setTop (mkF m 96 #[.val (.int i0), .val (.long lq1), .second, .val (.int (1 : Int32)), .val (.ref u0), .val (.long vv), .second, .val (.ref x_67), .val (.int (106 : Int32))] [(.ref x_67)])) _
        refine XS.iconst X98.here hx rfl (hb hby at_96) ?_
        show Steps p.tables e below (T98.setTop (mkF m 97 #[.val (.int i0), .val (.long lq1), .second, .val (.int (1 : Int32)), .val (.ref u0), .val (.long vv), .second, .val (.ref x_67), .val (.int (106 : Int32))] [(.int (2 : Int32)), (.ref x_67)])) _
        refine st102.trans ?_
        show Steps p.tables e below (T102.setTop (mkF m 100 #[.val (.int i0), .val (.long lq1), .second, .val (.int (1 : Int32)), .val (.ref u0), .val (.long vv), .second, .val (.ref x_67), .val (.int (106 : Int32))] [(.int (((([] ++ ([106, 105, 100] : List Int32)) ++ (([] ++ List.replicate cnt (48 : Int32)) ++ own_decL nn))).getD 2 0))])) _
        exact kk_)
    have r104 : GoTo p.tables e below s₁ (own_F_own_law m i0 lq1) T102 (mkF m 100 #[.val (.int i0), .val (.long lq1), .second, .val (.int (1 : Int32)), .val (.ref u0), .val (.long vv), .second, .val (.ref x_67), .val (.int (106 : Int32))] [(.int (100 : Int32))]) := Eq.mp (congrArg (fun zz_ => GoTo p.tables e below s₁ (own_F_own_law m i0 lq1) T102 (mkF m 100 #[.val (.int i0), .val (.long lq1), .second, .val (.int (1 : Int32)), .val (.ref u0), .val (.long vv), .second, .val (.ref x_67), .val (.int (106 : Int32))] [(.int zz_)])) (show (((([] ++ ([106, 105, 100] : List Int32)) ++ (([] ++ List.replicate cnt (48 : Int32)) ++ own_decL nn))).getD 2 0) = (100 : Int32) from (own_fmt0 (by decide)))) r103
    obtain ⟨_, _, ⟨T105, L105, k105, n105⟩, -, X105, ⟨Lc105, hQ105, l105, y105, z105⟩, st105⟩ := Jvm.LawKit.callS X102 hx (y := (⟨"com/example/uketsuke/uketsuke/store/IdFormatFormatPinLaw", "digitAt", "(Ljava/lang/String;IJJ)Z"⟩ : MethodName)) hown (mvT hZ (hw _ (List.mem_of_getElem? (i := 199) rfl))) (mvT hZ (hw _ (List.mem_of_getElem? (i := 200) rfl))) (mvT hZ (hw _ (List.mem_of_getElem? (i := 201) rfl))) (mvT hZ (hw _ (List.mem_of_getElem? (i := 202) rfl))) (by decide) (backOf (W := 0) (own_dAt l Z a0 hw [] (x_67) (t_67) (kt_67) (((([] ++ ([106, 105, 100] : List Int32)) ++ (([] ++ List.replicate cnt (48 : Int32)) ++ own_decL nn)))) ((3 + 0)) (vv) (nn) (1000000000) (gCS) (gFM) T67.heap n0 (O89.keep K90 all0) (po67_3) (hvn) (by decide) (by decide) (by rw [hl3]; decide) (own_fmtAt (i := 0) rfl (by omega) hcd (by decide)) (hp8) (hG1) (hp10) (hG3)) hZ (hw _ (List.mem_of_getElem? (i := 202) rfl)) (hw _ (List.mem_of_getElem? (i := 201) rfl)) (by decide) (by decide)) (g := (mkF m 115 #[.val (.int i0), .val (.long lq1), .second, .val (.int (1 : Int32)), .val (.ref u0), .val (.long vv), .second, .val (.ref x_67), .val (.int (106 : Int32))] [(.long (1000000000 : Int64)), (.long vv), (.int (3 : Int32)), (.ref x_67)])) rfl (by rw [hml]; rfl) (argsL := [(.ref x_67), (.int (3 : Int32)), (.long vv), (.long (1000000000 : Int64))]) (rest := []) (lenOf own_pd26 rfl) rfl (by show 2 * 0 + _ ≤ _; exact Nat.le_of_eq rfl) (hb hby at_115) (fun _ _ => ⟨rfl, hh102, (by decide : 14 + 0 ≤ _), (by decide : 344 + 0 ≤ _)⟩)
    dsimp only [Pt.U, Pt.locs, Pt.cells, Pt.slots] at X105 l105 y105 z105 st105 hQ105
    subst l105 y105 z105
    obtain ⟨rfl, Nq105, hh105⟩ := hQ105
    have N105 := Fr.app N102 Nq105
    obtain ⟨Lg106, X106, N106⟩ : ∃ L' : List Loc, Stand p l e room_1 (s.setVm T67.vm) m #[(.int i0), (.long lq1)] below meth c T105 L' 14 344 ∧ Fr n0 L' := ⟨_, X105, N105⟩
    obtain ⟨_, _, ⟨T107, L107, k107, n107⟩, -, X107, ⟨Lc107, hQ107, l107, y107, z107⟩, st107⟩ := Jvm.LawKit.callS X106 hx (y := (⟨"com/example/uketsuke/uketsuke/store/IdFormatFormatPinLaw", "digitAt", "(Ljava/lang/String;IJJ)Z"⟩ : MethodName)) hown (mvT hZ (hw _ (List.mem_of_getElem? (i := 199) rfl))) (mvT hZ (hw _ (List.mem_of_getElem? (i := 200) rfl))) (mvT hZ (hw _ (List.mem_of_getElem? (i := 201) rfl))) (mvT hZ (hw _ (List.mem_of_getElem? (i := 202) rfl))) (by decide) (backOf (W := 0) (own_dAt l Z a0 hw [] (x_67) (t_67) (kt_67) (((([] ++ ([106, 105, 100] : List Int32)) ++ (([] ++ List.replicate cnt (48 : Int32)) ++ own_decL nn)))) ((3 + 1)) (vv) (nn) (100000000) (gCS) (gFM) T67.heap n0 (O89.keep K90 all0) (po67_3) (hvn) (by decide) (by decide) (by rw [hl3]; decide) (own_fmtAt (i := 1) rfl (by omega) hcd (by decide)) (hp8) (hG1) (hp10) (hG3)) hZ (hw _ (List.mem_of_getElem? (i := 202) rfl)) (hw _ (List.mem_of_getElem? (i := 201) rfl)) (by decide) (by decide)) (g := (mkF m 129 #[.val (.int i0), .val (.long lq1), .second, .val (.int (1 : Int32)), .val (.ref u0), .val (.long vv), .second, .val (.ref x_67), .val (.int (106 : Int32))] [(.long (100000000 : Int64)), (.long vv), (.int (4 : Int32)), (.ref x_67)])) rfl (by rw [hml]; rfl) (argsL := [(.ref x_67), (.int (4 : Int32)), (.long vv), (.long (100000000 : Int64))]) (rest := []) (lenOf own_pd26 rfl) rfl (by show 2 * 0 + _ ≤ _; exact Nat.le_of_eq rfl) (hb hby at_129) (fun _ _ => ⟨rfl, hh105, (by decide : 14 + 0 ≤ _), (by decide : 344 + 0 ≤ _)⟩)
    dsimp only [Pt.U, Pt.locs, Pt.cells, Pt.slots] at X107 l107 y107 z107 st107 hQ107
    subst l107 y107 z107
    obtain ⟨rfl, Nq107, hh107⟩ := hQ107
    have N107 := Fr.app N106 Nq107
    obtain ⟨_, _, ⟨T108, L108, k108, n108⟩, -, X108, ⟨Lc108, hQ108, l108, y108, z108⟩, st108⟩ := Jvm.LawKit.callS X107 hx (y := (⟨"com/example/uketsuke/uketsuke/store/IdFormatFormatPinLaw", "digitAt", "(Ljava/lang/String;IJJ)Z"⟩ : MethodName)) hown (mvT hZ (hw _ (List.mem_of_getElem? (i := 199) rfl))) (mvT hZ (hw _ (List.mem_of_getElem? (i := 200) rfl))) (mvT hZ (hw _ (List.mem_of_getElem? (i := 201) rfl))) (mvT hZ (hw _ (List.mem_of_getElem? (i := 202) rfl))) (by decide) (backOf (W := 0) (own_dAt l Z a0 hw [] (x_67) (t_67) (kt_67) (((([] ++ ([106, 105, 100] : List Int32)) ++ (([] ++ List.replicate cnt (48 : Int32)) ++ own_decL nn)))) ((3 + 2)) (vv) (nn) (10000000) (gCS) (gFM) T67.heap n0 (O89.keep K90 all0) (po67_3) (hvn) (by decide) (by decide) (by rw [hl3]; decide) (own_fmtAt (i := 2) rfl (by omega) hcd (by decide)) (hp8) (hG1) (hp10) (hG3)) hZ (hw _ (List.mem_of_getElem? (i := 202) rfl)) (hw _ (List.mem_of_getElem? (i := 201) rfl)) (by decide) (by decide)) (g := (mkF m 143 #[.val (.int i0), .val (.long lq1), .second, .val (.int (1 : Int32)), .val (.ref u0), .val (.long vv), .second, .val (.ref x_67), .val (.int (106 : Int32))] [(.long (10000000 : Int64)), (.long vv), (.int (5 : Int32)), (.ref x_67)])) rfl (by rw [hml]; rfl) (argsL := [(.ref x_67), (.int (5 : Int32)), (.long vv), (.long (10000000 : Int64))]) (rest := []) (lenOf own_pd26 rfl) rfl (by show 2 * 0 + _ ≤ _; exact Nat.le_of_eq rfl) (hb hby at_143) (fun _ _ => ⟨rfl, hh107, (by decide : 14 + 0 ≤ _), (by decide : 344 + 0 ≤ _)⟩)
    dsimp only [Pt.U, Pt.locs, Pt.cells, Pt.slots] at X108 l108 y108 z108 st108 hQ108
    subst l108 y108 z108
    obtain ⟨rfl, Nq108, hh108⟩ := hQ108
    have N108 := Fr.app N107 Nq108
    obtain ⟨Lg109, X109, N109⟩ : ∃ L' : List Loc, Stand p l e room_1 (s.setVm T67.vm) m #[(.int i0), (.long lq1)] below meth c T108 L' 14 344 ∧ Fr n0 L' := ⟨_, X108, N108⟩
    obtain ⟨_, _, ⟨T110, L110, k110, n110⟩, -, X110, ⟨Lc110, hQ110, l110, y110, z110⟩, st110⟩ := Jvm.LawKit.callS X109 hx (y := (⟨"com/example/uketsuke/uketsuke/store/IdFormatFormatPinLaw", "digitAt", "(Ljava/lang/String;IJJ)Z"⟩ : MethodName)) hown (mvT hZ (hw _ (List.mem_of_getElem? (i := 199) rfl))) (mvT hZ (hw _ (List.mem_of_getElem? (i := 200) rfl))) (mvT hZ (hw _ (List.mem_of_getElem? (i := 201) rfl))) (mvT hZ (hw _ (List.mem_of_getElem? (i := 202) rfl))) (by decide) (backOf (W := 0) (own_dAt l Z a0 hw [] (x_67) (t_67) (kt_67) (((([] ++ ([106, 105, 100] : List Int32)) ++ (([] ++ List.replicate cnt (48 : Int32)) ++ own_decL nn)))) ((3 + 3)) (vv) (nn) (1000000) (gCS) (gFM) T67.heap n0 (O89.keep K90 all0) (po67_3) (hvn) (by decide) (by decide) (by rw [hl3]; decide) (own_fmtAt (i := 3) rfl (by omega) hcd (by decide)) (hp8) (hG1) (hp10) (hG3)) hZ (hw _ (List.mem_of_getElem? (i := 202) rfl)) (hw _ (List.mem_of_getElem? (i := 201) rfl)) (by decide) (by decide)) (g := (mkF m 158 #[.val (.int i0), .val (.long lq1), .second, .val (.int (1 : Int32)), .val (.ref u0), .val (.long vv), .second, .val (.ref x_67), .val (.int (106 : Int32))] [(.long (1000000 : Int64)), (.long vv), (.int (6 : Int32)), (.ref x_67)])) rfl (by rw [hml]; rfl) (argsL := [(.ref x_67), (.int (6 : Int32)), (.long vv), (.long (1000000 : Int64))]) (rest := []) (lenOf own_pd26 rfl) rfl (by show 2 * 0 + _ ≤ _; exact Nat.le_of_eq rfl) (hb hby at_158) (fun _ _ => ⟨rfl, hh108, (by decide : 14 + 0 ≤ _), (by decide : 344 + 0 ≤ _)⟩)
    dsimp only [Pt.U, Pt.locs, Pt.cells, Pt.slots] at X110 l110 y110 z110 st110 hQ110
    subst l110 y110 z110
    obtain ⟨rfl, Nq110, hh110⟩ := hQ110
    have N110 := Fr.app N109 Nq110
    obtain ⟨_, _, ⟨T111, L111, k111, n111⟩, -, X111, ⟨Lc111, hQ111, l111, y111, z111⟩, st111⟩ := Jvm.LawKit.callS X110 hx (y := (⟨"com/example/uketsuke/uketsuke/store/IdFormatFormatPinLaw", "digitAt", "(Ljava/lang/String;IJJ)Z"⟩ : MethodName)) hown (mvT hZ (hw _ (List.mem_of_getElem? (i := 199) rfl))) (mvT hZ (hw _ (List.mem_of_getElem? (i := 200) rfl))) (mvT hZ (hw _ (List.mem_of_getElem? (i := 201) rfl))) (mvT hZ (hw _ (List.mem_of_getElem? (i := 202) rfl))) (by decide) (backOf (W := 0) (own_dAt l Z a0 hw [] (x_67) (t_67) (kt_67) (((([] ++ ([106, 105, 100] : List Int32)) ++ (([] ++ List.replicate cnt (48 : Int32)) ++ own_decL nn)))) ((3 + 4)) (vv) (nn) (100000) (gCS) (gFM) T67.heap n0 (O89.keep K90 all0) (po67_3) (hvn) (by decide) (by decide) (by rw [hl3]; decide) (own_fmtAt (i := 4) rfl (by omega) hcd (by decide)) (hp8) (hG1) (hp10) (hG3)) hZ (hw _ (List.mem_of_getElem? (i := 202) rfl)) (hw _ (List.mem_of_getElem? (i := 201) rfl)) (by decide) (by decide)) (g := (mkF m 173 #[.val (.int i0), .val (.long lq1), .second, .val (.int (1 : Int32)), .val (.ref u0), .val (.long vv), .second, .val (.ref x_67), .val (.int (106 : Int32))] [(.long (100000 : Int64)), (.long vv), (.int (7 : Int32)), (.ref x_67)])) rfl (by rw [hml]; rfl) (argsL := [(.ref x_67), (.int (7 : Int32)), (.long vv), (.long (100000 : Int64))]) (rest := []) (lenOf own_pd26 rfl) rfl (by show 2 * 0 + _ ≤ _; exact Nat.le_of_eq rfl) (hb hby at_173) (fun _ _ => ⟨rfl, hh110, (by decide : 14 + 0 ≤ _), (by decide : 344 + 0 ≤ _)⟩)
    dsimp only [Pt.U, Pt.locs, Pt.cells, Pt.slots] at X111 l111 y111 z111 st111 hQ111
    subst l111 y111 z111
    obtain ⟨rfl, Nq111, hh111⟩ := hQ111
    have N111 := Fr.app N110 Nq111
    obtain ⟨Lg112, X112, N112⟩ : ∃ L' : List Loc, Stand p l e room_1 (s.setVm T67.vm) m #[(.int i0), (.long lq1)] below meth c T111 L' 14 344 ∧ Fr n0 L' := ⟨_, X111, N111⟩
    obtain ⟨_, _, ⟨T113, L113, k113, n113⟩, -, X113, ⟨Lc113, hQ113, l113, y113, z113⟩, st113⟩ := Jvm.LawKit.callS X112 hx (y := (⟨"com/example/uketsuke/uketsuke/store/IdFormatFormatPinLaw", "digitAt", "(Ljava/lang/String;IJJ)Z"⟩ : MethodName)) hown (mvT hZ (hw _ (List.mem_of_getElem? (i := 199) rfl))) (mvT hZ (hw _ (List.mem_of_getElem? (i := 200) rfl))) (mvT hZ (hw _ (List.mem_of_getElem? (i := 201) rfl))) (mvT hZ (hw _ (List.mem_of_getElem? (i := 202) rfl))) (by decide) (backOf (W := 0) (own_dAt l Z a0 hw [] (x_67) (t_67) (kt_67) (((([] ++ ([106, 105, 100] : List Int32)) ++ (([] ++ List.replicate cnt (48 : Int32)) ++ own_decL nn)))) ((3 + 5)) (vv) (nn) (10000) (gCS) (gFM) T67.heap n0 (O89.keep K90 all0) (po67_3) (hvn) (by decide) (by decide) (by rw [hl3]; decide) (own_fmtAt (i := 5) rfl (by omega) hcd (by decide)) (hp8) (hG1) (hp10) (hG3)) hZ (hw _ (List.mem_of_getElem? (i := 202) rfl)) (hw _ (List.mem_of_getElem? (i := 201) rfl)) (by decide) (by decide)) (g := (mkF m 188 #[.val (.int i0), .val (.long lq1), .second, .val (.int (1 : Int32)), .val (.ref u0), .val (.long vv), .second, .val (.ref x_67), .val (.int (106 : Int32))] [(.long (10000 : Int64)), (.long vv), (.int (8 : Int32)), (.ref x_67)])) rfl (by rw [hml]; rfl) (argsL := [(.ref x_67), (.int (8 : Int32)), (.long vv), (.long (10000 : Int64))]) (rest := []) (lenOf own_pd26 rfl) rfl (by show 2 * 0 + _ ≤ _; exact Nat.le_of_eq rfl) (hb hby at_188) (fun _ _ => ⟨rfl, hh111, (by decide : 14 + 0 ≤ _), (by decide : 344 + 0 ≤ _)⟩)
    dsimp only [Pt.U, Pt.locs, Pt.cells, Pt.slots] at X113 l113 y113 z113 st113 hQ113
    subst l113 y113 z113
    obtain ⟨rfl, Nq113, hh113⟩ := hQ113
    have N113 := Fr.app N112 Nq113
    obtain ⟨_, _, ⟨T114, L114, k114, n114⟩, -, X114, ⟨Lc114, hQ114, l114, y114, z114⟩, st114⟩ := Jvm.LawKit.callS X113 hx (y := (⟨"com/example/uketsuke/uketsuke/store/IdFormatFormatPinLaw", "digitAt", "(Ljava/lang/String;IJJ)Z"⟩ : MethodName)) hown (mvT hZ (hw _ (List.mem_of_getElem? (i := 199) rfl))) (mvT hZ (hw _ (List.mem_of_getElem? (i := 200) rfl))) (mvT hZ (hw _ (List.mem_of_getElem? (i := 201) rfl))) (mvT hZ (hw _ (List.mem_of_getElem? (i := 202) rfl))) (by decide) (backOf (W := 0) (own_dAt l Z a0 hw [] (x_67) (t_67) (kt_67) (((([] ++ ([106, 105, 100] : List Int32)) ++ (([] ++ List.replicate cnt (48 : Int32)) ++ own_decL nn)))) ((3 + 6)) (vv) (nn) (1000) (gCS) (gFM) T67.heap n0 (O89.keep K90 all0) (po67_3) (hvn) (by decide) (by decide) (by rw [hl3]; decide) (own_fmtAt (i := 6) rfl (by omega) hcd (by decide)) (hp8) (hG1) (hp10) (hG3)) hZ (hw _ (List.mem_of_getElem? (i := 202) rfl)) (hw _ (List.mem_of_getElem? (i := 201) rfl)) (by decide) (by decide)) (g := (mkF m 203 #[.val (.int i0), .val (.long lq1), .second, .val (.int (1 : Int32)), .val (.ref u0), .val (.long vv), .second, .val (.ref x_67), .val (.int (106 : Int32))] [(.long (1000 : Int64)), (.long vv), (.int (9 : Int32)), (.ref x_67)])) rfl (by rw [hml]; rfl) (argsL := [(.ref x_67), (.int (9 : Int32)), (.long vv), (.long (1000 : Int64))]) (rest := []) (lenOf own_pd26 rfl) rfl (by show 2 * 0 + _ ≤ _; exact Nat.le_of_eq rfl) (hb hby at_203) (fun _ _ => ⟨rfl, hh113, (by decide : 14 + 0 ≤ _), (by decide : 344 + 0 ≤ _)⟩)
    dsimp only [Pt.U, Pt.locs, Pt.cells, Pt.slots] at X114 l114 y114 z114 st114 hQ114
    subst l114 y114 z114
    obtain ⟨rfl, Nq114, hh114⟩ := hQ114
    have N114 := Fr.app N113 Nq114
    obtain ⟨Lg115, X115, N115⟩ : ∃ L' : List Loc, Stand p l e room_1 (s.setVm T67.vm) m #[(.int i0), (.long lq1)] below meth c T114 L' 14 344 ∧ Fr n0 L' := ⟨_, X114, N114⟩
    obtain ⟨_, _, ⟨T116, L116, k116, n116⟩, -, X116, ⟨Lc116, hQ116, l116, y116, z116⟩, st116⟩ := Jvm.LawKit.callS X115 hx (y := (⟨"com/example/uketsuke/uketsuke/store/IdFormatFormatPinLaw", "digitAt", "(Ljava/lang/String;IJJ)Z"⟩ : MethodName)) hown (mvT hZ (hw _ (List.mem_of_getElem? (i := 199) rfl))) (mvT hZ (hw _ (List.mem_of_getElem? (i := 200) rfl))) (mvT hZ (hw _ (List.mem_of_getElem? (i := 201) rfl))) (mvT hZ (hw _ (List.mem_of_getElem? (i := 202) rfl))) (by decide) (backOf (W := 0) (own_dAt l Z a0 hw [] (x_67) (t_67) (kt_67) (((([] ++ ([106, 105, 100] : List Int32)) ++ (([] ++ List.replicate cnt (48 : Int32)) ++ own_decL nn)))) ((3 + 7)) (vv) (nn) (100) (gCS) (gFM) T67.heap n0 (O89.keep K90 all0) (po67_3) (hvn) (by decide) (by decide) (by rw [hl3]; decide) (own_fmtAt (i := 7) rfl (by omega) hcd (by decide)) (hp8) (hG1) (hp10) (hG3)) hZ (hw _ (List.mem_of_getElem? (i := 202) rfl)) (hw _ (List.mem_of_getElem? (i := 201) rfl)) (by decide) (by decide)) (g := (mkF m 218 #[.val (.int i0), .val (.long lq1), .second, .val (.int (1 : Int32)), .val (.ref u0), .val (.long vv), .second, .val (.ref x_67), .val (.int (106 : Int32))] [(.long (100 : Int64)), (.long vv), (.int (10 : Int32)), (.ref x_67)])) rfl (by rw [hml]; rfl) (argsL := [(.ref x_67), (.int (10 : Int32)), (.long vv), (.long (100 : Int64))]) (rest := []) (lenOf own_pd26 rfl) rfl (by show 2 * 0 + _ ≤ _; exact Nat.le_of_eq rfl) (hb hby at_218) (fun _ _ => ⟨rfl, hh114, (by decide : 14 + 0 ≤ _), (by decide : 344 + 0 ≤ _)⟩)
    dsimp only [Pt.U, Pt.locs, Pt.cells, Pt.slots] at X116 l116 y116 z116 st116 hQ116
    subst l116 y116 z116
    obtain ⟨rfl, Nq116, hh116⟩ := hQ116
    have N116 := Fr.app N115 Nq116
    obtain ⟨_, _, ⟨T117, L117, k117, n117⟩, -, X117, ⟨Lc117, hQ117, l117, y117, z117⟩, st117⟩ := Jvm.LawKit.callS X116 hx (y := (⟨"com/example/uketsuke/uketsuke/store/IdFormatFormatPinLaw", "digitAt", "(Ljava/lang/String;IJJ)Z"⟩ : MethodName)) hown (mvT hZ (hw _ (List.mem_of_getElem? (i := 199) rfl))) (mvT hZ (hw _ (List.mem_of_getElem? (i := 200) rfl))) (mvT hZ (hw _ (List.mem_of_getElem? (i := 201) rfl))) (mvT hZ (hw _ (List.mem_of_getElem? (i := 202) rfl))) (by decide) (backOf (W := 0) (own_dAt l Z a0 hw [] (x_67) (t_67) (kt_67) (((([] ++ ([106, 105, 100] : List Int32)) ++ (([] ++ List.replicate cnt (48 : Int32)) ++ own_decL nn)))) ((3 + 8)) (vv) (nn) (10) (gCS) (gFM) T67.heap n0 (O89.keep K90 all0) (po67_3) (hvn) (by decide) (by decide) (by rw [hl3]; decide) (own_fmtAt (i := 8) rfl (by omega) hcd (by decide)) (hp8) (hG1) (hp10) (hG3)) hZ (hw _ (List.mem_of_getElem? (i := 202) rfl)) (hw _ (List.mem_of_getElem? (i := 201) rfl)) (by decide) (by decide)) (g := (mkF m 233 #[.val (.int i0), .val (.long lq1), .second, .val (.int (1 : Int32)), .val (.ref u0), .val (.long vv), .second, .val (.ref x_67), .val (.int (106 : Int32))] [(.long (10 : Int64)), (.long vv), (.int (11 : Int32)), (.ref x_67)])) rfl (by rw [hml]; rfl) (argsL := [(.ref x_67), (.int (11 : Int32)), (.long vv), (.long (10 : Int64))]) (rest := []) (lenOf own_pd26 rfl) rfl (by show 2 * 0 + _ ≤ _; exact Nat.le_of_eq rfl) (hb hby at_233) (fun _ _ => ⟨rfl, hh116, (by decide : 14 + 0 ≤ _), (by decide : 344 + 0 ≤ _)⟩)
    dsimp only [Pt.U, Pt.locs, Pt.cells, Pt.slots] at X117 l117 y117 z117 st117 hQ117
    subst l117 y117 z117
    obtain ⟨rfl, Nq117, hh117⟩ := hQ117
    have N117 := Fr.app N116 Nq117
    obtain ⟨Lg118, X118, N118⟩ : ∃ L' : List Loc, Stand p l e room_1 (s.setVm T67.vm) m #[(.int i0), (.long lq1)] below meth c T117 L' 14 344 ∧ Fr n0 L' := ⟨_, X117, N117⟩
    obtain ⟨_, _, ⟨T119, L119, k119, n119⟩, -, X119, ⟨Lc119, hQ119, l119, y119, z119⟩, st119⟩ := Jvm.LawKit.callS X118 hx (y := (⟨"com/example/uketsuke/uketsuke/store/IdFormatFormatPinLaw", "digitAt", "(Ljava/lang/String;IJJ)Z"⟩ : MethodName)) hown (mvT hZ (hw _ (List.mem_of_getElem? (i := 199) rfl))) (mvT hZ (hw _ (List.mem_of_getElem? (i := 200) rfl))) (mvT hZ (hw _ (List.mem_of_getElem? (i := 201) rfl))) (mvT hZ (hw _ (List.mem_of_getElem? (i := 202) rfl))) (by decide) (backOf (W := 0) (own_dAt l Z a0 hw [] (x_67) (t_67) (kt_67) (((([] ++ ([106, 105, 100] : List Int32)) ++ (([] ++ List.replicate cnt (48 : Int32)) ++ own_decL nn)))) ((3 + 9)) (vv) (nn) (1) (gCS) (gFM) T67.heap n0 (O89.keep K90 all0) (po67_3) (hvn) (by decide) (by decide) (by rw [hl3]; decide) (own_fmtAt (i := 9) rfl (by omega) hcd (by decide)) (hp8) (hG1) (hp10) (hG3)) hZ (hw _ (List.mem_of_getElem? (i := 202) rfl)) (hw _ (List.mem_of_getElem? (i := 201) rfl)) (by decide) (by decide)) (g := (mkF m 246 #[.val (.int i0), .val (.long lq1), .second, .val (.int (1 : Int32)), .val (.ref u0), .val (.long vv), .second, .val (.ref x_67), .val (.int (106 : Int32))] [(.long (1 : Int64)), (.long vv), (.int (12 : Int32)), (.ref x_67)])) rfl (by rw [hml]; rfl) (argsL := [(.ref x_67), (.int (12 : Int32)), (.long vv), (.long (1 : Int64))]) (rest := []) (lenOf own_pd26 rfl) rfl (by show 2 * 0 + _ ≤ _; exact Nat.le_of_eq rfl) (hb hby at_246) (fun _ _ => ⟨rfl, hh117, (by decide : 14 + 0 ≤ _), (by decide : 344 + 0 ≤ _)⟩)
    dsimp only [Pt.U, Pt.locs, Pt.cells, Pt.slots] at X119 l119 y119 z119 st119 hQ119
    subst l119 y119 z119
    obtain ⟨rfl, Nq119, hh119⟩ := hQ119
    have N119 := Fr.app N118 Nq119
    obtain ⟨fs, hr, hrun, hended, hRW⟩ := Stand.leaveW (s := s) (vm₁ := T67.vm) X119 hSn67 (by rw [hh119]; exact (Nat.le_trans (Nat.le_refl _) K90.1)) (v := some (.int (nar .boolean (1 : Int32)))) (fun h => by rw [Bd.returns] at h; cases h)
    refine ⟨_, _, r104 _ ?_, hrun, hended, _, _, rfl, ?_, ⟨hRW.1, hRW.2.1, hRW.2.2.1, hRW.2.2.2.mono (by decide) (by decide)⟩⟩
    · show Steps p.tables e below (T102.setTop (mkF m 100 #[.val (.int i0), .val (.long lq1), .second, .val (.int (1 : Int32)), .val (.ref u0), .val (.long vv), .second, .val (.ref x_67), .val (.int (106 : Int32))] [(.int (100 : Int32))])) _
      refine XS.bipush X102.here hx rfl (hb hby at_100) ?_
      show Steps p.tables e below (T102.setTop (mkF m 102 #[.val (.int i0), .val (.long lq1), .second, .val (.int (1 : Int32)), .val (.ref u0), .val (.long vv), .second, .val (.ref x_67), .val (.int (106 : Int32))] [(.int (100 : Int32)), (.int (100 : Int32))])) _
      refine XS.icmpYes X102.here hx rfl (pc0 := 102) (pc' := 107) rfl (hb hby at_102) rfl (teq rfl).1 (by decide) (by decide) ?_
      show Steps p.tables e below (T102.setTop (mkF m 107 #[.val (.int i0), .val (.long lq1), .second, .val (.int (1 : Int32)), .val (.ref u0), .val (.long vv), .second, .val (.ref x_67), .val (.int (106 : Int32))] [])) _
      refine XS.aload X102.here hx rfl (hb hby at_107) rfl rfl ?_
      show Steps p.tables e below (T102.setTop (mkF m 109 #[.val (.int i0), .val (.long lq1), .second, .val (.int (1 : Int32)), .val (.ref u0), .val (.long vv), .second, .val (.ref x_67), .val (.int (106 : Int32))] [(.ref x_67)])) _
      refine XS.iconst X102.here hx rfl (hb hby at_109) ?_
      show Steps p.tables e below (T102.setTop (mkF m 110 #[.val (.int i0), .val (.long lq1), .second, .val (.int (1 : Int32)), .val (.ref u0), .val (.long vv), .second, .val (.ref x_67), .val (.int (106 : Int32))] [(.int (3 : Int32)), (.ref x_67)])) _
      refine XS.lload X102.here hx rfl (hb hby at_110) rfl ?_
      show Steps p.tables e below (T102.setTop (mkF m 112 #[.val (.int i0), .val (.long lq1), .second, .val (.int (1 : Int32)), .val (.ref u0), .val (.long vv), .second, .val (.ref x_67), .val (.int (106 : Int32))] [(.long vv), (.int (3 : Int32)), (.ref x_67)])) _
      refine X102.ldc2J hx hown (mvT hZ (hw _ (List.mem_of_getElem? (i := 198) rfl))) rfl (hb hby at_112) ?_
      show Steps p.tables e below (T102.setTop (mkF m 115 #[.val (.int i0), .val (.long lq1), .second, .val (.int (1 : Int32)), .val (.ref u0), .val (.long vv), .second, .val (.ref x_67), .val (.int (106 : Int32))] [(.long (1000000000 : Int64)), (.long vv), (.int (3 : Int32)), (.ref x_67)])) _
      refine st105 _ ?_
      show Steps p.tables e below (T105.setTop (mkF m 118 #[.val (.int i0), .val (.long lq1), .second, .val (.int (1 : Int32)), .val (.ref u0), .val (.long vv), .second, .val (.ref x_67), .val (.int (106 : Int32))] [(.int (1 : Int32))])) _
      refine XS.ifNo X105.here hx rfl (hb hby at_118) rfl ((if0 _ _).trans (feq (by decide)).1) ?_
      show Steps p.tables e below (T105.setTop (mkF m 121 #[.val (.int i0), .val (.long lq1), .second, .val (.int (1 : Int32)), .val (.ref u0), .val (.long vv), .second, .val (.ref x_67), .val (.int (106 : Int32))] [])) _
      refine XS.aload X105.here hx rfl (hb hby at_121) rfl rfl ?_
      show Steps p.tables e below (T105.setTop (mkF m 123 #[.val (.int i0), .val (.long lq1), .second, .val (.int (1 : Int32)), .val (.ref u0), .val (.long vv), .second, .val (.ref x_67), .val (.int (106 : Int32))] [(.ref x_67)])) _
      refine XS.iconst X105.here hx rfl (hb hby at_123) ?_
      show Steps p.tables e below (T105.setTop (mkF m 124 #[.val (.int i0), .val (.long lq1), .second, .val (.int (1 : Int32)), .val (.ref u0), .val (.long vv), .second, .val (.ref x_67), .val (.int (106 : Int32))] [(.int (4 : Int32)), (.ref x_67)])) _
      refine XS.lload X105.here hx rfl (hb hby at_124) rfl ?_
      show Steps p.tables e below (T105.setTop (mkF m 126 #[.val (.int i0), .val (.long lq1), .second, .val (.int (1 : Int32)), .val (.ref u0), .val (.long vv), .second, .val (.ref x_67), .val (.int (106 : Int32))] [(.long vv), (.int (4 : Int32)), (.ref x_67)])) _
      refine X105.ldc2J hx hown (mvT hZ (hw _ (List.mem_of_getElem? (i := 204) rfl))) rfl (hb hby at_126) ?_
      show Steps p.tables e below (T105.setTop (mkF m 129 #[.val (.int i0), .val (.long lq1), .second, .val (.int (1 : Int32)), .val (.ref u0), .val (.long vv), .second, .val (.ref x_67), .val (.int (106 : Int32))] [(.long (100000000 : Int64)), (.long vv), (.int (4 : Int32)), (.ref x_67)])) _
      refine st107 _ ?_
      show Steps p.tables e below (T107.setTop (mkF m 132 #[.val (.int i0), .val (.long lq1), .second, .val (.int (1 : Int32)), .val (.ref u0), .val (.long vv), .second, .val (.ref x_67), .val (.int (106 : Int32))] [(.int (1 : Int32))])) _
      refine XS.ifNo X107.here hx rfl (hb hby at_132) rfl ((if0 _ _).trans (feq (by decide)).1) ?_
      show Steps p.tables e below (T107.setTop (mkF m 135 #[.val (.int i0), .val (.long lq1), .second, .val (.int (1 : Int32)), .val (.ref u0), .val (.long vv), .second, .val (.ref x_67), .val (.int (106 : Int32))] [])) _
      refine XS.aload X107.here hx rfl (hb hby at_135) rfl rfl ?_
      show Steps p.tables e below (T107.setTop (mkF m 137 #[.val (.int i0), .val (.long lq1), .second, .val (.int (1 : Int32)), .val (.ref u0), .val (.long vv), .second, .val (.ref x_67), .val (.int (106 : Int32))] [(.ref x_67)])) _
      refine XS.iconst X107.here hx rfl (hb hby at_137) ?_
      show Steps p.tables e below (T107.setTop (mkF m 138 #[.val (.int i0), .val (.long lq1), .second, .val (.int (1 : Int32)), .val (.ref u0), .val (.long vv), .second, .val (.ref x_67), .val (.int (106 : Int32))] [(.int (5 : Int32)), (.ref x_67)])) _
      refine XS.lload X107.here hx rfl (hb hby at_138) rfl ?_
      show Steps p.tables e below (T107.setTop (mkF m 140 #[.val (.int i0), .val (.long lq1), .second, .val (.int (1 : Int32)), .val (.ref u0), .val (.long vv), .second, .val (.ref x_67), .val (.int (106 : Int32))] [(.long vv), (.int (5 : Int32)), (.ref x_67)])) _
      refine X107.ldc2J hx hown (mvT hZ (hw _ (List.mem_of_getElem? (i := 205) rfl))) rfl (hb hby at_140) ?_
      show Steps p.tables e below (T107.setTop (mkF m 143 #[.val (.int i0), .val (.long lq1), .second, .val (.int (1 : Int32)), .val (.ref u0), .val (.long vv), .second, .val (.ref x_67), .val (.int (106 : Int32))] [(.long (10000000 : Int64)), (.long vv), (.int (5 : Int32)), (.ref x_67)])) _
      refine st108 _ ?_
      show Steps p.tables e below (T108.setTop (mkF m 146 #[.val (.int i0), .val (.long lq1), .second, .val (.int (1 : Int32)), .val (.ref u0), .val (.long vv), .second, .val (.ref x_67), .val (.int (106 : Int32))] [(.int (1 : Int32))])) _
      refine XS.ifNo X108.here hx rfl (hb hby at_146) rfl ((if0 _ _).trans (feq (by decide)).1) ?_
      show Steps p.tables e below (T108.setTop (mkF m 149 #[.val (.int i0), .val (.long lq1), .second, .val (.int (1 : Int32)), .val (.ref u0), .val (.long vv), .second, .val (.ref x_67), .val (.int (106 : Int32))] [])) _
      refine XS.aload X108.here hx rfl (hb hby at_149) rfl rfl ?_
      show Steps p.tables e below (T108.setTop (mkF m 151 #[.val (.int i0), .val (.long lq1), .second, .val (.int (1 : Int32)), .val (.ref u0), .val (.long vv), .second, .val (.ref x_67), .val (.int (106 : Int32))] [(.ref x_67)])) _
      refine XS.bipush X108.here hx rfl (hb hby at_151) ?_
      show Steps p.tables e below (T108.setTop (mkF m 153 #[.val (.int i0), .val (.long lq1), .second, .val (.int (1 : Int32)), .val (.ref u0), .val (.long vv), .second, .val (.ref x_67), .val (.int (106 : Int32))] [(.int (6 : Int32)), (.ref x_67)])) _
      refine XS.lload X108.here hx rfl (hb hby at_153) rfl ?_
      show Steps p.tables e below (T108.setTop (mkF m 155 #[.val (.int i0), .val (.long lq1), .second, .val (.int (1 : Int32)), .val (.ref u0), .val (.long vv), .second, .val (.ref x_67), .val (.int (106 : Int32))] [(.long vv), (.int (6 : Int32)), (.ref x_67)])) _
      refine X108.ldc2J hx hown (mvT hZ (hw _ (List.mem_of_getElem? (i := 206) rfl))) rfl (hb hby at_155) ?_
      show Steps p.tables e below (T108.setTop (mkF m 158 #[.val (.int i0), .val (.long lq1), .second, .val (.int (1 : Int32)), .val (.ref u0), .val (.long vv), .second, .val (.ref x_67), .val (.int (106 : Int32))] [(.long (1000000 : Int64)), (.long vv), (.int (6 : Int32)), (.ref x_67)])) _
      refine st110 _ ?_
      show Steps p.tables e below (T110.setTop (mkF m 161 #[.val (.int i0), .val (.long lq1), .second, .val (.int (1 : Int32)), .val (.ref u0), .val (.long vv), .second, .val (.ref x_67), .val (.int (106 : Int32))] [(.int (1 : Int32))])) _
      refine XS.ifNo X110.here hx rfl (hb hby at_161) rfl ((if0 _ _).trans (feq (by decide)).1) ?_
      show Steps p.tables e below (T110.setTop (mkF m 164 #[.val (.int i0), .val (.long lq1), .second, .val (.int (1 : Int32)), .val (.ref u0), .val (.long vv), .second, .val (.ref x_67), .val (.int (106 : Int32))] [])) _
      refine XS.aload X110.here hx rfl (hb hby at_164) rfl rfl ?_
      show Steps p.tables e below (T110.setTop (mkF m 166 #[.val (.int i0), .val (.long lq1), .second, .val (.int (1 : Int32)), .val (.ref u0), .val (.long vv), .second, .val (.ref x_67), .val (.int (106 : Int32))] [(.ref x_67)])) _
      refine XS.bipush X110.here hx rfl (hb hby at_166) ?_
      show Steps p.tables e below (T110.setTop (mkF m 168 #[.val (.int i0), .val (.long lq1), .second, .val (.int (1 : Int32)), .val (.ref u0), .val (.long vv), .second, .val (.ref x_67), .val (.int (106 : Int32))] [(.int (7 : Int32)), (.ref x_67)])) _
      refine XS.lload X110.here hx rfl (hb hby at_168) rfl ?_
      show Steps p.tables e below (T110.setTop (mkF m 170 #[.val (.int i0), .val (.long lq1), .second, .val (.int (1 : Int32)), .val (.ref u0), .val (.long vv), .second, .val (.ref x_67), .val (.int (106 : Int32))] [(.long vv), (.int (7 : Int32)), (.ref x_67)])) _
      refine X110.ldc2J hx hown (mvT hZ (hw _ (List.mem_of_getElem? (i := 207) rfl))) rfl (hb hby at_170) ?_
      show Steps p.tables e below (T110.setTop (mkF m 173 #[.val (.int i0), .val (.long lq1), .second, .val (.int (1 : Int32)), .val (.ref u0), .val (.long vv), .second, .val (.ref x_67), .val (.int (106 : Int32))] [(.long (100000 : Int64)), (.long vv), (.int (7 : Int32)), (.ref x_67)])) _
      refine st111 _ ?_
      show Steps p.tables e below (T111.setTop (mkF m 176 #[.val (.int i0), .val (.long lq1), .second, .val (.int (1 : Int32)), .val (.ref u0), .val (.long vv), .second, .val (.ref x_67), .val (.int (106 : Int32))] [(.int (1 : Int32))])) _
      refine XS.ifNo X111.here hx rfl (hb hby at_176) rfl ((if0 _ _).trans (feq (by decide)).1) ?_
      show Steps p.tables e below (T111.setTop (mkF m 179 #[.val (.int i0), .val (.long lq1), .second, .val (.int (1 : Int32)), .val (.ref u0), .val (.long vv), .second, .val (.ref x_67), .val (.int (106 : Int32))] [])) _
      refine XS.aload X111.here hx rfl (hb hby at_179) rfl rfl ?_
      show Steps p.tables e below (T111.setTop (mkF m 181 #[.val (.int i0), .val (.long lq1), .second, .val (.int (1 : Int32)), .val (.ref u0), .val (.long vv), .second, .val (.ref x_67), .val (.int (106 : Int32))] [(.ref x_67)])) _
      refine XS.bipush X111.here hx rfl (hb hby at_181) ?_
      show Steps p.tables e below (T111.setTop (mkF m 183 #[.val (.int i0), .val (.long lq1), .second, .val (.int (1 : Int32)), .val (.ref u0), .val (.long vv), .second, .val (.ref x_67), .val (.int (106 : Int32))] [(.int (8 : Int32)), (.ref x_67)])) _
      refine XS.lload X111.here hx rfl (hb hby at_183) rfl ?_
      show Steps p.tables e below (T111.setTop (mkF m 185 #[.val (.int i0), .val (.long lq1), .second, .val (.int (1 : Int32)), .val (.ref u0), .val (.long vv), .second, .val (.ref x_67), .val (.int (106 : Int32))] [(.long vv), (.int (8 : Int32)), (.ref x_67)])) _
      refine X111.ldc2J hx hown (mvT hZ (hw _ (List.mem_of_getElem? (i := 208) rfl))) rfl (hb hby at_185) ?_
      show Steps p.tables e below (T111.setTop (mkF m 188 #[.val (.int i0), .val (.long lq1), .second, .val (.int (1 : Int32)), .val (.ref u0), .val (.long vv), .second, .val (.ref x_67), .val (.int (106 : Int32))] [(.long (10000 : Int64)), (.long vv), (.int (8 : Int32)), (.ref x_67)])) _
      refine st113 _ ?_
      show Steps p.tables e below (T113.setTop (mkF m 191 #[.val (.int i0), .val (.long lq1), .second, .val (.int (1 : Int32)), .val (.ref u0), .val (.long vv), .second, .val (.ref x_67), .val (.int (106 : Int32))] [(.int (1 : Int32))])) _
      refine XS.ifNo X113.here hx rfl (hb hby at_191) rfl ((if0 _ _).trans (feq (by decide)).1) ?_
      show Steps p.tables e below (T113.setTop (mkF m 194 #[.val (.int i0), .val (.long lq1), .second, .val (.int (1 : Int32)), .val (.ref u0), .val (.long vv), .second, .val (.ref x_67), .val (.int (106 : Int32))] [])) _
      refine XS.aload X113.here hx rfl (hb hby at_194) rfl rfl ?_
      show Steps p.tables e below (T113.setTop (mkF m 196 #[.val (.int i0), .val (.long lq1), .second, .val (.int (1 : Int32)), .val (.ref u0), .val (.long vv), .second, .val (.ref x_67), .val (.int (106 : Int32))] [(.ref x_67)])) _
      refine XS.bipush X113.here hx rfl (hb hby at_196) ?_
      show Steps p.tables e below (T113.setTop (mkF m 198 #[.val (.int i0), .val (.long lq1), .second, .val (.int (1 : Int32)), .val (.ref u0), .val (.long vv), .second, .val (.ref x_67), .val (.int (106 : Int32))] [(.int (9 : Int32)), (.ref x_67)])) _
      refine XS.lload X113.here hx rfl (hb hby at_198) rfl ?_
      show Steps p.tables e below (T113.setTop (mkF m 200 #[.val (.int i0), .val (.long lq1), .second, .val (.int (1 : Int32)), .val (.ref u0), .val (.long vv), .second, .val (.ref x_67), .val (.int (106 : Int32))] [(.long vv), (.int (9 : Int32)), (.ref x_67)])) _
      refine X113.ldc2J hx hown (mvT hZ (hw _ (List.mem_of_getElem? (i := 209) rfl))) rfl (hb hby at_200) ?_
      show Steps p.tables e below (T113.setTop (mkF m 203 #[.val (.int i0), .val (.long lq1), .second, .val (.int (1 : Int32)), .val (.ref u0), .val (.long vv), .second, .val (.ref x_67), .val (.int (106 : Int32))] [(.long (1000 : Int64)), (.long vv), (.int (9 : Int32)), (.ref x_67)])) _
      refine st114 _ ?_
      show Steps p.tables e below (T114.setTop (mkF m 206 #[.val (.int i0), .val (.long lq1), .second, .val (.int (1 : Int32)), .val (.ref u0), .val (.long vv), .second, .val (.ref x_67), .val (.int (106 : Int32))] [(.int (1 : Int32))])) _
      refine XS.ifNo X114.here hx rfl (hb hby at_206) rfl ((if0 _ _).trans (feq (by decide)).1) ?_
      show Steps p.tables e below (T114.setTop (mkF m 209 #[.val (.int i0), .val (.long lq1), .second, .val (.int (1 : Int32)), .val (.ref u0), .val (.long vv), .second, .val (.ref x_67), .val (.int (106 : Int32))] [])) _
      refine XS.aload X114.here hx rfl (hb hby at_209) rfl rfl ?_
      show Steps p.tables e below (T114.setTop (mkF m 211 #[.val (.int i0), .val (.long lq1), .second, .val (.int (1 : Int32)), .val (.ref u0), .val (.long vv), .second, .val (.ref x_67), .val (.int (106 : Int32))] [(.ref x_67)])) _
      refine XS.bipush X114.here hx rfl (hb hby at_211) ?_
      show Steps p.tables e below (T114.setTop (mkF m 213 #[.val (.int i0), .val (.long lq1), .second, .val (.int (1 : Int32)), .val (.ref u0), .val (.long vv), .second, .val (.ref x_67), .val (.int (106 : Int32))] [(.int (10 : Int32)), (.ref x_67)])) _
      refine XS.lload X114.here hx rfl (hb hby at_213) rfl ?_
      show Steps p.tables e below (T114.setTop (mkF m 215 #[.val (.int i0), .val (.long lq1), .second, .val (.int (1 : Int32)), .val (.ref u0), .val (.long vv), .second, .val (.ref x_67), .val (.int (106 : Int32))] [(.long vv), (.int (10 : Int32)), (.ref x_67)])) _
      refine X114.ldc2J hx hown (mvT hZ (hw _ (List.mem_of_getElem? (i := 210) rfl))) rfl (hb hby at_215) ?_
      show Steps p.tables e below (T114.setTop (mkF m 218 #[.val (.int i0), .val (.long lq1), .second, .val (.int (1 : Int32)), .val (.ref u0), .val (.long vv), .second, .val (.ref x_67), .val (.int (106 : Int32))] [(.long (100 : Int64)), (.long vv), (.int (10 : Int32)), (.ref x_67)])) _
      refine st116 _ ?_
      show Steps p.tables e below (T116.setTop (mkF m 221 #[.val (.int i0), .val (.long lq1), .second, .val (.int (1 : Int32)), .val (.ref u0), .val (.long vv), .second, .val (.ref x_67), .val (.int (106 : Int32))] [(.int (1 : Int32))])) _
      refine XS.ifNo X116.here hx rfl (hb hby at_221) rfl ((if0 _ _).trans (feq (by decide)).1) ?_
      show Steps p.tables e below (T116.setTop (mkF m 224 #[.val (.int i0), .val (.long lq1), .second, .val (.int (1 : Int32)), .val (.ref u0), .val (.long vv), .second, .val (.ref x_67), .val (.int (106 : Int32))] [])) _
      refine XS.aload X116.here hx rfl (hb hby at_224) rfl rfl ?_
      show Steps p.tables e below (T116.setTop (mkF m 226 #[.val (.int i0), .val (.long lq1), .second, .val (.int (1 : Int32)), .val (.ref u0), .val (.long vv), .second, .val (.ref x_67), .val (.int (106 : Int32))] [(.ref x_67)])) _
      refine XS.bipush X116.here hx rfl (hb hby at_226) ?_
      show Steps p.tables e below (T116.setTop (mkF m 228 #[.val (.int i0), .val (.long lq1), .second, .val (.int (1 : Int32)), .val (.ref u0), .val (.long vv), .second, .val (.ref x_67), .val (.int (106 : Int32))] [(.int (11 : Int32)), (.ref x_67)])) _
      refine XS.lload X116.here hx rfl (hb hby at_228) rfl ?_
      show Steps p.tables e below (T116.setTop (mkF m 230 #[.val (.int i0), .val (.long lq1), .second, .val (.int (1 : Int32)), .val (.ref u0), .val (.long vv), .second, .val (.ref x_67), .val (.int (106 : Int32))] [(.long vv), (.int (11 : Int32)), (.ref x_67)])) _
      refine X116.ldc2J hx hown (mvT hZ (hw _ (List.mem_of_getElem? (i := 203) rfl))) rfl (hb hby at_230) ?_
      show Steps p.tables e below (T116.setTop (mkF m 233 #[.val (.int i0), .val (.long lq1), .second, .val (.int (1 : Int32)), .val (.ref u0), .val (.long vv), .second, .val (.ref x_67), .val (.int (106 : Int32))] [(.long (10 : Int64)), (.long vv), (.int (11 : Int32)), (.ref x_67)])) _
      refine st117 _ ?_
      show Steps p.tables e below (T117.setTop (mkF m 236 #[.val (.int i0), .val (.long lq1), .second, .val (.int (1 : Int32)), .val (.ref u0), .val (.long vv), .second, .val (.ref x_67), .val (.int (106 : Int32))] [(.int (1 : Int32))])) _
      refine XS.ifNo X117.here hx rfl (hb hby at_236) rfl ((if0 _ _).trans (feq (by decide)).1) ?_
      show Steps p.tables e below (T117.setTop (mkF m 239 #[.val (.int i0), .val (.long lq1), .second, .val (.int (1 : Int32)), .val (.ref u0), .val (.long vv), .second, .val (.ref x_67), .val (.int (106 : Int32))] [])) _
      refine XS.aload X117.here hx rfl (hb hby at_239) rfl rfl ?_
      show Steps p.tables e below (T117.setTop (mkF m 241 #[.val (.int i0), .val (.long lq1), .second, .val (.int (1 : Int32)), .val (.ref u0), .val (.long vv), .second, .val (.ref x_67), .val (.int (106 : Int32))] [(.ref x_67)])) _
      refine XS.bipush X117.here hx rfl (hb hby at_241) ?_
      show Steps p.tables e below (T117.setTop (mkF m 243 #[.val (.int i0), .val (.long lq1), .second, .val (.int (1 : Int32)), .val (.ref u0), .val (.long vv), .second, .val (.ref x_67), .val (.int (106 : Int32))] [(.int (12 : Int32)), (.ref x_67)])) _
      refine XS.lload X117.here hx rfl (hb hby at_243) rfl ?_
      show Steps p.tables e below (T117.setTop (mkF m 245 #[.val (.int i0), .val (.long lq1), .second, .val (.int (1 : Int32)), .val (.ref u0), .val (.long vv), .second, .val (.ref x_67), .val (.int (106 : Int32))] [(.long vv), (.int (12 : Int32)), (.ref x_67)])) _
      refine XS.lconst X117.here hx rfl (hb hby at_245) ?_
      show Steps p.tables e below (T117.setTop (mkF m 246 #[.val (.int i0), .val (.long lq1), .second, .val (.int (1 : Int32)), .val (.ref u0), .val (.long vv), .second, .val (.ref x_67), .val (.int (106 : Int32))] [(.long (1 : Int64)), (.long vv), (.int (12 : Int32)), (.ref x_67)])) _
      refine st119 _ ?_
      show Steps p.tables e below (T119.setTop (mkF m 249 #[.val (.int i0), .val (.long lq1), .second, .val (.int (1 : Int32)), .val (.ref u0), .val (.long vv), .second, .val (.ref x_67), .val (.int (106 : Int32))] [(.int (1 : Int32))])) _
      refine XS.ifNo X119.here hx rfl (hb hby at_249) rfl ((if0 _ _).trans (feq (by decide)).1) ?_
      show Steps p.tables e below (T119.setTop (mkF m 252 #[.val (.int i0), .val (.long lq1), .second, .val (.int (1 : Int32)), .val (.ref u0), .val (.long vv), .second, .val (.ref x_67), .val (.int (106 : Int32))] [])) _
      refine XS.iconst X119.here hx rfl (hb hby at_252) ?_
      show Steps p.tables e below (T119.setTop (mkF m 253 #[.val (.int i0), .val (.long lq1), .second, .val (.int (1 : Int32)), .val (.ref u0), .val (.long vv), .second, .val (.ref x_67), .val (.int (106 : Int32))] [(.int (1 : Int32))])) _
      refine XS.goto X119.here hx rfl (pc0 := 253) (pc' := 257) rfl (hb hby at_253) (by decide) (by decide) ?_
      show Steps p.tables e below (T119.setTop (mkF m 257 #[.val (.int i0), .val (.long lq1), .second, .val (.int (1 : Int32)), .val (.ref u0), .val (.long vv), .second, .val (.ref x_67), .val (.int (106 : Int32))] [(.int (1 : Int32))])) _
      exact retN X119 hx (t := .boolean) Bd.returns (by simp) (hb hby at_257) hr
    · show Q_own_law Z i0 lq1 u0 yy0 tyy0 kyy0 u1 yy1 tyy1 kyy1 gCS gFM ist dt1 dt2 cD1 cD2 h0 n0 _ T119.heap _
      rw [hh119]
      exact ⟨rfl, N119⟩
set_option maxRecDepth 65536 in
set_option maxHeartbeats 40000000 in
theorem comes_1 {Post : Tables → Env → Array Value → State → Outcome → State → Prop} (hpost : ∀ tb e args s v u, (limb_1_1.after args s (.returned v) u = true ∧ limb_1_2.after args s (.returned v) u = true ∧ True) → ReturnedEndW s (.returned v) u (Jvm.fieldLocs frame_1_writes args s ++ Jvm.arrayLocs frame_1_arrays args s ++ Jvm.staticLocs frame_1_statics s) 40 2304 → Post tb e args s (.returned v) u) :
    ArmFor flags0 classFile x code maxLocals ret World_1 tables_1 room_1 Calls_1 rest_1 Pre_1 Post := by
  intro l hfl _ _ p e ha hc hk s m args below hf hA hF happ hP
  obtain ⟨hcalls, hrest, hpre⟩ := hP
  obtain ⟨-, -, -, hnamed, -, -, -, hat⟩ := (Spec.applies_iff hf).mp happ
  obtain ⟨hg, hn⟩ := and_e (Cond.before_iff.mp (show (Jvm.Cond.and given_1 narrow_1).before args s = true from hpre))
  obtain ⟨g0, g1⟩ := and_e hg
  obtain ⟨g1, g2⟩ := and_e g1
  obtain ⟨w0, w1, rfl⟩ : ∃ (w0 : Value) (w1 : Value), args = #[w0, w1] := by
    have hs : args.size = 2 := by simpa [Cond.value, given_1] using g0
    obtain ⟨L⟩ := args
    match L, hs with
    | [w0, w1], _ => exact ⟨w0, w1, rfl⟩
  have hw := fun d (hd : d ∈ tables_1) => atoms_spec (ws := Jvm.Cond.code x code maxLocals ret :: tables_1) hat d (List.mem_cons_of_mem _ hd)
  obtain ⟨hsets, hown0⟩ := atoms_of _ (rest_1_c_eq ▸ (show rest_1_c.before _ s = true from hrest))
  have hfit : Fit s := fun {y c} hc i hi => by
    obtain ⟨ha, rfl⟩ := Array.getElem?_eq_some_iff.mp hc
    have q := List.all_eq_true.mp ((Array.all_eq_true_iff_forall_mem.mp hF) _ (Array.getElem_mem ha)) i (List.mem_range.mpr hi)
    simpa [Array.getElem?_eq_getElem hi] using q
  obtain ⟨i0, ev0⟩ := is_v g1
  obtain rfl : w0 = (.int i0) := Option.some.inj ev0
  obtain ⟨i1, ev1⟩ := isL_v g2
  obtain rfl : w1 = (.long i1) := Option.some.inj ev1
  obtain ⟨n0, hn1⟩ := and_e hn
  obtain ⟨n1, hn2⟩ := and_e hn1
  obtain ⟨n2, hn3⟩ := and_e hn2
  obtain ⟨n3, hn4⟩ := and_e hn3
  obtain ⟨n4, hn5⟩ := and_e hn4
  obtain ⟨n5, hn6⟩ := and_e hn5
  obtain ⟨n6, hn7⟩ := and_e hn6
  obtain ⟨n7, hn8⟩ := and_e hn7
  obtain ⟨n8, hn9⟩ := and_e hn8
  obtain ⟨n9, hn10⟩ := and_e hn9
  obtain ⟨n10, hn11⟩ := and_e hn10
  obtain ⟨n11, hn12⟩ := and_e hn11
  obtain ⟨n12, hn13⟩ := and_e hn12
  obtain ⟨n13, hn14⟩ := and_e hn13
  obtain ⟨n14, hn15⟩ := and_e hn14
  obtain ⟨n15, hn16⟩ := and_e hn15
  obtain ⟨n16, n17⟩ := and_e hn16
  obtain ⟨G1, eG1⟩ := is_v (Cond.before_iff.mp (hsets _ (List.mem_of_getElem? (i := 1) rfl)))
  have S_CS : Sta s s.heap "java/lang/String" "COMPACT_STRINGS" "Z" (.int G1) := Sta.start eG1 (Or.inl (hsets _ (List.mem_of_getElem? (i := 0) rfl)))
  have nG1 := not_v (Cond.before_iff.mp (hsets _ (List.mem_of_getElem? (i := 2) rfl)))
  have hG1 : ¬ (G1 = (0 : Int32)) := gotF (Cond.eq_ints eG1 (Term.int_eval (0))) nG1
  obtain ⟨G3, eG3, hG3⟩ := isR_v (Cond.before_iff.mp (hsets _ (List.mem_of_getElem? (i := 8) rfl)))
  have S_FM : Sta s s.heap "jdk/internal/util/Preconditions" "SIOOBE_FORMATTER" "Ljava/util/function/BiFunction;" G3 := Sta.start eG3 (Or.inl (hsets _ (List.mem_of_getElem? (i := 7) rfl)))
  obtain ⟨ist, dt1, D1, dt2, D2, hT1, hO1, hT2, hO2⟩ := Jvm.SetKit.digits_of hfit (hw _ (List.mem_of_getElem? (i := 28) rfl)) (hsets _ (List.mem_of_getElem? (i := 9) rfl)) (hsets _ (List.mem_of_getElem? (i := 10) rfl)) (hsets _ (List.mem_of_getElem? (i := 12) rfl)) (hsets _ (List.mem_of_getElem? (i := 13) rfl)) (hsets _ (List.mem_of_getElem? (i := 14) rfl)) (hsets _ (List.mem_of_getElem? (i := 15) rfl)) (hsets _ (List.mem_of_getElem? (i := 17) rfl)) (hsets _ (List.mem_of_getElem? (i := 18) rfl)) (hsets _ (List.mem_of_getElem? (i := 19) rfl))
  obtain ⟨_, _, _, _, cS1, -, -, -, -, hs1, -, -, hD1, -⟩ := id hT1
  obtain ⟨_, _, _, _, cS2, -, -, -, -, hs2, -, -, hD2, -⟩ := id hT2
  obtain ⟨a_BATCH, ev_BATCH⟩ := exa_v n0
  have X_BATCH := Exa.start ev_BATCH n0
  have S_BATCH := Sta.start ev_BATCH (Or.inr ⟨(hw _ (List.mem_of_getElem? (i := 1) rfl)), (hw _ (List.mem_of_getElem? (i := 2) rfl))⟩)
  obtain ⟨y_BATCH, ey_BATCH⟩ := exa_v n1
  have F_BATCH := Fld.start ((fld_at ev_BATCH).symm.trans ey_BATCH)
  obtain ⟨t_BATCH, k_BATCH, R_BATCH⟩ := own_str3 (c0 := 98) (c1 := 105) (c2 := 100) hfit (by decide) (by decide) ey_BATCH n1 n2 n4 n5 n6 n7 n8
  obtain ⟨a_JOB, ev_JOB⟩ := exa_v n9
  have X_JOB := Exa.start ev_JOB n9
  have S_JOB := Sta.start ev_JOB (Or.inr ⟨(hw _ (List.mem_of_getElem? (i := 1) rfl)), (hw _ (List.mem_of_getElem? (i := 212) rfl))⟩)
  obtain ⟨y_JOB, ey_JOB⟩ := exa_v n10
  have F_JOB := Fld.start ((fld_at ev_JOB).symm.trans ey_JOB)
  obtain ⟨t_JOB, k_JOB, R_JOB⟩ := own_str3 (c0 := 106) (c1 := 105) (c2 := 100) hfit (by decide) (by decide) ey_JOB n10 n11 n13 n14 n15 n16 n17
  have hELs : EW s _ consts_1 := (EW.cons (hw _ (List.mem_of_getElem? (i := 112) rfl)) (by first | decide | decide +kernel) (EW.cons (hw _ (List.mem_of_getElem? (i := 216) rfl)) (by first | decide | decide +kernel) EW.nil))
  obtain ⟨n, o, h1, h2, h3, _, L, rfl, ⟨rfl, N⟩, hq⟩ := own_law l s _ hw tables_1 i0 i1 a_JOB y_JOB t_JOB k_JOB a_BATCH y_BATCH t_BATCH k_BATCH G1 G3 ist dt1 dt2 D1 D2 s.heap s.heap.size (Old.start s) S_JOB X_JOB F_JOB R_JOB S_BATCH X_BATCH F_BATCH R_BATCH S_CS hG1 S_FM hG3 hT1 hT2 hO1 hO2 (Array.getElem?_eq_some_iff.mp hs1).1 (Array.getElem?_eq_some_iff.mp hD1).1 (Array.getElem?_eq_some_iff.mp hD2).1 hD1 hD2 hELs p e ha hc hk s m _ below hf ((Spec.applies_iff_loose hf).mp happ).1 ⟨rfl, State.Warmed39.refl s, rfl, CHv.start hELs (fun p hp => hcalls.1 p hp) (hsets _ (List.mem_of_getElem? (i := 2) rfl)) (hw _ (List.mem_of_getElem? (i := 28) rfl)) (hw _ (List.mem_of_getElem? (i := 106) rfl))⟩ trivial
  refine ⟨n, _, h1, h2, h3, hpost _ _ _ _ _ _ ⟨Cond.after_iff.mpr rfl, Cond.after_iff.mpr (eq_i res_at (Term.int_eval (1)) rfl), trivial⟩ ⟨hq.1, hq.2.1, hq.2.2.1, (hq.2.2.2.sift fun y hy => Or.inr (N y hy)).mono (by decide) (by decide)⟩⟩
theorem main_1_1 : Claimed_1_1 := comes_1 fun _ _ _ _ _ _ h hF => ⟨h.1, hF⟩
theorem main_1_2 : Claimed_1_2 := comes_1 fun _ _ _ _ _ _ h hF => ⟨h.2.1, hF⟩
end Jvm.Pilot.@@N@@
namespace Jvm.Pilot.@@N@@
open Jvm Jvm.ClassFile Sem Op Lib Jvm.Free Jvm.Stand Jvm.Pilot.@@N@@.Jvm.D
/-! MADE BY PROGRAM (witnessworld.py) out of the Statement's table words and the real class files: 27 classes; the members and pool entries that the words name. The judged class is class 1, her method 1. -/
namespace start1
open Jvm.ClassFile
def u (s : String) : CpInfo := .utf8 (stringToUtf16 s)
/-- a pool by its gaps: so many unusable entries, then the entry; so many at the end -/
def gap : Nat → List CpInfo → List CpInfo
  | 0, r => r
  | n + 1, r => .unusable :: gap n r
def poolList (es : List (Nat × CpInfo)) (last : Nat) : List CpInfo := es.foldr (fun e r => gap e.1 (e.2 :: r)) (gap last [])
def pool (es : List (Nat × CpInfo)) (last : Nat) : Array CpInfo := ⟨poolList es last⟩
def fileOf (pool : Array CpInfo) (this : Nat) (attrs : Array Attribute := #[]) (ms : Array MethodInfo := #[]) (fl : Nat := 33) (sup : Nat := 0) (ifs : Array Nat := #[]) (fds : Array FieldInfo := #[]) : ClassFile where
  minorVersion := 0
  majorVersion := 65
  constantPool := pool
  accessFlags := fl
  thisClass := this
  superClass := sup
  interfaces := ifs
  fields := fds
  methods := ms
  attributes := attrs
def plain (name : String) (sup : Option ClassId) : Class where
  name := name
  kind := .ordinary
  loader := none
  accessFlags := 33
  super := sup
  interfaces := #[]
  cf := none
  fields := #[]
  methods := #[]
  instanceTypes := #[]
  staticTypes := #[]
  resolved := #[]
  callSites := []
  init := .initialized
  statics := none
  mirror := none

def pool0 : Array CpInfo := pool [(5, u "<init>"), (0, u "()V"), (1, .class_ 10), (1, u "java/lang/Object")] 113

def k0c0 : Code := { maxStack := 0, maxLocals := 1, code := object_method_1_code, exceptionTable := #[], attributes := #[] }
def k0m0 : Method := { name := "<init>", desc := "()V", sig := { parameters := [], returnType := none }, accessFlags := 1, code := some k0c0 }
/-- java/lang/Object -/
def k0 : Class := { plain "java/lang/Object" none with
  accessFlags := 33
  interfaces := #[]
  cf := some (fileOf pool0 8 #[] #[{ accessFlags := 1, nameIndex := 5, descriptorIndex := 6, attributes := #[] }] 33 0 #[] #[])
  fields := #[]
  methods := #[k0m0]
  instanceTypes := #[]
  staticTypes := #[]
  resolved := Array.replicate 124 none
  statics := none }

def pool1 : Array CpInfo := pool [(2, .class_ 4), (1, u "java/lang/Object"), (0, u "<init>"), (0, u "()V"), (0, .fieldref 8 9), (0, .class_ 10), (0, .nameAndType 11 12), (0, u "com/example/uketsuke/uketsuke/store/IdFormat"), (0, u "JOB"), (0, u "Lcom/example/uketsuke/uketsuke/store/IdFormat;"), (0, .fieldref 8 14), (0, .nameAndType 15 12), (0, u "BATCH"), (2, .long 9223372036854775807), (1, .long 10000000000), (1, .methodref 8 23), (0, .nameAndType 24 25), (0, u "format"), (0, u "(J)Ljava/lang/String;"), (0, .methodref 27 28), (0, .class_ 29), (0, .nameAndType 30 31), (0, u "java/lang/String"), (0, u "length"), (0, u "()I"), (0, .methodref 27 33), (0, .nameAndType 34 35), (0, u "charAt"), (0, u "(I)C"), (0, .long 1000000000), (1, .methodref 39 40), (0, .class_ 41), (0, .nameAndType 42 43), (0, u "com/example/uketsuke/uketsuke/store/IdFormatFormatPinLaw"), (0, u "digitAt"), (0, u "(Ljava/lang/String;IJJ)Z"), (0, .long 100000000), (1, .long 10000000), (1, .long 1000000), (1, .long 100000), (1, .long 10000), (1, .long 1000), (1, .long 100), (1, .long 10), (3, u "law"), (0, u "(IJ)Z")] 3

def k1m0 : Method := { name := "<init>", desc := "()V", sig := { parameters := [], returnType := none }, accessFlags := 1, code := none }
def k1c1 : Code := { maxStack := 6, maxLocals := 9, code := code, exceptionTable := #[], attributes := #[] }
def k1m1 : Method := { name := "law", desc := "(IJ)Z", sig := { parameters := [.int, .long], returnType := some .boolean }, accessFlags := 9, code := some k1c1 }
def k1c2 : Code := { maxStack := 4, maxLocals := 7, code := method_3_code, exceptionTable := #[], attributes := #[] }
def k1m2 : Method := { name := "digitAt", desc := "(Ljava/lang/String;IJJ)Z", sig := { parameters := [(.object "java/lang/String"), .int, .long, .long], returnType := some .boolean }, accessFlags := 10, code := some k1c2 }
/-- com/example/uketsuke/uketsuke/store/IdFormatFormatPinLaw -/
def k1 : Class := { plain "com/example/uketsuke/uketsuke/store/IdFormatFormatPinLaw" (some 0) with
  accessFlags := 49
  interfaces := #[]
  cf := some (fileOf pool1 39 #[] #[{ accessFlags := 1, nameIndex := 5, descriptorIndex := 6, attributes := #[] }, { accessFlags := 9, nameIndex := 62, descriptorIndex := 63, attributes := #[] }, { accessFlags := 10, nameIndex := 42, descriptorIndex := 43, attributes := #[] }] 49 2 #[] #[])
  fields := #[]
  methods := #[k1m0, k1m1, k1m2]
  instanceTypes := #[]
  staticTypes := #[]
  resolved := Array.replicate 67 none
  statics := none }

def pool2 : Array CpInfo := pool [(1, .class_ 2), (0, u "java/lang/constant/Constable"), (0, .class_ 4), (0, u "java/lang/Object")] 6

/-- java/lang/constant/Constable -/
def k2 : Class := { plain "java/lang/constant/Constable" (some 0) with
  accessFlags := 1537
  interfaces := #[]
  cf := some (fileOf pool2 1 #[] #[] 1537 3 #[] #[])
  fields := #[]
  methods := #[]
  instanceTypes := #[]
  staticTypes := #[]
  resolved := Array.replicate 11 none
  statics := none }

def pool3 : Array CpInfo := pool [(1, .class_ 2), (0, u "java/lang/Comparable"), (0, .class_ 4), (0, u "java/lang/Object")] 7

/-- java/lang/Comparable -/
def k3 : Class := { plain "java/lang/Comparable" (some 0) with
  accessFlags := 1537
  interfaces := #[]
  cf := some (fileOf pool3 1 #[] #[] 1537 3 #[] #[])
  fields := #[]
  methods := #[]
  instanceTypes := #[]
  staticTypes := #[]
  resolved := Array.replicate 12 none
  statics := none }

def pool4 : Array CpInfo := pool [(1, .class_ 2), (0, u "java/io/Serializable"), (0, .class_ 4), (0, u "java/lang/Object")] 2

/-- java/io/Serializable -/
def k4 : Class := { plain "java/io/Serializable" (some 0) with
  accessFlags := 1537
  interfaces := #[]
  cf := some (fileOf pool4 1 #[] #[] 1537 3 #[] #[])
  fields := #[]
  methods := #[]
  instanceTypes := #[]
  staticTypes := #[]
  resolved := Array.replicate 7 none
  statics := none }

def pool5 : Array CpInfo := pool [(2, .class_ 4), (1, u "java/lang/Enum"), (0, u "name"), (0, u "Ljava/lang/String;"), (2, u "ordinal"), (0, u "I"), (1, .class_ 14), (1, u "java/lang/Object"), (4, u "hash"), (86, .class_ 108), (1, u "java/lang/Enum$EnumDesc"), (2, .class_ 112), (0, u "java/lang/constant/Constable"), (0, .class_ 114), (0, u "java/lang/Comparable"), (0, .class_ 116), (0, u "java/io/Serializable")] 87

/-- java/lang/Enum -/
def k5 : Class := { plain "java/lang/Enum" (some 0) with
  accessFlags := 1057
  interfaces := #[2, 3, 4]
  cf := some (fileOf pool5 2 #[.nestMembers #[106]] #[] 1057 12 #[111, 113, 115] #[{ accessFlags := 18, nameIndex := 5, descriptorIndex := 6, attributes := #[] }, { accessFlags := 18, nameIndex := 9, descriptorIndex := 10, attributes := #[] }, { accessFlags := 2, nameIndex := 19, descriptorIndex := 10, attributes := #[] }])
  fields := #[{ name := "name", type := (.object "java/lang/String"), accessFlags := 18, slot := 0, constantValue := 0 }, { name := "ordinal", type := .int, accessFlags := 18, slot := 1, constantValue := 0 }, { name := "hash", type := .int, accessFlags := 2, slot := 2, constantValue := 0 }]
  methods := #[]
  instanceTypes := #[(.object "java/lang/String"), .int, .int]
  staticTypes := #[]
  resolved := Array.replicate 204 none
  statics := none }

def pool6 : Array CpInfo := pool [(1, .class_ 2), (0, u "com/example/uketsuke/uketsuke/store/IdFormat"), (2, u "BATCH"), (0, u "Lcom/example/uketsuke/uketsuke/store/IdFormat;"), (2, u "JOB"), (2, u "$VALUES"), (0, u "[Lcom/example/uketsuke/uketsuke/store/IdFormat;"), (6, .class_ 22), (1, u "java/lang/Enum"), (4, u "<init>"), (1, .fieldref 1 30), (0, .nameAndType 31 32), (0, u "prefix"), (0, u "Ljava/lang/String;"), (2, u "noun"), (3, u "()Ljava/lang/String;"), (8, u "pattern"), (0, u "Ljava/util/regex/Pattern;"), (0, .long 9999999999), (14, .class_ 67), (1, u "java/lang/Long"), (2, .class_ 72), (1, u "java/lang/String"), (0, u "format"), (4, .class_ 79), (0, u "java/lang/StringBuilder"), (0, .methodref 78 81), (0, .nameAndType 27 82), (0, u "()V"), (0, .methodref 78 84), (0, .nameAndType 85 86), (0, u "append"), (0, u "(Ljava/lang/String;)Ljava/lang/StringBuilder;"), (0, .methodref 1 88), (0, .nameAndType 89 90), (0, u "digits"), (0, u "(JI)Ljava/lang/String;"), (0, .methodref 78 92), (0, .nameAndType 93 39), (0, u "toString"), (0, .methodref 65 95), (0, .nameAndType 93 96), (0, u "(J)Ljava/lang/String;"), (0, .string 98), (0, u "0"), (0, .methodref 70 100), (0, .nameAndType 101 102), (0, u "length"), (0, u "()I"), (0, .methodref 104 105), (0, .class_ 106), (0, .nameAndType 107 108), (0, u "java/lang/Math"), (0, u "max"), (0, u "(II)I"), (0, .methodref 70 110), (0, .nameAndType 111 112), (0, u "repeat"), (0, u "(I)Ljava/lang/String;"), (41, u "LARGEST_NUMBER"), (0, u "J"), (1, u "DIGITS"), (0, u "I")] 14

def k6c0 : Code := { maxStack := 9, maxLocals := 3, code := prog_10_method_4_code, exceptionTable := #[], attributes := #[] }
def k6m0 : Method := { name := "format", desc := "(J)Ljava/lang/String;", sig := { parameters := [.long], returnType := some (.object "java/lang/String") }, accessFlags := 1, code := some k6c0 }
def k6c1 : Code := { maxStack := 5, maxLocals := 4, code := prog_10_method_5_code, exceptionTable := #[], attributes := #[] }
def k6m1 : Method := { name := "digits", desc := "(JI)Ljava/lang/String;", sig := { parameters := [.long, .int], returnType := some (.object "java/lang/String") }, accessFlags := 9, code := some k6c1 }
/-- com/example/uketsuke/uketsuke/store/IdFormat -/
def k6 : Class := { plain "com/example/uketsuke/uketsuke/store/IdFormat" (some 5) with
  accessFlags := 16433
  interfaces := #[]
  cf := some (fileOf pool6 1 #[] #[{ accessFlags := 1, nameIndex := 73, descriptorIndex := 96, attributes := #[] }, { accessFlags := 9, nameIndex := 89, descriptorIndex := 90, attributes := #[] }] 16433 20 #[] #[{ accessFlags := 16409, nameIndex := 5, descriptorIndex := 6, attributes := #[] }, { accessFlags := 16409, nameIndex := 9, descriptorIndex := 6, attributes := #[] }, { accessFlags := 25, nameIndex := 154, descriptorIndex := 155, attributes := #[] }, { accessFlags := 26, nameIndex := 157, descriptorIndex := 158, attributes := #[] }, { accessFlags := 18, nameIndex := 31, descriptorIndex := 32, attributes := #[] }, { accessFlags := 18, nameIndex := 35, descriptorIndex := 32, attributes := #[] }, { accessFlags := 18, nameIndex := 48, descriptorIndex := 49, attributes := #[] }, { accessFlags := 4122, nameIndex := 12, descriptorIndex := 13, attributes := #[] }])
  fields := #[{ name := "BATCH", type := (.object "com/example/uketsuke/uketsuke/store/IdFormat"), accessFlags := 16409, slot := 0, constantValue := 0 }, { name := "JOB", type := (.object "com/example/uketsuke/uketsuke/store/IdFormat"), accessFlags := 16409, slot := 1, constantValue := 0 }, { name := "LARGEST_NUMBER", type := .long, accessFlags := 25, slot := 2, constantValue := 0 }, { name := "DIGITS", type := .int, accessFlags := 26, slot := 3, constantValue := 0 }, { name := "prefix", type := (.object "java/lang/String"), accessFlags := 18, slot := 3, constantValue := 0 }, { name := "noun", type := (.object "java/lang/String"), accessFlags := 18, slot := 4, constantValue := 0 }, { name := "pattern", type := (.object "java/util/regex/Pattern"), accessFlags := 18, slot := 5, constantValue := 0 }, { name := "$VALUES", type := (.array (.object "com/example/uketsuke/uketsuke/store/IdFormat")), accessFlags := 4122, slot := 4, constantValue := 0 }]
  methods := #[k6m0, k6m1]
  instanceTypes := #[(.object "java/lang/String"), .int, .int, (.object "java/lang/String"), (.object "java/lang/String"), (.object "java/util/regex/Pattern")]
  staticTypes := #[(.object "com/example/uketsuke/uketsuke/store/IdFormat"), (.object "com/example/uketsuke/uketsuke/store/IdFormat"), .long, .int, (.array (.object "com/example/uketsuke/uketsuke/store/IdFormat"))]
  resolved := Array.replicate 173 none
  statics := some 0 }

def pool7 : Array CpInfo := pool [(1, .class_ 2), (0, u "java/lang/Appendable"), (0, .class_ 4), (0, u "java/lang/Object")] 9

/-- java/lang/Appendable -/
def k7 : Class := { plain "java/lang/Appendable" (some 0) with
  accessFlags := 1537
  interfaces := #[]
  cf := some (fileOf pool7 1 #[] #[] 1537 3 #[] #[])
  fields := #[]
  methods := #[]
  instanceTypes := #[]
  staticTypes := #[]
  resolved := Array.replicate 14 none
  statics := none }

def pool8 : Array CpInfo := pool [(2, .class_ 4), (1, u "java/lang/CharSequence"), (42, .class_ 48), (0, u "java/lang/CharSequence$1CodePointIterator"), (10, .class_ 60), (0, u "java/lang/CharSequence$1CharIterator"), (5, .class_ 67), (0, u "java/lang/Object")] 63

/-- java/lang/CharSequence -/
def k8 : Class := { plain "java/lang/CharSequence" (some 0) with
  accessFlags := 1537
  interfaces := #[]
  cf := some (fileOf pool8 2 #[.nestMembers #[47, 59]] #[] 1537 66 #[] #[])
  fields := #[]
  methods := #[]
  instanceTypes := #[]
  staticTypes := #[]
  resolved := Array.replicate 131 none
  statics := none }

def pool9 : Array CpInfo := pool [(1, .class_ 2), (0, u "java/lang/String"), (0, .methodref 4 5), (0, .class_ 6), (0, .nameAndType 7 8), (0, u "java/lang/Object"), (0, u "<init>"), (0, u "()V"), (1, .class_ 12), (1, u "java/lang/AbstractStringBuilder"), (0, u "EMPTYVALUE"), (0, u "[B"), (0, .fieldref 10 16), (0, .nameAndType 17 14), (0, u "value"), (0, .fieldref 1 19), (0, .nameAndType 20 21), (0, u "COMPACT_STRINGS"), (0, u "Z"), (0, .fieldref 10 23), (0, .nameAndType 24 25), (0, u "coder"), (0, u "B"), (6, .methodref 1 33), (0, .nameAndType 34 35), (0, u "length"), (0, u "()I"), (4, .methodref 1 41), (0, .nameAndType 24 42), (0, u "()B"), (2, u "append"), (0, u "(Ljava/lang/String;)Ljava/lang/AbstractStringBuilder;"), (1, .class_ 49), (0, u "java/lang/CharSequence"), (19, u "(Ljava/lang/String;)V"), (5, u "maybeLatin1"), (3, .fieldref 10 80), (0, .nameAndType 81 82), (0, u "count"), (0, u "I"), (2, u "isLatin1"), (0, u "()Z"), (13, .methodref 10 101), (0, .nameAndType 102 103), (0, u "ensureCapacityInternal"), (0, u "(I)V"), (104, .methodref 10 209), (0, .nameAndType 210 211), (0, u "putStringAt"), (0, u "(ILjava/lang/String;)V"), (5, u "inflateIfNeededFor"), (2, .nameAndType 221 222), (0, u "getBytes"), (0, u "([BIB)V"), (174, .methodref 10 398), (0, .nameAndType 217 69), (0, .methodref 1 220), (3, u "()[B"), (40, .class_ 445), (0, u "java/lang/Appendable"), (106, u "getValue")] 56

def k9m0 : Method := { name := "<init>", desc := "()V", sig := { parameters := [], returnType := none }, accessFlags := 0, code := none }
def k9c1 : Code := { maxStack := 2, maxLocals := 2, code := jdk_68_method_2_code, exceptionTable := #[], attributes := #[] }
def k9m1 : Method := { name := "<init>", desc := "(I)V", sig := { parameters := [.int], returnType := none }, accessFlags := 0, code := some k9c1 }
def k9c2 : Code := { maxStack := 1, maxLocals := 1, code := jdk_68_method_6_code, exceptionTable := #[], attributes := #[] }
def k9m2 : Method := { name := "length", desc := "()I", sig := { parameters := [], returnType := some .int }, accessFlags := 1, code := some k9c2 }
def k9c3 : Code := { maxStack := 4, maxLocals := 3, code := jdk_68_method_9_code, exceptionTable := #[], attributes := #[] }
def k9m3 : Method := { name := "ensureCapacityInternal", desc := "(I)V", sig := { parameters := [.int], returnType := none }, accessFlags := 2, code := some k9c3 }
def k9c4 : Code := { maxStack := 3, maxLocals := 3, code := jdk_68_method_22_code, exceptionTable := #[], attributes := #[] }
def k9m4 : Method := { name := "append", desc := "(Ljava/lang/String;)Ljava/lang/AbstractStringBuilder;", sig := { parameters := [(.object "java/lang/String")], returnType := some (.object "java/lang/AbstractStringBuilder") }, accessFlags := 1, code := some k9c4 }
def k9c5 : Code := { maxStack := 1, maxLocals := 1, code := jdk_68_method_64_code, exceptionTable := #[], attributes := #[] }
def k9m5 : Method := { name := "getValue", desc := "()[B", sig := { parameters := [], returnType := some (.array .byte) }, accessFlags := 16, code := some k9c5 }
def k9c6 : Code := { maxStack := 1, maxLocals := 1, code := jdk_68_method_68_code, exceptionTable := #[], attributes := #[] }
def k9m6 : Method := { name := "isLatin1", desc := "()Z", sig := { parameters := [], returnType := some .boolean }, accessFlags := 16, code := some k9c6 }
def k9c7 : Code := { maxStack := 2, maxLocals := 2, code := jdk_68_method_71_code, exceptionTable := #[], attributes := #[] }
def k9m7 : Method := { name := "inflateIfNeededFor", desc := "(Ljava/lang/String;)V", sig := { parameters := [(.object "java/lang/String")], returnType := none }, accessFlags := 2, code := some k9c7 }
def k9c8 : Code := { maxStack := 4, maxLocals := 3, code := jdk_68_method_73_code, exceptionTable := #[], attributes := #[] }
def k9m8 : Method := { name := "putStringAt", desc := "(ILjava/lang/String;)V", sig := { parameters := [.int, (.object "java/lang/String")], returnType := none }, accessFlags := 2, code := some k9c8 }
/-- java/lang/AbstractStringBuilder -/
def k9 : Class := { plain "java/lang/AbstractStringBuilder" (some 0) with
  accessFlags := 1056
  interfaces := #[7, 8]
  cf := some (fileOf pool9 10 #[] #[{ accessFlags := 0, nameIndex := 7, descriptorIndex := 8, attributes := #[] }, { accessFlags := 0, nameIndex := 7, descriptorIndex := 103, attributes := #[] }, { accessFlags := 1, nameIndex := 34, descriptorIndex := 35, attributes := #[] }, { accessFlags := 2, nameIndex := 102, descriptorIndex := 103, attributes := #[] }, { accessFlags := 1, nameIndex := 45, descriptorIndex := 46, attributes := #[] }, { accessFlags := 16, nameIndex := 552, descriptorIndex := 403, attributes := #[] }, { accessFlags := 16, nameIndex := 85, descriptorIndex := 86, attributes := #[] }, { accessFlags := 2, nameIndex := 217, descriptorIndex := 69, attributes := #[] }, { accessFlags := 2, nameIndex := 210, descriptorIndex := 211, attributes := #[] }] 1056 4 #[444, 48] #[{ accessFlags := 0, nameIndex := 17, descriptorIndex := 14, attributes := #[] }, { accessFlags := 0, nameIndex := 24, descriptorIndex := 25, attributes := #[] }, { accessFlags := 0, nameIndex := 75, descriptorIndex := 21, attributes := #[] }, { accessFlags := 0, nameIndex := 81, descriptorIndex := 82, attributes := #[] }, { accessFlags := 26, nameIndex := 13, descriptorIndex := 14, attributes := #[] }])
  fields := #[{ name := "value", type := (.array .byte), accessFlags := 0, slot := 0, constantValue := 0 }, { name := "coder", type := .byte, accessFlags := 0, slot := 1, constantValue := 0 }, { name := "maybeLatin1", type := .boolean, accessFlags := 0, slot := 2, constantValue := 0 }, { name := "count", type := .int, accessFlags := 0, slot := 3, constantValue := 0 }, { name := "EMPTYVALUE", type := (.array .byte), accessFlags := 26, slot := 0, constantValue := 0 }]
  methods := #[k9m0, k9m1, k9m2, k9m3, k9m4, k9m5, k9m6, k9m7, k9m8]
  instanceTypes := #[(.array .byte), .byte, .boolean, .int]
  staticTypes := #[(.array .byte)]
  resolved := Array.replicate 609 none
  statics := none }

def pool10 : Array CpInfo := pool [(1, .methodref 2 3), (0, .class_ 4), (0, .nameAndType 5 6), (0, u "java/lang/AbstractStringBuilder"), (0, u "<init>"), (0, u "(I)V"), (11, .class_ 20), (1, u "java/lang/String"), (3, .class_ 26), (1, u "java/lang/StringBuilder"), (0, u "append"), (0, u "(Ljava/lang/String;)Ljava/lang/StringBuilder;"), (0, .methodref 2 30), (0, .nameAndType 27 31), (0, u "(Ljava/lang/String;)Ljava/lang/AbstractStringBuilder;"), (105, .methodref 18 138), (0, .nameAndType 5 139), (0, u "(Ljava/lang/StringBuilder;)V"), (5, u "()V"), (10, u "()I"), (186, .methodref 2 344), (0, .nameAndType 345 156), (0, u "length"), (3, .class_ 350), (0, u "java/lang/Appendable"), (0, .class_ 352), (0, u "java/io/Serializable"), (0, .class_ 354), (0, u "java/lang/Comparable"), (0, .class_ 356), (0, u "java/lang/CharSequence"), (0, u "serialVersionUID"), (0, u "J"), (40, u "toString"), (0, u "()Ljava/lang/String;")] 21

def k10c0 : Code := { maxStack := 2, maxLocals := 1, code := jdk_67_method_1_code, exceptionTable := #[], attributes := #[] }
def k10m0 : Method := { name := "<init>", desc := "()V", sig := { parameters := [], returnType := none }, accessFlags := 1, code := some k10c0 }
def k10c1 : Code := { maxStack := 2, maxLocals := 2, code := jdk_67_method_7_code, exceptionTable := #[], attributes := #[] }
def k10m1 : Method := { name := "append", desc := "(Ljava/lang/String;)Ljava/lang/StringBuilder;", sig := { parameters := [(.object "java/lang/String")], returnType := some (.object "java/lang/StringBuilder") }, accessFlags := 1, code := some k10c1 }
def k10c2 : Code := { maxStack := 3, maxLocals := 1, code := jdk_67_method_42_code, exceptionTable := #[], attributes := #[] }
def k10m2 : Method := { name := "toString", desc := "()Ljava/lang/String;", sig := { parameters := [], returnType := some (.object "java/lang/String") }, accessFlags := 1, code := some k10c2 }
def k10c3 : Code := { maxStack := 1, maxLocals := 1, code := jdk_67_method_93_code, exceptionTable := #[], attributes := #[] }
def k10m3 : Method := { name := "length", desc := "()I", sig := { parameters := [], returnType := some .int }, accessFlags := 4161, code := some k10c3 }
/-- java/lang/StringBuilder -/
def k10 : Class := { plain "java/lang/StringBuilder" (some 9) with
  accessFlags := 49
  interfaces := #[7, 4, 3, 8]
  cf := some (fileOf pool10 24 #[] #[{ accessFlags := 1, nameIndex := 5, descriptorIndex := 145, attributes := #[] }, { accessFlags := 1, nameIndex := 27, descriptorIndex := 28, attributes := #[] }, { accessFlags := 1, nameIndex := 399, descriptorIndex := 400, attributes := #[] }, { accessFlags := 4161, nameIndex := 345, descriptorIndex := 156, attributes := #[] }] 49 2 #[349, 351, 353, 355] #[{ accessFlags := 24, nameIndex := 357, descriptorIndex := 358, attributes := #[] }])
  fields := #[{ name := "serialVersionUID", type := .long, accessFlags := 24, slot := 0, constantValue := 0 }]
  methods := #[k10m0, k10m1, k10m2, k10m3]
  instanceTypes := #[(.array .byte), .byte, .boolean, .int]
  staticTypes := #[.long]
  resolved := Array.replicate 422 none
  statics := none }

def pool11 : Array CpInfo := pool [(1, .class_ 2), (0, u "java/lang/constant/ConstantDesc"), (0, .class_ 4), (0, u "java/lang/Object")] 32

/-- java/lang/constant/ConstantDesc -/
def k11 : Class := { plain "java/lang/constant/ConstantDesc" (some 0) with
  accessFlags := 1537
  interfaces := #[]
  cf := some (fileOf pool11 1 #[] #[] 1537 3 #[] #[])
  fields := #[]
  methods := #[]
  instanceTypes := #[]
  staticTypes := #[]
  resolved := Array.replicate 37 none
  statics := none }

def pool12 : Array CpInfo := pool [(1, .methodref 2 3), (0, .class_ 4), (0, .nameAndType 5 6), (0, u "java/lang/Object"), (0, u "<init>"), (0, u "()V"), (0, .string 8), (0, u ""), (0, .fieldref 10 11), (0, .class_ 12), (0, .nameAndType 13 14), (0, u "java/lang/String"), (0, u "value"), (0, u "[B"), (0, .fieldref 10 16), (0, .nameAndType 17 18), (0, u "coder"), (0, u "B"), (2, u "hash"), (0, u "I"), (2, u "hashIsZero"), (0, u "Z"), (11, .fieldref 10 39), (0, .nameAndType 40 26), (0, u "COMPACT_STRINGS"), (13, .methodref 55 56), (0, .class_ 57), (0, .nameAndType 58 59), (0, u "java/util/Arrays"), (0, u "copyOfRange"), (0, u "([BII)[B"), (47, .class_ 109), (1, u "java/lang/StringLatin1"), (32, u "()Z"), (50, .class_ 195), (1, u "java/lang/System"), (13, .methodref 10 210), (0, .nameAndType 5 211), (0, u "([BB)V"), (0, .methodref 193 213), (0, .nameAndType 214 215), (0, u "arraycopy"), (0, u "(Ljava/lang/Object;ILjava/lang/Object;II)V"), (118, u "()I"), (0, .methodref 10 336), (0, .nameAndType 17 337), (0, u "()B"), (2, u "()[B"), (22, u "([BI)C"), (27, u "(II)V"), (35, u "(I)C"), (61, .methodref 10 490), (0, .nameAndType 5 491), (0, u "(Ljava/lang/AbstractStringBuilder;Ljava/lang/Void;)V"), (0, .methodref 10 493), (0, .nameAndType 494 142), (0, u "isLatin1"), (0, .methodref 107 496), (0, .nameAndType 497 363), (0, u "charAt"), (3, u "checkIndex"), (4, .nameAndType 507 334), (0, u "length"), (24, u "getBytes"), (16, .methodref 550 506), (0, .class_ 551), (0, u "java/lang/AbstractStringBuilder"), (0, .methodref 550 553), (0, .nameAndType 554 340), (0, u "getValue"), (20, .class_ 576), (0, u "java/lang/CharSequence"), (22, u "CASE_INSENSITIVE_ORDER"), (0, u "Ljava/util/Comparator;"), (220, u "([BIB)V"), (69, u "repeat"), (0, u "(I)Ljava/lang/String;"), (50, .integer 2147483647), (97, .methodref 55 1042), (0, .nameAndType 1043 211), (0, u "fill"), (3, .methodref 550 493), (5, .fieldref 1054 1055), (0, .class_ 1056), (0, .nameAndType 1057 1058), (0, u "jdk/internal/util/Preconditions"), (0, u "SIOOBE_FORMATTER"), (0, u "Ljava/util/function/BiFunction;"), (0, .methodref 1054 1060), (0, .nameAndType 501 1061), (0, u "(IILjava/util/function/BiFunction;)I"), (39, u "serialPersistentFields"), (0, u "[Ljava/io/ObjectStreamField;"), (0, .class_ 1104), (0, u "java/lang/String$CaseInsensitiveComparator"), (1, .class_ 1107), (0, u "java/io/Serializable"), (0, .class_ 1109), (0, u "java/lang/Comparable"), (0, .class_ 1111), (0, u "java/lang/constant/Constable"), (0, .class_ 1113), (0, u "java/lang/constant/ConstantDesc"), (2, u "serialVersionUID"), (0, u "J"), (3, u "REPL"), (0, u "C"), (2, u "LATIN1"), (1, u "UTF16"), (105, u "(Ljava/lang/StringBuilder;)V")] 217

def k12m0 : Method := { name := "<init>", desc := "()V", sig := { parameters := [], returnType := none }, accessFlags := 1, code := none }
def k12c1 : Code := { maxStack := 3, maxLocals := 2, code := jdk_42_method_53_code, exceptionTable := #[], attributes := #[] }
def k12m1 : Method := { name := "<init>", desc := "(Ljava/lang/StringBuilder;)V", sig := { parameters := [(.object "java/lang/StringBuilder")], returnType := none }, accessFlags := 1, code := some k12c1 }
def k12c2 : Code := { maxStack := 2, maxLocals := 1, code := jdk_42_method_54_code, exceptionTable := #[], attributes := #[] }
def k12m2 : Method := { name := "length", desc := "()I", sig := { parameters := [], returnType := some .int }, accessFlags := 1, code := some k12c2 }
def k12c3 : Code := { maxStack := 2, maxLocals := 2, code := jdk_42_method_56_code, exceptionTable := #[], attributes := #[] }
def k12m3 : Method := { name := "charAt", desc := "(I)C", sig := { parameters := [.int], returnType := some .char }, accessFlags := 1, code := some k12c3 }
def k12c4 : Code := { maxStack := 5, maxLocals := 5, code := jdk_42_method_145_code, exceptionTable := #[], attributes := #[] }
def k12m4 : Method := { name := "repeat", desc := "(I)Ljava/lang/String;", sig := { parameters := [.int], returnType := some (.object "java/lang/String") }, accessFlags := 1, code := some k12c4 }
def k12c5 : Code := { maxStack := 5, maxLocals := 4, code := jdk_42_method_147_code, exceptionTable := #[], attributes := #[] }
def k12m5 : Method := { name := "getBytes", desc := "([BIB)V", sig := { parameters := [(.array .byte), .int, .byte], returnType := none }, accessFlags := 0, code := some k12c5 }
def k12c6 : Code := { maxStack := 5, maxLocals := 5, code := jdk_42_method_150_code, exceptionTable := #[], attributes := #[] }
def k12m6 : Method := { name := "<init>", desc := "(Ljava/lang/AbstractStringBuilder;Ljava/lang/Void;)V", sig := { parameters := [(.object "java/lang/AbstractStringBuilder"), (.object "java/lang/Void")], returnType := none }, accessFlags := 0, code := some k12c6 }
def k12c7 : Code := { maxStack := 2, maxLocals := 3, code := jdk_42_method_151_code, exceptionTable := #[], attributes := #[] }
def k12m7 : Method := { name := "<init>", desc := "([BB)V", sig := { parameters := [(.array .byte), .byte], returnType := none }, accessFlags := 0, code := some k12c7 }
def k12c8 : Code := { maxStack := 1, maxLocals := 1, code := jdk_42_method_152_code, exceptionTable := #[], attributes := #[] }
def k12m8 : Method := { name := "coder", desc := "()B", sig := { parameters := [], returnType := some .byte }, accessFlags := 0, code := some k12c8 }
def k12c9 : Code := { maxStack := 1, maxLocals := 1, code := jdk_42_method_154_code, exceptionTable := #[], attributes := #[] }
def k12m9 : Method := { name := "isLatin1", desc := "()Z", sig := { parameters := [], returnType := some .boolean }, accessFlags := 0, code := some k12c9 }
def k12c10 : Code := { maxStack := 3, maxLocals := 2, code := jdk_42_method_155_code, exceptionTable := #[], attributes := #[] }
def k12m10 : Method := { name := "checkIndex", desc := "(II)V", sig := { parameters := [.int, .int], returnType := none }, accessFlags := 8, code := some k12c10 }
/-- java/lang/String -/
def k12 : Class := { plain "java/lang/String" (some 0) with
  accessFlags := 49
  interfaces := #[4, 3, 8, 2, 11]
  cf := some (fileOf pool12 10 #[.nestMembers #[1103]] #[{ accessFlags := 1, nameIndex := 5, descriptorIndex := 6, attributes := #[] }, { accessFlags := 1, nameIndex := 5, descriptorIndex := 1233, attributes := #[] }, { accessFlags := 1, nameIndex := 507, descriptorIndex := 334, attributes := #[] }, { accessFlags := 1, nameIndex := 497, descriptorIndex := 427, attributes := #[] }, { accessFlags := 1, nameIndex := 891, descriptorIndex := 892, attributes := #[] }, { accessFlags := 0, nameIndex := 532, descriptorIndex := 821, attributes := #[] }, { accessFlags := 0, nameIndex := 5, descriptorIndex := 491, attributes := #[] }, { accessFlags := 0, nameIndex := 5, descriptorIndex := 211, attributes := #[] }, { accessFlags := 0, nameIndex := 17, descriptorIndex := 337, attributes := #[] }, { accessFlags := 0, nameIndex := 494, descriptorIndex := 142, attributes := #[] }, { accessFlags := 8, nameIndex := 501, descriptorIndex := 391, attributes := #[] }] 49 2 #[1106, 1108, 575, 1110, 1112] #[{ accessFlags := 18, nameIndex := 13, descriptorIndex := 14, attributes := #[] }, { accessFlags := 18, nameIndex := 17, descriptorIndex := 18, attributes := #[] }, { accessFlags := 2, nameIndex := 21, descriptorIndex := 22, attributes := #[] }, { accessFlags := 2, nameIndex := 25, descriptorIndex := 26, attributes := #[] }, { accessFlags := 26, nameIndex := 1116, descriptorIndex := 1117, attributes := #[] }, { accessFlags := 24, nameIndex := 40, descriptorIndex := 26, attributes := #[] }, { accessFlags := 26, nameIndex := 1101, descriptorIndex := 1102, attributes := #[] }, { accessFlags := 26, nameIndex := 1121, descriptorIndex := 1122, attributes := #[] }, { accessFlags := 25, nameIndex := 599, descriptorIndex := 600, attributes := #[] }, { accessFlags := 24, nameIndex := 1125, descriptorIndex := 18, attributes := #[] }, { accessFlags := 24, nameIndex := 1127, descriptorIndex := 18, attributes := #[] }])
  fields := #[{ name := "value", type := (.array .byte), accessFlags := 18, slot := 0, constantValue := 0 }, { name := "coder", type := .byte, accessFlags := 18, slot := 1, constantValue := 0 }, { name := "hash", type := .int, accessFlags := 2, slot := 2, constantValue := 0 }, { name := "hashIsZero", type := .boolean, accessFlags := 2, slot := 3, constantValue := 0 }, { name := "serialVersionUID", type := .long, accessFlags := 26, slot := 0, constantValue := 0 }, { name := "COMPACT_STRINGS", type := .boolean, accessFlags := 24, slot := 1, constantValue := 0 }, { name := "serialPersistentFields", type := (.array (.object "java/io/ObjectStreamField")), accessFlags := 26, slot := 2, constantValue := 0 }, { name := "REPL", type := .char, accessFlags := 26, slot := 3, constantValue := 0 }, { name := "CASE_INSENSITIVE_ORDER", type := (.object "java/util/Comparator"), accessFlags := 25, slot := 4, constantValue := 0 }, { name := "LATIN1", type := .byte, accessFlags := 24, slot := 5, constantValue := 0 }, { name := "UTF16", type := .byte, accessFlags := 24, slot := 6, constantValue := 0 }]
  methods := #[k12m0, k12m1, k12m2, k12m3, k12m4, k12m5, k12m6, k12m7, k12m8, k12m9, k12m10]
  instanceTypes := #[(.array .byte), .byte, .int, .boolean]
  staticTypes := #[.long, .boolean, (.array (.object "java/io/ObjectStreamField")), .char, (.object "java/util/Comparator"), .byte, .byte]
  resolved := Array.replicate 1451 none
  statics := some 1 }

def pool13 : Array CpInfo := pool [(2, .class_ 4), (1, u "java/lang/Object"), (0, u "<init>"), (0, u "()V"), (1, .class_ 10), (1, u "java/lang/System"), (0, u "allowSecurityManager"), (0, u "I"), (16, u "cons"), (0, u "Ljava/io/Console;"), (77, .class_ 110), (1, u "java/lang/System$CallersHolder"), (43, u "initialErrStream"), (0, u "Ljava/io/PrintStream;"), (19, u "security"), (0, u "Ljava/lang/SecurityManager;"), (31, .class_ 209), (0, u "java/lang/System$1"), (7, u "props"), (0, u "Ljava/util/Properties;"), (2, u "lineSeparator"), (0, u "Ljava/lang/String;"), (96, .class_ 321), (1, u "java/lang/System$LoggerFinder"), (5, .class_ 328), (0, u "java/lang/System$Logger"), (67, u "err"), (2, u "out"), (91, u "notSupportedJnuEncoding"), (15, u "in"), (17, u "initialIn"), (0, u "Ljava/io/InputStream;"), (35, u "bootLayer"), (0, u "Ljava/lang/ModuleLayer;"), (99, .class_ 664), (0, u "java/lang/System$2"), (9, u "NEVER"), (2, u "MAYBE"), (49, u "arraycopy"), (0, u "(Ljava/lang/Object;ILjava/lang/Object;II)V"), (72, .class_ 802), (0, u "java/lang/System$Logger$Level")] 31

def k13m0 : Method := { name := "<init>", desc := "()V", sig := { parameters := [], returnType := none }, accessFlags := 2, code := none }
def k13m1 : Method := { name := "arraycopy", desc := "(Ljava/lang/Object;ILjava/lang/Object;II)V", sig := { parameters := [(.object "java/lang/Object"), .int, (.object "java/lang/Object"), .int, .int], returnType := none }, accessFlags := 265, code := none }
/-- java/lang/System -/
def k13 : Class := { plain "java/lang/System" (some 0) with
  accessFlags := 49
  interfaces := #[]
  cf := some (fileOf pool13 8 #[.nestMembers #[319, 327, 801, 108, 663, 208]] #[{ accessFlags := 2, nameIndex := 5, descriptorIndex := 6, attributes := #[] }, { accessFlags := 265, nameIndex := 727, descriptorIndex := 728, attributes := #[] }] 49 2 #[] #[{ accessFlags := 25, nameIndex := 507, descriptorIndex := 526, attributes := #[] }, { accessFlags := 25, nameIndex := 399, descriptorIndex := 155, attributes := #[] }, { accessFlags := 25, nameIndex := 396, descriptorIndex := 155, attributes := #[] }, { accessFlags := 10, nameIndex := 525, descriptorIndex := 526, attributes := #[] }, { accessFlags := 26, nameIndex := 674, descriptorIndex := 12, attributes := #[] }, { accessFlags := 26, nameIndex := 677, descriptorIndex := 12, attributes := #[] }, { accessFlags := 10, nameIndex := 11, descriptorIndex := 12, attributes := #[] }, { accessFlags := 74, nameIndex := 175, descriptorIndex := 176, attributes := #[] }, { accessFlags := 10, nameIndex := 491, descriptorIndex := 222, attributes := #[] }, { accessFlags := 74, nameIndex := 29, descriptorIndex := 30, attributes := #[] }, { accessFlags := 74, nameIndex := 154, descriptorIndex := 155, attributes := #[] }, { accessFlags := 10, nameIndex := 217, descriptorIndex := 218, attributes := #[] }, { accessFlags := 10, nameIndex := 221, descriptorIndex := 222, attributes := #[] }, { accessFlags := 8, nameIndex := 562, descriptorIndex := 563, attributes := #[] }])
  fields := #[{ name := "in", type := (.object "java/io/InputStream"), accessFlags := 25, slot := 0, constantValue := 0 }, { name := "out", type := (.object "java/io/PrintStream"), accessFlags := 25, slot := 1, constantValue := 0 }, { name := "err", type := (.object "java/io/PrintStream"), accessFlags := 25, slot := 2, constantValue := 0 }, { name := "initialIn", type := (.object "java/io/InputStream"), accessFlags := 10, slot := 3, constantValue := 0 }, { name := "NEVER", type := .int, accessFlags := 26, slot := 4, constantValue := 0 }, { name := "MAYBE", type := .int, accessFlags := 26, slot := 5, constantValue := 0 }, { name := "allowSecurityManager", type := .int, accessFlags := 10, slot := 6, constantValue := 0 }, { name := "security", type := (.object "java/lang/SecurityManager"), accessFlags := 74, slot := 7, constantValue := 0 }, { name := "notSupportedJnuEncoding", type := (.object "java/lang/String"), accessFlags := 10, slot := 8, constantValue := 0 }, { name := "cons", type := (.object "java/io/Console"), accessFlags := 74, slot := 9, constantValue := 0 }, { name := "initialErrStream", type := (.object "java/io/PrintStream"), accessFlags := 74, slot := 10, constantValue := 0 }, { name := "props", type := (.object "java/util/Properties"), accessFlags := 10, slot := 11, constantValue := 0 }, { name := "lineSeparator", type := (.object "java/lang/String"), accessFlags := 10, slot := 12, constantValue := 0 }, { name := "bootLayer", type := (.object "java/lang/ModuleLayer"), accessFlags := 8, slot := 13, constantValue := 0 }]
  methods := #[k13m0, k13m1]
  instanceTypes := #[]
  staticTypes := #[(.object "java/io/InputStream"), (.object "java/io/PrintStream"), (.object "java/io/PrintStream"), (.object "java/io/InputStream"), .int, .int, .int, (.object "java/lang/SecurityManager"), (.object "java/lang/String"), (.object "java/io/Console"), (.object "java/io/PrintStream"), (.object "java/util/Properties"), (.object "java/lang/String"), (.object "java/lang/ModuleLayer")]
  resolved := Array.replicate 834 none
  statics := none }

def pool14 : Array CpInfo := pool [(2, .class_ 4), (1, u "java/lang/Object"), (0, u "<init>"), (0, u "()V"), (1, .class_ 10), (1, u "java/lang/Number"), (2, .class_ 14), (0, u "java/io/Serializable"), (0, u "serialVersionUID"), (0, u "J")] 20

def k14m0 : Method := { name := "<init>", desc := "()V", sig := { parameters := [], returnType := none }, accessFlags := 1, code := none }
/-- java/lang/Number -/
def k14 : Class := { plain "java/lang/Number" (some 0) with
  accessFlags := 1057
  interfaces := #[4]
  cf := some (fileOf pool14 8 #[] #[{ accessFlags := 1, nameIndex := 5, descriptorIndex := 6, attributes := #[] }] 1057 2 #[13] #[{ accessFlags := 26, nameIndex := 15, descriptorIndex := 16, attributes := #[] }])
  fields := #[{ name := "serialVersionUID", type := .long, accessFlags := 26, slot := 0, constantValue := 0 }]
  methods := #[k14m0]
  instanceTypes := #[]
  staticTypes := #[.long]
  resolved := Array.replicate 37 none
  statics := none }

def pool15 : Array CpInfo := pool [(1, .class_ 2), (0, u "java/lang/Long"), (2, .class_ 6), (0, u "java/lang/String"), (4, u "toString"), (0, u "(J)Ljava/lang/String;"), (0, .fieldref 5 14), (0, .nameAndType 15 16), (0, u "COMPACT_STRINGS"), (0, u "Z"), (1, .class_ 20), (1, u "java/lang/Integer"), (32, .long 10), (5, u "<init>"), (41, u "(J)I"), (10, .methodref 5 113), (0, .nameAndType 59 114), (0, u "([BB)V"), (3, .methodref 1 119), (0, .nameAndType 120 101), (0, u "stringSize"), (0, .methodref 1 122), (0, .nameAndType 123 124), (0, u "getChars"), (0, u "(JI[B)I"), (4, .long 18446744071562067968), (1, .long 100), (1, .fieldref 18 134), (0, .nameAndType 135 136), (0, u "DigitOnes"), (0, u "[B"), (0, .fieldref 18 138), (0, .nameAndType 139 136), (0, u "DigitTens"), (0, .long 18446744073709551606), (94, .class_ 237), (1, u "java/lang/Long$LongCache"), (33, .class_ 272), (0, u "java/lang/Number"), (2, u "value"), (0, u "J"), (84, u "TYPE"), (0, u "Ljava/lang/Class;"), (0, .class_ 364), (0, u "java/lang/Comparable"), (0, .class_ 366), (0, u "java/lang/constant/Constable"), (0, .class_ 368), (0, u "java/lang/constant/ConstantDesc"), (0, u "MIN_VALUE"), (1, u "MAX_VALUE"), (4, u "SIZE"), (0, u "I"), (1, u "BYTES"), (1, u "serialVersionUID")] 142

def k15c0 : Code := { maxStack := 4, maxLocals := 4, code := jdk_35_method_12_code, exceptionTable := #[], attributes := #[] }
def k15m0 : Method := { name := "toString", desc := "(J)Ljava/lang/String;", sig := { parameters := [.long], returnType := some (.object "java/lang/String") }, accessFlags := 9, code := some k15c0 }
def k15c1 : Code := { maxStack := 4, maxLocals := 11, code := jdk_35_method_14_code, exceptionTable := #[], attributes := #[] }
def k15m1 : Method := { name := "getChars", desc := "(JI[B)I", sig := { parameters := [.long, .int, (.array .byte)], returnType := some .int }, accessFlags := 8, code := some k15c1 }
def k15c2 : Code := { maxStack := 4, maxLocals := 6, code := jdk_35_method_15_code, exceptionTable := #[], attributes := #[] }
def k15m2 : Method := { name := "stringSize", desc := "(J)I", sig := { parameters := [.long], returnType := some .int }, accessFlags := 8, code := some k15c2 }
/-- java/lang/Long -/
def k15 : Class := { plain "java/lang/Long" (some 14) with
  accessFlags := 49
  interfaces := #[3, 2, 11]
  cf := some (fileOf pool15 1 #[.nestMembers #[235]] #[{ accessFlags := 9, nameIndex := 11, descriptorIndex := 12, attributes := #[] }, { accessFlags := 8, nameIndex := 123, descriptorIndex := 124, attributes := #[] }, { accessFlags := 8, nameIndex := 120, descriptorIndex := 101, attributes := #[] }] 49 271 #[363, 365, 367] #[{ accessFlags := 25, nameIndex := 369, descriptorIndex := 276, attributes := #[] }, { accessFlags := 25, nameIndex := 371, descriptorIndex := 276, attributes := #[] }, { accessFlags := 25, nameIndex := 361, descriptorIndex := 362, attributes := #[] }, { accessFlags := 18, nameIndex := 275, descriptorIndex := 276, attributes := #[] }, { accessFlags := 25, nameIndex := 376, descriptorIndex := 377, attributes := #[] }, { accessFlags := 25, nameIndex := 379, descriptorIndex := 377, attributes := #[] }, { accessFlags := 26, nameIndex := 381, descriptorIndex := 276, attributes := #[] }])
  fields := #[{ name := "MIN_VALUE", type := .long, accessFlags := 25, slot := 0, constantValue := 0 }, { name := "MAX_VALUE", type := .long, accessFlags := 25, slot := 1, constantValue := 0 }, { name := "TYPE", type := (.object "java/lang/Class"), accessFlags := 25, slot := 2, constantValue := 0 }, { name := "value", type := .long, accessFlags := 18, slot := 0, constantValue := 0 }, { name := "SIZE", type := .int, accessFlags := 25, slot := 3, constantValue := 0 }, { name := "BYTES", type := .int, accessFlags := 25, slot := 4, constantValue := 0 }, { name := "serialVersionUID", type := .long, accessFlags := 26, slot := 5, constantValue := 0 }]
  methods := #[k15m0, k15m1, k15m2]
  instanceTypes := #[.long]
  staticTypes := #[.long, .long, (.object "java/lang/Class"), .int, .int, .long]
  resolved := Array.replicate 524 none
  statics := none }

def pool16 : Array CpInfo := pool [(1, .class_ 2), (0, u "java/lang/Integer"), (16, u "digits"), (0, u "[C"), (64, u "DigitOnes"), (0, u "[B"), (2, u "DigitTens"), (99, .class_ 190), (0, u "java/lang/Integer$IntegerCache"), (3, u "I"), (8, .class_ 204), (0, u "java/lang/Number"), (2, u "value"), (94, u "TYPE"), (0, u "Ljava/lang/Class;"), (0, .class_ 305), (0, u "java/lang/Comparable"), (0, .class_ 307), (0, u "java/lang/constant/Constable"), (0, .class_ 309), (0, u "java/lang/constant/ConstantDesc"), (0, u "MIN_VALUE"), (1, u "MAX_VALUE"), (3, u "SIZE"), (1, u "BYTES"), (1, u "serialVersionUID"), (0, u "J")] 131

/-- java/lang/Integer -/
def k16 : Class := { plain "java/lang/Integer" (some 14) with
  accessFlags := 49
  interfaces := #[3, 2, 11]
  cf := some (fileOf pool16 1 #[.nestMembers #[189]] #[] 49 203 #[304, 306, 308] #[{ accessFlags := 25, nameIndex := 310, descriptorIndex := 194, attributes := #[] }, { accessFlags := 25, nameIndex := 312, descriptorIndex := 194, attributes := #[] }, { accessFlags := 25, nameIndex := 302, descriptorIndex := 303, attributes := #[] }, { accessFlags := 24, nameIndex := 19, descriptorIndex := 20, attributes := #[] }, { accessFlags := 24, nameIndex := 89, descriptorIndex := 86, attributes := #[] }, { accessFlags := 24, nameIndex := 85, descriptorIndex := 86, attributes := #[] }, { accessFlags := 18, nameIndex := 207, descriptorIndex := 194, attributes := #[] }, { accessFlags := 25, nameIndex := 316, descriptorIndex := 194, attributes := #[] }, { accessFlags := 25, nameIndex := 318, descriptorIndex := 194, attributes := #[] }, { accessFlags := 26, nameIndex := 320, descriptorIndex := 321, attributes := #[] }])
  fields := #[{ name := "MIN_VALUE", type := .int, accessFlags := 25, slot := 0, constantValue := 0 }, { name := "MAX_VALUE", type := .int, accessFlags := 25, slot := 1, constantValue := 0 }, { name := "TYPE", type := (.object "java/lang/Class"), accessFlags := 25, slot := 2, constantValue := 0 }, { name := "digits", type := (.array .char), accessFlags := 24, slot := 3, constantValue := 0 }, { name := "DigitTens", type := (.array .byte), accessFlags := 24, slot := 4, constantValue := 0 }, { name := "DigitOnes", type := (.array .byte), accessFlags := 24, slot := 5, constantValue := 0 }, { name := "value", type := .int, accessFlags := 18, slot := 0, constantValue := 0 }, { name := "SIZE", type := .int, accessFlags := 25, slot := 6, constantValue := 0 }, { name := "BYTES", type := .int, accessFlags := 25, slot := 7, constantValue := 0 }, { name := "serialVersionUID", type := .long, accessFlags := 26, slot := 8, constantValue := 0 }]
  methods := #[]
  instanceTypes := #[.int]
  staticTypes := #[.int, .int, (.object "java/lang/Class"), (.array .char), (.array .byte), (.array .byte), .int, .int, .long]
  resolved := Array.replicate 453 none
  statics := some 2 }

def pool17 : Array CpInfo := pool [(1, .class_ 2), (0, u "java/lang/Math"), (1, .class_ 6), (1, u "java/lang/Object"), (0, u "<init>"), (0, u "()V"), (89, .class_ 100), (1, u "java/lang/Math$RandomNumberGeneratorHolder"), (71, u "negativeZeroFloatBits"), (0, u "J"), (2, u "negativeZeroDoubleBits"), (21, u "max"), (2, u "min"), (43, u "$assertionsDisabled"), (0, u "Z"), (88, u "(II)I"), (2, u "twoToTheDoubleScaleDown"), (0, u "D"), (4, u "twoToTheDoubleScaleUp"), (9, u "E"), (3, u "PI"), (2, u "TAU"), (2, u "DEGREES_TO_RADIANS"), (0, u "RADIANS_TO_DEGREES")] 94

def k17m0 : Method := { name := "<init>", desc := "()V", sig := { parameters := [], returnType := none }, accessFlags := 2, code := none }
def k17c1 : Code := { maxStack := 2, maxLocals := 2, code := jdk_29_method_65_code, exceptionTable := #[], attributes := #[] }
def k17m1 : Method := { name := "max", desc := "(II)I", sig := { parameters := [.int, .int], returnType := some .int }, accessFlags := 9, code := some k17c1 }
def k17c2 : Code := { maxStack := 2, maxLocals := 2, code := jdk_29_method_69_code, exceptionTable := #[], attributes := #[] }
def k17m2 : Method := { name := "min", desc := "(II)I", sig := { parameters := [.int, .int], returnType := some .int }, accessFlags := 9, code := some k17c2 }
/-- java/lang/Math -/
def k17 : Class := { plain "java/lang/Math" (some 0) with
  accessFlags := 49
  interfaces := #[]
  cf := some (fileOf pool17 1 #[.nestMembers #[98]] #[{ accessFlags := 2, nameIndex := 7, descriptorIndex := 8, attributes := #[] }, { accessFlags := 9, nameIndex := 198, descriptorIndex := 335, attributes := #[] }, { accessFlags := 9, nameIndex := 201, descriptorIndex := 335, attributes := #[] }] 49 4 #[] #[{ accessFlags := 25, nameIndex := 354, descriptorIndex := 339, attributes := #[] }, { accessFlags := 25, nameIndex := 358, descriptorIndex := 339, attributes := #[] }, { accessFlags := 25, nameIndex := 361, descriptorIndex := 339, attributes := #[] }, { accessFlags := 26, nameIndex := 364, descriptorIndex := 339, attributes := #[] }, { accessFlags := 26, nameIndex := 365, descriptorIndex := 339, attributes := #[] }, { accessFlags := 26, nameIndex := 172, descriptorIndex := 173, attributes := #[] }, { accessFlags := 26, nameIndex := 176, descriptorIndex := 173, attributes := #[] }, { accessFlags := 8, nameIndex := 344, descriptorIndex := 339, attributes := #[] }, { accessFlags := 8, nameIndex := 338, descriptorIndex := 339, attributes := #[] }, { accessFlags := 4120, nameIndex := 245, descriptorIndex := 246, attributes := #[] }])
  fields := #[{ name := "E", type := .double, accessFlags := 25, slot := 0, constantValue := 0 }, { name := "PI", type := .double, accessFlags := 25, slot := 1, constantValue := 0 }, { name := "TAU", type := .double, accessFlags := 25, slot := 2, constantValue := 0 }, { name := "DEGREES_TO_RADIANS", type := .double, accessFlags := 26, slot := 3, constantValue := 0 }, { name := "RADIANS_TO_DEGREES", type := .double, accessFlags := 26, slot := 4, constantValue := 0 }, { name := "negativeZeroFloatBits", type := .long, accessFlags := 26, slot := 5, constantValue := 0 }, { name := "negativeZeroDoubleBits", type := .long, accessFlags := 26, slot := 6, constantValue := 0 }, { name := "twoToTheDoubleScaleUp", type := .double, accessFlags := 8, slot := 7, constantValue := 0 }, { name := "twoToTheDoubleScaleDown", type := .double, accessFlags := 8, slot := 8, constantValue := 0 }, { name := "$assertionsDisabled", type := .boolean, accessFlags := 4120, slot := 9, constantValue := 0 }]
  methods := #[k17m0, k17m1, k17m2]
  instanceTypes := #[]
  staticTypes := #[.double, .double, .double, .double, .double, .long, .long, .double, .double, .boolean]
  resolved := Array.replicate 460 none
  statics := none }

def pool18 : Array CpInfo := pool [(2, .class_ 4), (1, u "java/lang/Object"), (0, u "<init>"), (0, u "()V"), (7, .class_ 16), (1, u "java/util/Arrays"), (57, .class_ 76), (1, u "java/util/Arrays$NaturalOrder"), (36, .class_ 115), (1, u "java/util/Arrays$LegacyMergeSort"), (1, u "Z"), (21, u "copyOfRange"), (10, .methodref 151 152), (0, .class_ 153), (0, .nameAndType 154 155), (0, u "java/lang/System"), (0, u "arraycopy"), (0, u "(Ljava/lang/Object;ILjava/lang/Object;II)V"), (148, .methodref 305 306), (0, .class_ 307), (0, .nameAndType 308 309), (0, u "java/lang/Math"), (0, u "min"), (0, u "(II)I"), (29, .methodref 14 340), (0, .nameAndType 341 342), (0, u "copyOfRangeByte"), (0, u "([BII)[B"), (0, .methodref 14 344), (0, .nameAndType 345 346), (0, u "checkLength"), (0, u "(II)V"), (28, .class_ 376), (0, u "java/util/Arrays$ArrayList"), (68, u "$assertionsDisabled"), (269, u "MIN_ARRAY_SORT_GRAN"), (0, u "I"), (2, u "INSERTIONSORT_THRESHOLD"), (120, u "fill"), (9, u "([BB)V"), (124, .class_ 976), (0, u "java/util/Arrays$ArrayItr")] 52

def k18m0 : Method := { name := "<init>", desc := "()V", sig := { parameters := [], returnType := none }, accessFlags := 2, code := none }
def k18c1 : Code := { maxStack := 3, maxLocals := 4, code := jdk_65_method_109_code, exceptionTable := #[], attributes := #[] }
def k18m1 : Method := { name := "fill", desc := "([BB)V", sig := { parameters := [(.array .byte), .byte], returnType := none }, accessFlags := 9, code := some k18c1 }
def k18c2 : Code := { maxStack := 4, maxLocals := 2, code := jdk_65_method_131_code, exceptionTable := #[], attributes := #[] }
def k18m2 : Method := { name := "checkLength", desc := "(II)V", sig := { parameters := [.int, .int], returnType := none }, accessFlags := 10, code := some k18c2 }
def k18c3 : Code := { maxStack := 3, maxLocals := 3, code := jdk_65_method_132_code, exceptionTable := #[], attributes := #[] }
def k18m3 : Method := { name := "copyOfRange", desc := "([BII)[B", sig := { parameters := [(.array .byte), .int, .int], returnType := some (.array .byte) }, accessFlags := 9, code := some k18c3 }
def k18c4 : Code := { maxStack := 6, maxLocals := 5, code := jdk_65_method_133_code, exceptionTable := #[], attributes := #[] }
def k18m4 : Method := { name := "copyOfRangeByte", desc := "([BII)[B", sig := { parameters := [(.array .byte), .int, .int], returnType := some (.array .byte) }, accessFlags := 10, code := some k18c4 }
/-- java/util/Arrays -/
def k18 : Class := { plain "java/util/Arrays" (some 0) with
  accessFlags := 49
  interfaces := #[]
  cf := some (fileOf pool18 14 #[.nestMembers #[975, 375, 113, 74]] #[{ accessFlags := 2, nameIndex := 5, descriptorIndex := 6, attributes := #[] }, { accessFlags := 9, nameIndex := 840, descriptorIndex := 850, attributes := #[] }, { accessFlags := 10, nameIndex := 345, descriptorIndex := 346, attributes := #[] }, { accessFlags := 9, nameIndex := 139, descriptorIndex := 342, attributes := #[] }, { accessFlags := 10, nameIndex := 341, descriptorIndex := 342, attributes := #[] }] 49 2 #[] #[{ accessFlags := 26, nameIndex := 715, descriptorIndex := 716, attributes := #[] }, { accessFlags := 26, nameIndex := 719, descriptorIndex := 716, attributes := #[] }, { accessFlags := 4120, nameIndex := 445, descriptorIndex := 117, attributes := #[] }])
  fields := #[{ name := "MIN_ARRAY_SORT_GRAN", type := .int, accessFlags := 26, slot := 0, constantValue := 0 }, { name := "INSERTIONSORT_THRESHOLD", type := .int, accessFlags := 26, slot := 1, constantValue := 0 }, { name := "$assertionsDisabled", type := .boolean, accessFlags := 4120, slot := 2, constantValue := 0 }]
  methods := #[k18m0, k18m1, k18m2, k18m3, k18m4]
  instanceTypes := #[]
  staticTypes := #[.int, .int, .boolean]
  resolved := Array.replicate 1029 none
  statics := none }

def pool19 : Array CpInfo := pool [(1, .class_ 2), (0, u "java/lang/String"), (1, .class_ 6), (1, u "java/lang/Object"), (0, u "<init>"), (0, u "()V"), (0, .methodref 1 10), (0, .nameAndType 11 12), (0, u "checkIndex"), (0, u "(II)V"), (1, .class_ 16), (1, u "java/lang/StringLatin1"), (36, u "([BI)C"), (67, u "$assertionsDisabled"), (0, u "Z"), (98, .class_ 223), (1, u "java/lang/StringLatin1$LinesSpliterator"), (28, u "charAt"), (137, .class_ 391), (0, u "java/lang/StringLatin1$CharsSpliterator")] 3

def k19m0 : Method := { name := "<init>", desc := "()V", sig := { parameters := [], returnType := none }, accessFlags := 0, code := none }
def k19c1 : Code := { maxStack := 2, maxLocals := 2, code := jdk_43_method_2_code, exceptionTable := #[], attributes := #[] }
def k19m1 : Method := { name := "charAt", desc := "([BI)C", sig := { parameters := [(.array .byte), .int], returnType := some .char }, accessFlags := 9, code := some k19c1 }
/-- java/lang/StringLatin1 -/
def k19 : Class := { plain "java/lang/StringLatin1" (some 0) with
  accessFlags := 48
  interfaces := #[]
  cf := some (fileOf pool19 14 #[.nestMembers #[390, 221]] #[{ accessFlags := 0, nameIndex := 7, descriptorIndex := 8, attributes := #[] }, { accessFlags := 9, nameIndex := 252, descriptorIndex := 53, attributes := #[] }] 48 4 #[] #[{ accessFlags := 4120, nameIndex := 121, descriptorIndex := 122, attributes := #[] }])
  fields := #[{ name := "$assertionsDisabled", type := .boolean, accessFlags := 4120, slot := 0, constantValue := 0 }]
  methods := #[k19m0, k19m1]
  instanceTypes := #[]
  staticTypes := #[.boolean]
  resolved := Array.replicate 395 none
  statics := none }

def pool20 : Array CpInfo := pool [(2, .class_ 4), (1, u "java/lang/Object"), (0, u "<init>"), (0, u "()V"), (17, .class_ 26), (1, u "jdk/internal/util/Preconditions"), (6, u "checkIndex"), (21, .class_ 56), (0, u "jdk/internal/util/Preconditions$4"), (57, .class_ 115), (0, u "jdk/internal/util/Preconditions$1"), (7, u "SIOOBE_FORMATTER"), (0, u "Ljava/util/function/BiFunction;"), (0, .class_ 126), (0, u "jdk/internal/util/Preconditions$2"), (3, u "AIOOBE_FORMATTER"), (0, .class_ 132), (0, u "jdk/internal/util/Preconditions$3"), (3, u "IOOBE_FORMATTER"), (41, u "(IILjava/util/function/BiFunction;)I")] 15

def k20m0 : Method := { name := "<init>", desc := "()V", sig := { parameters := [], returnType := none }, accessFlags := 1, code := none }
def k20c1 : Code := { maxStack := 3, maxLocals := 3, code := jdk_41_method_11_code, exceptionTable := #[], attributes := #[] }
def k20m1 : Method := { name := "checkIndex", desc := "(IILjava/util/function/BiFunction;)I", sig := { parameters := [.int, .int, (.object "java/util/function/BiFunction")], returnType := some .int }, accessFlags := 9, code := some k20c1 }
/-- jdk/internal/util/Preconditions -/
def k20 : Class := { plain "jdk/internal/util/Preconditions" (some 0) with
  accessFlags := 33
  interfaces := #[]
  cf := some (fileOf pool20 24 #[.nestMembers #[55, 131, 125, 114]] #[{ accessFlags := 1, nameIndex := 5, descriptorIndex := 6, attributes := #[] }, { accessFlags := 9, nameIndex := 33, descriptorIndex := 178, attributes := #[] }] 33 2 #[] #[{ accessFlags := 25, nameIndex := 123, descriptorIndex := 124, attributes := #[] }, { accessFlags := 25, nameIndex := 130, descriptorIndex := 124, attributes := #[] }, { accessFlags := 25, nameIndex := 136, descriptorIndex := 124, attributes := #[] }])
  fields := #[{ name := "SIOOBE_FORMATTER", type := (.object "java/util/function/BiFunction"), accessFlags := 25, slot := 0, constantValue := 0 }, { name := "AIOOBE_FORMATTER", type := (.object "java/util/function/BiFunction"), accessFlags := 25, slot := 1, constantValue := 0 }, { name := "IOOBE_FORMATTER", type := (.object "java/util/function/BiFunction"), accessFlags := 25, slot := 2, constantValue := 0 }]
  methods := #[k20m0, k20m1]
  instanceTypes := #[]
  staticTypes := #[(.object "java/util/function/BiFunction"), (.object "java/util/function/BiFunction"), (.object "java/util/function/BiFunction")]
  resolved := Array.replicate 194 none
  statics := some 3 }

def pool21 : Array CpInfo := pool [(9, u "<init>"), (6, .class_ 18), (1, u "java/lang/Object"), (0, u "()V"), (1, .class_ 23), (1, u "jdk/internal/util/ArraysSupport"), (0, u "LOG2_ARRAY_LONG_INDEX_SCALE"), (0, u "I"), (2, u "U"), (0, u "Ljdk/internal/misc/Unsafe;"), (8, u "BIG_ENDIAN"), (0, u "Z"), (8, u "LOG2_BYTE_BIT_SIZE"), (4, u "LOG2_ARRAY_INT_INDEX_SCALE"), (54, u "JLA"), (0, u "Ljdk/internal/access/JavaLangAccess;"), (11, u "LOG2_ARRAY_BOOLEAN_INDEX_SCALE"), (9, u "LOG2_ARRAY_BYTE_INDEX_SCALE"), (5, u "LOG2_ARRAY_CHAR_INDEX_SCALE"), (5, u "LOG2_ARRAY_SHORT_INDEX_SCALE"), (18, u "LOG2_ARRAY_FLOAT_INDEX_SCALE"), (24, u "LOG2_ARRAY_DOUBLE_INDEX_SCALE"), (89, u "T_BOOLEAN"), (2, u "T_CHAR"), (1, u "T_FLOAT"), (1, u "T_DOUBLE"), (1, u "T_BYTE"), (1, u "T_SHORT"), (1, u "T_INT"), (1, u "T_LONG"), (1, u "SOFT_MAX_ARRAY_LENGTH")] 83

def k21m0 : Method := { name := "<init>", desc := "()V", sig := { parameters := [], returnType := none }, accessFlags := 2, code := none }
/-- jdk/internal/util/ArraysSupport -/
def k21 : Class := { plain "jdk/internal/util/ArraysSupport" (some 0) with
  accessFlags := 33
  interfaces := #[]
  cf := some (fileOf pool21 21 #[] #[{ accessFlags := 2, nameIndex := 9, descriptorIndex := 19, attributes := #[] }] 33 16 #[] #[{ accessFlags := 24, nameIndex := 28, descriptorIndex := 29, attributes := #[] }, { accessFlags := 26, nameIndex := 38, descriptorIndex := 39, attributes := #[] }, { accessFlags := 25, nameIndex := 121, descriptorIndex := 25, attributes := #[] }, { accessFlags := 25, nameIndex := 131, descriptorIndex := 25, attributes := #[] }, { accessFlags := 25, nameIndex := 137, descriptorIndex := 25, attributes := #[] }, { accessFlags := 25, nameIndex := 143, descriptorIndex := 25, attributes := #[] }, { accessFlags := 25, nameIndex := 53, descriptorIndex := 25, attributes := #[] }, { accessFlags := 25, nameIndex := 24, descriptorIndex := 25, attributes := #[] }, { accessFlags := 25, nameIndex := 162, descriptorIndex := 25, attributes := #[] }, { accessFlags := 25, nameIndex := 187, descriptorIndex := 25, attributes := #[] }, { accessFlags := 26, nameIndex := 48, descriptorIndex := 25, attributes := #[] }, { accessFlags := 25, nameIndex := 277, descriptorIndex := 25, attributes := #[] }, { accessFlags := 25, nameIndex := 280, descriptorIndex := 25, attributes := #[] }, { accessFlags := 25, nameIndex := 282, descriptorIndex := 25, attributes := #[] }, { accessFlags := 25, nameIndex := 284, descriptorIndex := 25, attributes := #[] }, { accessFlags := 25, nameIndex := 286, descriptorIndex := 25, attributes := #[] }, { accessFlags := 25, nameIndex := 288, descriptorIndex := 25, attributes := #[] }, { accessFlags := 25, nameIndex := 290, descriptorIndex := 25, attributes := #[] }, { accessFlags := 25, nameIndex := 292, descriptorIndex := 25, attributes := #[] }, { accessFlags := 26, nameIndex := 108, descriptorIndex := 109, attributes := #[] }, { accessFlags := 25, nameIndex := 294, descriptorIndex := 25, attributes := #[] }])
  fields := #[{ name := "U", type := (.object "jdk/internal/misc/Unsafe"), accessFlags := 24, slot := 0, constantValue := 0 }, { name := "BIG_ENDIAN", type := .boolean, accessFlags := 26, slot := 1, constantValue := 0 }, { name := "LOG2_ARRAY_BOOLEAN_INDEX_SCALE", type := .int, accessFlags := 25, slot := 2, constantValue := 0 }, { name := "LOG2_ARRAY_BYTE_INDEX_SCALE", type := .int, accessFlags := 25, slot := 3, constantValue := 0 }, { name := "LOG2_ARRAY_CHAR_INDEX_SCALE", type := .int, accessFlags := 25, slot := 4, constantValue := 0 }, { name := "LOG2_ARRAY_SHORT_INDEX_SCALE", type := .int, accessFlags := 25, slot := 5, constantValue := 0 }, { name := "LOG2_ARRAY_INT_INDEX_SCALE", type := .int, accessFlags := 25, slot := 6, constantValue := 0 }, { name := "LOG2_ARRAY_LONG_INDEX_SCALE", type := .int, accessFlags := 25, slot := 7, constantValue := 0 }, { name := "LOG2_ARRAY_FLOAT_INDEX_SCALE", type := .int, accessFlags := 25, slot := 8, constantValue := 0 }, { name := "LOG2_ARRAY_DOUBLE_INDEX_SCALE", type := .int, accessFlags := 25, slot := 9, constantValue := 0 }, { name := "LOG2_BYTE_BIT_SIZE", type := .int, accessFlags := 26, slot := 10, constantValue := 0 }, { name := "T_BOOLEAN", type := .int, accessFlags := 25, slot := 11, constantValue := 0 }, { name := "T_CHAR", type := .int, accessFlags := 25, slot := 12, constantValue := 0 }, { name := "T_FLOAT", type := .int, accessFlags := 25, slot := 13, constantValue := 0 }, { name := "T_DOUBLE", type := .int, accessFlags := 25, slot := 14, constantValue := 0 }, { name := "T_BYTE", type := .int, accessFlags := 25, slot := 15, constantValue := 0 }, { name := "T_SHORT", type := .int, accessFlags := 25, slot := 16, constantValue := 0 }, { name := "T_INT", type := .int, accessFlags := 25, slot := 17, constantValue := 0 }, { name := "T_LONG", type := .int, accessFlags := 25, slot := 18, constantValue := 0 }, { name := "JLA", type := (.object "jdk/internal/access/JavaLangAccess"), accessFlags := 26, slot := 19, constantValue := 0 }, { name := "SOFT_MAX_ARRAY_LENGTH", type := .int, accessFlags := 25, slot := 20, constantValue := 0 }]
  methods := #[k21m0]
  instanceTypes := #[]
  staticTypes := #[(.object "jdk/internal/misc/Unsafe"), .boolean, .int, .int, .int, .int, .int, .int, .int, .int, .int, .int, .int, .int, .int, .int, .int, .int, .int, (.object "jdk/internal/access/JavaLangAccess"), .int]
  resolved := Array.replicate 378 none
  statics := none }

def pool22 : Array CpInfo := pool [(1, u "java/lang/Cloneable"), (0, .class_ 1), (0, u "java/lang/Object"), (0, .class_ 3)] 3

/-- java/lang/Cloneable -/
def k22 : Class := { plain "java/lang/Cloneable" (some 0) with
  accessFlags := 1537
  interfaces := #[]
  cf := some (fileOf pool22 2 #[] #[] 1537 4 #[] #[])
  fields := #[]
  methods := #[]
  instanceTypes := #[]
  staticTypes := #[]
  resolved := Array.replicate 8 none
  statics := none }

/-- the primitive byte -/
def k23 : Class := { plain "byte" none with kind := .primitive 'B', accessFlags := 0x411 }
/-- [B -/
def k24 : Class := { plain "[B" (some 0) with kind := .array 23 .byte, interfaces := #[22, 4], accessFlags := 1041 }

/-- the primitive int -/
def k25 : Class := { plain "int" none with kind := .primitive 'I', accessFlags := 0x411 }
/-- [I -/
def k26 : Class := { plain "[I" (some 0) with kind := .array 25 .int, interfaces := #[22, 4], accessFlags := 1041 }

def heap : Heap := #[{ cls := 6, slots := #[.ref 6, .ref 9, .long 0, .int 0, .null], vm := .statics 6 },
  { cls := 12, slots := #[.long 0, .int 1, .null, .int 0, .null, .int 0, .int 0], vm := .statics 12 },
  { cls := 16, slots := #[.int 0, .int 0, .null, .null, .ref 11, .ref 10, .int 0, .int 0, .long 0], vm := .statics 16 },
  { cls := 20, slots := #[.null, .null, .null], vm := .statics 20 },
  { cls := 24, slots := #[.int 98, .int 105, .int 100], vm := .none },
  { cls := 12, slots := #[.ref 4, .int 0, .int 0, .int 0], vm := .none },
  { cls := 6, slots := #[.null, .int 0, .int 0, .ref 5, .null, .null], vm := .none },
  { cls := 24, slots := #[.int 106, .int 105, .int 100], vm := .none },
  { cls := 12, slots := #[.ref 7, .int 0, .int 0, .int 0], vm := .none },
  { cls := 6, slots := #[.null, .int 0, .int 0, .ref 8, .null, .null], vm := .none },
  { cls := 24, slots := #[.int 48, .int 49, .int 50, .int 51, .int 52, .int 53, .int 54, .int 55, .int 56, .int 57, .int 48, .int 49, .int 50, .int 51, .int 52, .int 53, .int 54, .int 55, .int 56, .int 57, .int 48, .int 49, .int 50, .int 51, .int 52, .int 53, .int 54, .int 55, .int 56, .int 57, .int 48, .int 49, .int 50, .int 51, .int 52, .int 53, .int 54, .int 55, .int 56, .int 57, .int 48, .int 49, .int 50, .int 51, .int 52, .int 53, .int 54, .int 55, .int 56, .int 57, .int 48, .int 49, .int 50, .int 51, .int 52, .int 53, .int 54, .int 55, .int 56, .int 57, .int 48, .int 49, .int 50, .int 51, .int 52, .int 53, .int 54, .int 55, .int 56, .int 57, .int 48, .int 49, .int 50, .int 51, .int 52, .int 53, .int 54, .int 55, .int 56, .int 57, .int 48, .int 49, .int 50, .int 51, .int 52, .int 53, .int 54, .int 55, .int 56, .int 57, .int 48, .int 49, .int 50, .int 51, .int 52, .int 53, .int 54, .int 55, .int 56, .int 57], vm := .none },
  { cls := 24, slots := #[.int 48, .int 48, .int 48, .int 48, .int 48, .int 48, .int 48, .int 48, .int 48, .int 48, .int 49, .int 49, .int 49, .int 49, .int 49, .int 49, .int 49, .int 49, .int 49, .int 49, .int 50, .int 50, .int 50, .int 50, .int 50, .int 50, .int 50, .int 50, .int 50, .int 50, .int 51, .int 51, .int 51, .int 51, .int 51, .int 51, .int 51, .int 51, .int 51, .int 51, .int 52, .int 52, .int 52, .int 52, .int 52, .int 52, .int 52, .int 52, .int 52, .int 52, .int 53, .int 53, .int 53, .int 53, .int 53, .int 53, .int 53, .int 53, .int 53, .int 53, .int 54, .int 54, .int 54, .int 54, .int 54, .int 54, .int 54, .int 54, .int 54, .int 54, .int 55, .int 55, .int 55, .int 55, .int 55, .int 55, .int 55, .int 55, .int 55, .int 55, .int 56, .int 56, .int 56, .int 56, .int 56, .int 56, .int 56, .int 56, .int 56, .int 56, .int 57, .int 57, .int 57, .int 57, .int 57, .int 57, .int 57, .int 57, .int 57, .int 57], vm := .none }]
def classes : Array Class := #[k0, k1, k2, k3, k4, k5, k6, k7, k8, k9, k10, k11, k12, k13, k14, k15, k16, k17, k18, k19, k20, k21, k22, k23, k24, k25, k26]
def interned : List (Array UInt16 × Addr) := []
def slotsUsed : Nat := 250
def theMethod : MethodId := ⟨1, 1⟩
def args0 : Array Value := #[.int 5, .long 5]
def aboutOver (below : List Frame) : State where
  vm := { classes := classes, interned := interned.toArray }
  heap := heap
  slotsUsed := slotsUsed
  threads := #[{ frames := .invoking theMethod args0 :: below }]
def below0 : List Frame := [.native { method := ⟨0, 0⟩, args := #[] }]
def about1 : State := aboutOver below0
def p0 : Program := .bare "" "" ""
def e0 : Env := launch0.env 0 0 0
theorem w_frames : about1.frames = Frame.invoking theMethod args0 :: below0 := rfl
set_option maxRecDepth 65536 in
theorem w_args : argsFit about1.vm theMethod args0 = true := by decide +kernel
set_option maxRecDepth 65536 in
theorem w_heap : heapFits about1 = true := by decide +kernel
set_option maxRecDepth 65536 in
theorem w_runnable : about1.curStatus? = some .runnable := by decide +kernel
set_option maxRecDepth 65536 in
theorem w_alone : about1.alone = true := by decide +kernel
set_option maxRecDepth 65536 in
theorem w_named : about1.methodNamed? x = some theMethod := by decide +kernel
set_option maxRecDepth 65536 in
theorem w_hears : about1.hears theMethod below0 = true := by decide +kernel
set_option maxRecDepth 65536 in
theorem w_ripe : about1.ripe theMethod args0 below0 = true := by decide +kernel
theorem w_running : about1.status = .running := rfl
set_option maxRecDepth 65536 in
theorem w_room : about1.hasRoom e0.platform room_1 = true :=
  launch0.hasRoom_least _ room_1 (by decide +kernel) (by decide +kernel) (by decide +kernel) (by decide +kernel) (by decide +kernel) (by decide +kernel)
theorem allAtoms_all (ts : List Jvm.Cond) (a : Array Jvm.Value) (st : Jvm.State) : (allAtoms ts).before a st = ts.all (fun c => c.before a st) := by
  induction ts with
  | nil => rfl
  | cons c t ih =>
    show (Jvm.Cond.and c (allAtoms t)).before a st = _
    rw [Jvm.Cond.before_and, ih, List.all_cons]
def words1 : List Jvm.Cond := Jvm.Cond.code x code maxLocals ret :: tables_1
/-- a 'code' word, met by the world's own term for the bytes: nothing is compared byte by byte -/
theorem code_word {y : MethodName} {bytes : ByteArray} {mx : Nat} {rt : Option FieldType} {a : Array Value} {s : State} {m : MethodId} {meth : Method} {c : Code} (h1 : s.methodNamed? y = some m) (h2 : s.vm.method? m = some meth) (h3 : meth.code = some c) (h4 : c.code = bytes)
    (h5 : (c.maxLocals == mx && c.exceptionTable.isEmpty && decide (c.maxStack ≤ mostOperands) && decide (meth.sig.returnType = rt) && !meth.locks && decide (parseMethodDescriptor y.desc = some meth.sig)) = true) : (Jvm.Cond.code y bytes mx rt).before a s = true := by
  simp only [Bool.and_eq_true, beq_iff_eq, Bool.not_eq_true', decide_eq_true_eq] at h5
  obtain ⟨⟨⟨⟨⟨g1, g2⟩, g3⟩, g4⟩, g5⟩, g6⟩ := h5
  simp [Cond.before, Cond.holds, Cond.value, h1, h2, h3, h4, g1, g2, g3, g4, g5, g6]
def isCode : Jvm.Cond → Bool
  | .code _ _ _ _ => true
  | _ => false
theorem all_split {L : List Jvm.Cond} {P : Jvm.Cond → Bool} (h1 : L.all (fun c => isCode c || P c) = true) (h2 : ∀ c ∈ L.filter isCode, P c = true) : L.all P = true := by
  refine List.all_eq_true.mpr fun c hc => ?_
  have h := List.all_eq_true.mp h1 c hc
  rcases Bool.eq_false_or_eq_true (isCode c) with hi | hi
  · exact h2 c (List.mem_filter.mpr ⟨hc, hi⟩)
  · simpa [hi] using h
set_option maxRecDepth 65536 in
theorem w_c0 : (Jvm.Cond.code x code maxLocals ret).before args0 about1 = true := code_word (m := ⟨1, 1⟩) (meth := k1m1) (c := k1c1) (by decide +kernel) rfl rfl rfl (by decide +kernel)
set_option maxRecDepth 65536 in
theorem w_c1 : (Jvm.Cond.code ({ cls := "com/example/uketsuke/uketsuke/store/IdFormat", name := "format", desc := "(J)Ljava/lang/String;" } : Jvm.MethodName) prog_10_method_4_code (3 : Nat) (Option.some (Jvm.ClassFile.FieldType.object "java/lang/String"))).before args0 about1 = true := code_word (m := ⟨6, 0⟩) (meth := k6m0) (c := k6c0) (by decide +kernel) rfl rfl rfl (by decide +kernel)
set_option maxRecDepth 65536 in
theorem w_c2 : (Jvm.Cond.code ({ cls := "java/lang/StringBuilder", name := "<init>", desc := "()V" } : Jvm.MethodName) jdk_67_method_1_code (1 : Nat) (Option.none : Option Jvm.ClassFile.FieldType)).before args0 about1 = true := code_word (m := ⟨10, 0⟩) (meth := k10m0) (c := k10c0) (by decide +kernel) rfl rfl rfl (by decide +kernel)
set_option maxRecDepth 65536 in
theorem w_c3 : (Jvm.Cond.code ({ cls := "java/lang/AbstractStringBuilder", name := "<init>", desc := "(I)V" } : Jvm.MethodName) jdk_68_method_2_code (2 : Nat) (Option.none : Option Jvm.ClassFile.FieldType)).before args0 about1 = true := code_word (m := ⟨9, 1⟩) (meth := k9m1) (c := k9c1) (by decide +kernel) rfl rfl rfl (by decide +kernel)
set_option maxRecDepth 65536 in
theorem w_c4 : (Jvm.Cond.code ({ cls := "java/lang/Object", name := "<init>", desc := "()V" } : Jvm.MethodName) object_method_1_code (1 : Nat) (Option.none : Option Jvm.ClassFile.FieldType)).before args0 about1 = true := code_word (m := ⟨0, 0⟩) (meth := k0m0) (c := k0c0) (by decide +kernel) rfl rfl rfl (by decide +kernel)
set_option maxRecDepth 65536 in
theorem w_c5 : (Jvm.Cond.code ({ cls := "java/lang/StringBuilder", name := "append", desc := "(Ljava/lang/String;)Ljava/lang/StringBuilder;" } : Jvm.MethodName) jdk_67_method_7_code (2 : Nat) (Option.some (Jvm.ClassFile.FieldType.object "java/lang/StringBuilder"))).before args0 about1 = true := code_word (m := ⟨10, 1⟩) (meth := k10m1) (c := k10c1) (by decide +kernel) rfl rfl rfl (by decide +kernel)
set_option maxRecDepth 65536 in
theorem w_c6 : (Jvm.Cond.code ({ cls := "java/lang/AbstractStringBuilder", name := "append", desc := "(Ljava/lang/String;)Ljava/lang/AbstractStringBuilder;" } : Jvm.MethodName) jdk_68_method_22_code (3 : Nat) (Option.some (Jvm.ClassFile.FieldType.object "java/lang/AbstractStringBuilder"))).before args0 about1 = true := code_word (m := ⟨9, 4⟩) (meth := k9m4) (c := k9c4) (by decide +kernel) rfl rfl rfl (by decide +kernel)
set_option maxRecDepth 65536 in
theorem w_c7 : (Jvm.Cond.code ({ cls := "java/lang/String", name := "length", desc := "()I" } : Jvm.MethodName) jdk_42_method_54_code (1 : Nat) (Option.some Jvm.ClassFile.FieldType.int)).before args0 about1 = true := code_word (m := ⟨12, 2⟩) (meth := k12m2) (c := k12c2) (by decide +kernel) rfl rfl rfl (by decide +kernel)
set_option maxRecDepth 65536 in
theorem w_c8 : (Jvm.Cond.code ({ cls := "java/lang/String", name := "coder", desc := "()B" } : Jvm.MethodName) jdk_42_method_152_code (1 : Nat) (Option.some Jvm.ClassFile.FieldType.byte)).before args0 about1 = true := code_word (m := ⟨12, 8⟩) (meth := k12m8) (c := k12c8) (by decide +kernel) rfl rfl rfl (by decide +kernel)
set_option maxRecDepth 65536 in
theorem w_c9 : (Jvm.Cond.code ({ cls := "java/lang/AbstractStringBuilder", name := "ensureCapacityInternal", desc := "(I)V" } : Jvm.MethodName) jdk_68_method_9_code (3 : Nat) (Option.none : Option Jvm.ClassFile.FieldType)).before args0 about1 = true := code_word (m := ⟨9, 3⟩) (meth := k9m3) (c := k9c3) (by decide +kernel) rfl rfl rfl (by decide +kernel)
set_option maxRecDepth 65536 in
theorem w_c10 : (Jvm.Cond.code ({ cls := "java/lang/AbstractStringBuilder", name := "putStringAt", desc := "(ILjava/lang/String;)V" } : Jvm.MethodName) jdk_68_method_73_code (3 : Nat) (Option.none : Option Jvm.ClassFile.FieldType)).before args0 about1 = true := code_word (m := ⟨9, 8⟩) (meth := k9m8) (c := k9c8) (by decide +kernel) rfl rfl rfl (by decide +kernel)
set_option maxRecDepth 65536 in
theorem w_c11 : (Jvm.Cond.code ({ cls := "java/lang/AbstractStringBuilder", name := "inflateIfNeededFor", desc := "(Ljava/lang/String;)V" } : Jvm.MethodName) jdk_68_method_71_code (2 : Nat) (Option.none : Option Jvm.ClassFile.FieldType)).before args0 about1 = true := code_word (m := ⟨9, 7⟩) (meth := k9m7) (c := k9c7) (by decide +kernel) rfl rfl rfl (by decide +kernel)
set_option maxRecDepth 65536 in
theorem w_c12 : (Jvm.Cond.code ({ cls := "java/lang/String", name := "getBytes", desc := "([BIB)V" } : Jvm.MethodName) jdk_42_method_147_code (4 : Nat) (Option.none : Option Jvm.ClassFile.FieldType)).before args0 about1 = true := code_word (m := ⟨12, 5⟩) (meth := k12m5) (c := k12c5) (by decide +kernel) rfl rfl rfl (by decide +kernel)
set_option maxRecDepth 65536 in
theorem w_c13 : (Jvm.Cond.code ({ cls := "com/example/uketsuke/uketsuke/store/IdFormat", name := "digits", desc := "(JI)Ljava/lang/String;" } : Jvm.MethodName) prog_10_method_5_code (4 : Nat) (Option.some (Jvm.ClassFile.FieldType.object "java/lang/String"))).before args0 about1 = true := code_word (m := ⟨6, 1⟩) (meth := k6m1) (c := k6c1) (by decide +kernel) rfl rfl rfl (by decide +kernel)
set_option maxRecDepth 65536 in
theorem w_c14 : (Jvm.Cond.code ({ cls := "java/lang/Long", name := "toString", desc := "(J)Ljava/lang/String;" } : Jvm.MethodName) jdk_35_method_12_code (4 : Nat) (Option.some (Jvm.ClassFile.FieldType.object "java/lang/String"))).before args0 about1 = true := code_word (m := ⟨15, 0⟩) (meth := k15m0) (c := k15c0) (by decide +kernel) rfl rfl rfl (by decide +kernel)
set_option maxRecDepth 65536 in
theorem w_c15 : (Jvm.Cond.code ({ cls := "java/lang/Long", name := "stringSize", desc := "(J)I" } : Jvm.MethodName) jdk_35_method_15_code (6 : Nat) (Option.some Jvm.ClassFile.FieldType.int)).before args0 about1 = true := code_word (m := ⟨15, 2⟩) (meth := k15m2) (c := k15c2) (by decide +kernel) rfl rfl rfl (by decide +kernel)
set_option maxRecDepth 65536 in
theorem w_c16 : (Jvm.Cond.code ({ cls := "java/lang/Long", name := "getChars", desc := "(JI[B)I" } : Jvm.MethodName) jdk_35_method_14_code (11 : Nat) (Option.some Jvm.ClassFile.FieldType.int)).before args0 about1 = true := code_word (m := ⟨15, 1⟩) (meth := k15m1) (c := k15c1) (by decide +kernel) rfl rfl rfl (by decide +kernel)
set_option maxRecDepth 65536 in
theorem w_c17 : (Jvm.Cond.code ({ cls := "java/lang/String", name := "<init>", desc := "([BB)V" } : Jvm.MethodName) jdk_42_method_151_code (3 : Nat) (Option.none : Option Jvm.ClassFile.FieldType)).before args0 about1 = true := code_word (m := ⟨12, 7⟩) (meth := k12m7) (c := k12c7) (by decide +kernel) rfl rfl rfl (by decide +kernel)
set_option maxRecDepth 65536 in
theorem w_c18 : (Jvm.Cond.code ({ cls := "java/lang/Math", name := "max", desc := "(II)I" } : Jvm.MethodName) jdk_29_method_65_code (2 : Nat) (Option.some Jvm.ClassFile.FieldType.int)).before args0 about1 = true := code_word (m := ⟨17, 1⟩) (meth := k17m1) (c := k17c1) (by decide +kernel) rfl rfl rfl (by decide +kernel)
set_option maxRecDepth 65536 in
theorem w_c19 : (Jvm.Cond.code ({ cls := "java/lang/String", name := "repeat", desc := "(I)Ljava/lang/String;" } : Jvm.MethodName) jdk_42_method_145_code (5 : Nat) (Option.some (Jvm.ClassFile.FieldType.object "java/lang/String"))).before args0 about1 = true := code_word (m := ⟨12, 4⟩) (meth := k12m4) (c := k12c4) (by decide +kernel) rfl rfl rfl (by decide +kernel)
set_option maxRecDepth 65536 in
theorem w_c20 : (Jvm.Cond.code ({ cls := "java/util/Arrays", name := "fill", desc := "([BB)V" } : Jvm.MethodName) jdk_65_method_109_code (4 : Nat) (Option.none : Option Jvm.ClassFile.FieldType)).before args0 about1 = true := code_word (m := ⟨18, 1⟩) (meth := k18m1) (c := k18c1) (by decide +kernel) rfl rfl rfl (by decide +kernel)
set_option maxRecDepth 65536 in
theorem w_c21 : (Jvm.Cond.code ({ cls := "java/lang/StringBuilder", name := "toString", desc := "()Ljava/lang/String;" } : Jvm.MethodName) jdk_67_method_42_code (1 : Nat) (Option.some (Jvm.ClassFile.FieldType.object "java/lang/String"))).before args0 about1 = true := code_word (m := ⟨10, 2⟩) (meth := k10m2) (c := k10c2) (by decide +kernel) rfl rfl rfl (by decide +kernel)
set_option maxRecDepth 65536 in
theorem w_c22 : (Jvm.Cond.code ({ cls := "java/lang/String", name := "<init>", desc := "(Ljava/lang/StringBuilder;)V" } : Jvm.MethodName) jdk_42_method_53_code (2 : Nat) (Option.none : Option Jvm.ClassFile.FieldType)).before args0 about1 = true := code_word (m := ⟨12, 1⟩) (meth := k12m1) (c := k12c1) (by decide +kernel) rfl rfl rfl (by decide +kernel)
set_option maxRecDepth 65536 in
theorem w_c23 : (Jvm.Cond.code ({ cls := "java/lang/String", name := "<init>", desc := "(Ljava/lang/AbstractStringBuilder;Ljava/lang/Void;)V" } : Jvm.MethodName) jdk_42_method_150_code (5 : Nat) (Option.none : Option Jvm.ClassFile.FieldType)).before args0 about1 = true := code_word (m := ⟨12, 6⟩) (meth := k12m6) (c := k12c6) (by decide +kernel) rfl rfl rfl (by decide +kernel)
set_option maxRecDepth 65536 in
theorem w_c24 : (Jvm.Cond.code ({ cls := "java/lang/AbstractStringBuilder", name := "getValue", desc := "()[B" } : Jvm.MethodName) jdk_68_method_64_code (1 : Nat) (Option.some (Jvm.ClassFile.FieldType.array Jvm.ClassFile.FieldType.byte))).before args0 about1 = true := code_word (m := ⟨9, 5⟩) (meth := k9m5) (c := k9c5) (by decide +kernel) rfl rfl rfl (by decide +kernel)
set_option maxRecDepth 65536 in
theorem w_c25 : (Jvm.Cond.code ({ cls := "java/lang/StringBuilder", name := "length", desc := "()I" } : Jvm.MethodName) jdk_67_method_93_code (1 : Nat) (Option.some Jvm.ClassFile.FieldType.int)).before args0 about1 = true := code_word (m := ⟨10, 3⟩) (meth := k10m3) (c := k10c3) (by decide +kernel) rfl rfl rfl (by decide +kernel)
set_option maxRecDepth 65536 in
theorem w_c26 : (Jvm.Cond.code ({ cls := "java/lang/AbstractStringBuilder", name := "length", desc := "()I" } : Jvm.MethodName) jdk_68_method_6_code (1 : Nat) (Option.some Jvm.ClassFile.FieldType.int)).before args0 about1 = true := code_word (m := ⟨9, 2⟩) (meth := k9m2) (c := k9c2) (by decide +kernel) rfl rfl rfl (by decide +kernel)
set_option maxRecDepth 65536 in
theorem w_c27 : (Jvm.Cond.code ({ cls := "java/lang/AbstractStringBuilder", name := "isLatin1", desc := "()Z" } : Jvm.MethodName) jdk_68_method_68_code (1 : Nat) (Option.some Jvm.ClassFile.FieldType.boolean)).before args0 about1 = true := code_word (m := ⟨9, 6⟩) (meth := k9m6) (c := k9c6) (by decide +kernel) rfl rfl rfl (by decide +kernel)
set_option maxRecDepth 65536 in
theorem w_c28 : (Jvm.Cond.code ({ cls := "java/util/Arrays", name := "copyOfRange", desc := "([BII)[B" } : Jvm.MethodName) jdk_65_method_132_code (3 : Nat) (Option.some (Jvm.ClassFile.FieldType.array Jvm.ClassFile.FieldType.byte))).before args0 about1 = true := code_word (m := ⟨18, 3⟩) (meth := k18m3) (c := k18c3) (by decide +kernel) rfl rfl rfl (by decide +kernel)
set_option maxRecDepth 65536 in
theorem w_c29 : (Jvm.Cond.code ({ cls := "java/util/Arrays", name := "copyOfRangeByte", desc := "([BII)[B" } : Jvm.MethodName) jdk_65_method_133_code (5 : Nat) (Option.some (Jvm.ClassFile.FieldType.array Jvm.ClassFile.FieldType.byte))).before args0 about1 = true := code_word (m := ⟨18, 4⟩) (meth := k18m4) (c := k18c4) (by decide +kernel) rfl rfl rfl (by decide +kernel)
set_option maxRecDepth 65536 in
theorem w_c30 : (Jvm.Cond.code ({ cls := "java/util/Arrays", name := "checkLength", desc := "(II)V" } : Jvm.MethodName) jdk_65_method_131_code (2 : Nat) (Option.none : Option Jvm.ClassFile.FieldType)).before args0 about1 = true := code_word (m := ⟨18, 2⟩) (meth := k18m2) (c := k18c2) (by decide +kernel) rfl rfl rfl (by decide +kernel)
set_option maxRecDepth 65536 in
theorem w_c31 : (Jvm.Cond.code ({ cls := "java/lang/Math", name := "min", desc := "(II)I" } : Jvm.MethodName) jdk_29_method_69_code (2 : Nat) (Option.some Jvm.ClassFile.FieldType.int)).before args0 about1 = true := code_word (m := ⟨17, 2⟩) (meth := k17m2) (c := k17c2) (by decide +kernel) rfl rfl rfl (by decide +kernel)
set_option maxRecDepth 65536 in
theorem w_c32 : (Jvm.Cond.code ({ cls := "java/lang/String", name := "charAt", desc := "(I)C" } : Jvm.MethodName) jdk_42_method_56_code (2 : Nat) (Option.some Jvm.ClassFile.FieldType.char)).before args0 about1 = true := code_word (m := ⟨12, 3⟩) (meth := k12m3) (c := k12c3) (by decide +kernel) rfl rfl rfl (by decide +kernel)
set_option maxRecDepth 65536 in
theorem w_c33 : (Jvm.Cond.code ({ cls := "java/lang/String", name := "isLatin1", desc := "()Z" } : Jvm.MethodName) jdk_42_method_154_code (1 : Nat) (Option.some Jvm.ClassFile.FieldType.boolean)).before args0 about1 = true := code_word (m := ⟨12, 9⟩) (meth := k12m9) (c := k12c9) (by decide +kernel) rfl rfl rfl (by decide +kernel)
set_option maxRecDepth 65536 in
theorem w_c34 : (Jvm.Cond.code ({ cls := "java/lang/StringLatin1", name := "charAt", desc := "([BI)C" } : Jvm.MethodName) jdk_43_method_2_code (2 : Nat) (Option.some Jvm.ClassFile.FieldType.char)).before args0 about1 = true := code_word (m := ⟨19, 1⟩) (meth := k19m1) (c := k19c1) (by decide +kernel) rfl rfl rfl (by decide +kernel)
set_option maxRecDepth 65536 in
theorem w_c35 : (Jvm.Cond.code ({ cls := "java/lang/String", name := "checkIndex", desc := "(II)V" } : Jvm.MethodName) jdk_42_method_155_code (2 : Nat) (Option.none : Option Jvm.ClassFile.FieldType)).before args0 about1 = true := code_word (m := ⟨12, 10⟩) (meth := k12m10) (c := k12c10) (by decide +kernel) rfl rfl rfl (by decide +kernel)
set_option maxRecDepth 65536 in
theorem w_c36 : (Jvm.Cond.code ({ cls := "jdk/internal/util/Preconditions", name := "checkIndex", desc := "(IILjava/util/function/BiFunction;)I" } : Jvm.MethodName) jdk_41_method_11_code (3 : Nat) (Option.some Jvm.ClassFile.FieldType.int)).before args0 about1 = true := code_word (m := ⟨20, 1⟩) (meth := k20m1) (c := k20c1) (by decide +kernel) rfl rfl rfl (by decide +kernel)
set_option maxRecDepth 65536 in
theorem w_c37 : (Jvm.Cond.code ({ cls := "com/example/uketsuke/uketsuke/store/IdFormatFormatPinLaw", name := "digitAt", desc := "(Ljava/lang/String;IJJ)Z" } : Jvm.MethodName) method_3_code (7 : Nat) (Option.some Jvm.ClassFile.FieldType.boolean)).before args0 about1 = true := code_word (m := ⟨1, 2⟩) (meth := k1m2) (c := k1c2) (by decide +kernel) rfl rfl rfl (by decide +kernel)
def codes1 : List Jvm.Cond := [Jvm.Cond.code x code maxLocals ret, Jvm.Cond.code ({ cls := "com/example/uketsuke/uketsuke/store/IdFormat", name := "format", desc := "(J)Ljava/lang/String;" } : Jvm.MethodName) prog_10_method_4_code (3 : Nat) (Option.some (Jvm.ClassFile.FieldType.object "java/lang/String")), Jvm.Cond.code ({ cls := "java/lang/StringBuilder", name := "<init>", desc := "()V" } : Jvm.MethodName) jdk_67_method_1_code (1 : Nat) (Option.none : Option Jvm.ClassFile.FieldType), Jvm.Cond.code ({ cls := "java/lang/AbstractStringBuilder", name := "<init>", desc := "(I)V" } : Jvm.MethodName) jdk_68_method_2_code (2 : Nat) (Option.none : Option Jvm.ClassFile.FieldType), Jvm.Cond.code ({ cls := "java/lang/Object", name := "<init>", desc := "()V" } : Jvm.MethodName) object_method_1_code (1 : Nat) (Option.none : Option Jvm.ClassFile.FieldType), Jvm.Cond.code ({ cls := "java/lang/StringBuilder", name := "append", desc := "(Ljava/lang/String;)Ljava/lang/StringBuilder;" } : Jvm.MethodName) jdk_67_method_7_code (2 : Nat) (Option.some (Jvm.ClassFile.FieldType.object "java/lang/StringBuilder")), Jvm.Cond.code ({ cls := "java/lang/AbstractStringBuilder", name := "append", desc := "(Ljava/lang/String;)Ljava/lang/AbstractStringBuilder;" } : Jvm.MethodName) jdk_68_method_22_code (3 : Nat) (Option.some (Jvm.ClassFile.FieldType.object "java/lang/AbstractStringBuilder")), Jvm.Cond.code ({ cls := "java/lang/String", name := "length", desc := "()I" } : Jvm.MethodName) jdk_42_method_54_code (1 : Nat) (Option.some Jvm.ClassFile.FieldType.int), Jvm.Cond.code ({ cls := "java/lang/String", name := "coder", desc := "()B" } : Jvm.MethodName) jdk_42_method_152_code (1 : Nat) (Option.some Jvm.ClassFile.FieldType.byte), Jvm.Cond.code ({ cls := "java/lang/AbstractStringBuilder", name := "ensureCapacityInternal", desc := "(I)V" } : Jvm.MethodName) jdk_68_method_9_code (3 : Nat) (Option.none : Option Jvm.ClassFile.FieldType), Jvm.Cond.code ({ cls := "java/lang/AbstractStringBuilder", name := "putStringAt", desc := "(ILjava/lang/String;)V" } : Jvm.MethodName) jdk_68_method_73_code (3 : Nat) (Option.none : Option Jvm.ClassFile.FieldType), Jvm.Cond.code ({ cls := "java/lang/AbstractStringBuilder", name := "inflateIfNeededFor", desc := "(Ljava/lang/String;)V" } : Jvm.MethodName) jdk_68_method_71_code (2 : Nat) (Option.none : Option Jvm.ClassFile.FieldType), Jvm.Cond.code ({ cls := "java/lang/String", name := "getBytes", desc := "([BIB)V" } : Jvm.MethodName) jdk_42_method_147_code (4 : Nat) (Option.none : Option Jvm.ClassFile.FieldType), Jvm.Cond.code ({ cls := "com/example/uketsuke/uketsuke/store/IdFormat", name := "digits", desc := "(JI)Ljava/lang/String;" } : Jvm.MethodName) prog_10_method_5_code (4 : Nat) (Option.some (Jvm.ClassFile.FieldType.object "java/lang/String")), Jvm.Cond.code ({ cls := "java/lang/Long", name := "toString", desc := "(J)Ljava/lang/String;" } : Jvm.MethodName) jdk_35_method_12_code (4 : Nat) (Option.some (Jvm.ClassFile.FieldType.object "java/lang/String")), Jvm.Cond.code ({ cls := "java/lang/Long", name := "stringSize", desc := "(J)I" } : Jvm.MethodName) jdk_35_method_15_code (6 : Nat) (Option.some Jvm.ClassFile.FieldType.int), Jvm.Cond.code ({ cls := "java/lang/Long", name := "getChars", desc := "(JI[B)I" } : Jvm.MethodName) jdk_35_method_14_code (11 : Nat) (Option.some Jvm.ClassFile.FieldType.int), Jvm.Cond.code ({ cls := "java/lang/String", name := "<init>", desc := "([BB)V" } : Jvm.MethodName) jdk_42_method_151_code (3 : Nat) (Option.none : Option Jvm.ClassFile.FieldType), Jvm.Cond.code ({ cls := "java/lang/Math", name := "max", desc := "(II)I" } : Jvm.MethodName) jdk_29_method_65_code (2 : Nat) (Option.some Jvm.ClassFile.FieldType.int), Jvm.Cond.code ({ cls := "java/lang/String", name := "repeat", desc := "(I)Ljava/lang/String;" } : Jvm.MethodName) jdk_42_method_145_code (5 : Nat) (Option.some (Jvm.ClassFile.FieldType.object "java/lang/String")), Jvm.Cond.code ({ cls := "java/util/Arrays", name := "fill", desc := "([BB)V" } : Jvm.MethodName) jdk_65_method_109_code (4 : Nat) (Option.none : Option Jvm.ClassFile.FieldType), Jvm.Cond.code ({ cls := "java/lang/StringBuilder", name := "toString", desc := "()Ljava/lang/String;" } : Jvm.MethodName) jdk_67_method_42_code (1 : Nat) (Option.some (Jvm.ClassFile.FieldType.object "java/lang/String")), Jvm.Cond.code ({ cls := "java/lang/String", name := "<init>", desc := "(Ljava/lang/StringBuilder;)V" } : Jvm.MethodName) jdk_42_method_53_code (2 : Nat) (Option.none : Option Jvm.ClassFile.FieldType), Jvm.Cond.code ({ cls := "java/lang/String", name := "<init>", desc := "(Ljava/lang/AbstractStringBuilder;Ljava/lang/Void;)V" } : Jvm.MethodName) jdk_42_method_150_code (5 : Nat) (Option.none : Option Jvm.ClassFile.FieldType), Jvm.Cond.code ({ cls := "java/lang/AbstractStringBuilder", name := "getValue", desc := "()[B" } : Jvm.MethodName) jdk_68_method_64_code (1 : Nat) (Option.some (Jvm.ClassFile.FieldType.array Jvm.ClassFile.FieldType.byte)), Jvm.Cond.code ({ cls := "java/lang/StringBuilder", name := "length", desc := "()I" } : Jvm.MethodName) jdk_67_method_93_code (1 : Nat) (Option.some Jvm.ClassFile.FieldType.int), Jvm.Cond.code ({ cls := "java/lang/AbstractStringBuilder", name := "length", desc := "()I" } : Jvm.MethodName) jdk_68_method_6_code (1 : Nat) (Option.some Jvm.ClassFile.FieldType.int), Jvm.Cond.code ({ cls := "java/lang/AbstractStringBuilder", name := "isLatin1", desc := "()Z" } : Jvm.MethodName) jdk_68_method_68_code (1 : Nat) (Option.some Jvm.ClassFile.FieldType.boolean), Jvm.Cond.code ({ cls := "java/util/Arrays", name := "copyOfRange", desc := "([BII)[B" } : Jvm.MethodName) jdk_65_method_132_code (3 : Nat) (Option.some (Jvm.ClassFile.FieldType.array Jvm.ClassFile.FieldType.byte)), Jvm.Cond.code ({ cls := "java/util/Arrays", name := "copyOfRangeByte", desc := "([BII)[B" } : Jvm.MethodName) jdk_65_method_133_code (5 : Nat) (Option.some (Jvm.ClassFile.FieldType.array Jvm.ClassFile.FieldType.byte)), Jvm.Cond.code ({ cls := "java/util/Arrays", name := "checkLength", desc := "(II)V" } : Jvm.MethodName) jdk_65_method_131_code (2 : Nat) (Option.none : Option Jvm.ClassFile.FieldType), Jvm.Cond.code ({ cls := "java/lang/Math", name := "min", desc := "(II)I" } : Jvm.MethodName) jdk_29_method_69_code (2 : Nat) (Option.some Jvm.ClassFile.FieldType.int), Jvm.Cond.code ({ cls := "java/lang/String", name := "charAt", desc := "(I)C" } : Jvm.MethodName) jdk_42_method_56_code (2 : Nat) (Option.some Jvm.ClassFile.FieldType.char), Jvm.Cond.code ({ cls := "java/lang/String", name := "isLatin1", desc := "()Z" } : Jvm.MethodName) jdk_42_method_154_code (1 : Nat) (Option.some Jvm.ClassFile.FieldType.boolean), Jvm.Cond.code ({ cls := "java/lang/StringLatin1", name := "charAt", desc := "([BI)C" } : Jvm.MethodName) jdk_43_method_2_code (2 : Nat) (Option.some Jvm.ClassFile.FieldType.char), Jvm.Cond.code ({ cls := "java/lang/String", name := "checkIndex", desc := "(II)V" } : Jvm.MethodName) jdk_42_method_155_code (2 : Nat) (Option.none : Option Jvm.ClassFile.FieldType), Jvm.Cond.code ({ cls := "jdk/internal/util/Preconditions", name := "checkIndex", desc := "(IILjava/util/function/BiFunction;)I" } : Jvm.MethodName) jdk_41_method_11_code (3 : Nat) (Option.some Jvm.ClassFile.FieldType.int), Jvm.Cond.code ({ cls := "com/example/uketsuke/uketsuke/store/IdFormatFormatPinLaw", name := "digitAt", desc := "(Ljava/lang/String;IJJ)Z" } : Jvm.MethodName) method_3_code (7 : Nat) (Option.some Jvm.ClassFile.FieldType.boolean)]
set_option maxRecDepth 65536 in
theorem codes_eq : words1.filter isCode = codes1 := rfl
theorem w_codes : ∀ c ∈ words1.filter isCode, c.before args0 about1 = true := by
  rw [codes_eq]
  intro c hc
  simp only [codes1, List.mem_cons, List.not_mem_nil, or_false] at hc
  rcases hc with rfl | rfl | rfl | rfl | rfl | rfl | rfl | rfl | rfl | rfl | rfl | rfl | rfl | rfl | rfl | rfl | rfl | rfl | rfl | rfl | rfl | rfl | rfl | rfl | rfl | rfl | rfl | rfl | rfl | rfl | rfl | rfl | rfl | rfl | rfl | rfl | rfl | rfl
  · exact w_c0
  · exact w_c1
  · exact w_c2
  · exact w_c3
  · exact w_c4
  · exact w_c5
  · exact w_c6
  · exact w_c7
  · exact w_c8
  · exact w_c9
  · exact w_c10
  · exact w_c11
  · exact w_c12
  · exact w_c13
  · exact w_c14
  · exact w_c15
  · exact w_c16
  · exact w_c17
  · exact w_c18
  · exact w_c19
  · exact w_c20
  · exact w_c21
  · exact w_c22
  · exact w_c23
  · exact w_c24
  · exact w_c25
  · exact w_c26
  · exact w_c27
  · exact w_c28
  · exact w_c29
  · exact w_c30
  · exact w_c31
  · exact w_c32
  · exact w_c33
  · exact w_c34
  · exact w_c35
  · exact w_c36
  · exact w_c37
set_option maxRecDepth 65536 in
theorem w_t1 : (words1.take 24).all (fun c => isCode c || c.before args0 about1) = true := by decide +kernel
set_option maxRecDepth 65536 in
theorem w_t2 : ((words1.drop 24).take 24).all (fun c => isCode c || c.before args0 about1) = true := by decide +kernel
set_option maxRecDepth 65536 in
theorem w_t3 : (((words1.drop 24).drop 24).take 24).all (fun c => isCode c || c.before args0 about1) = true := by decide +kernel
set_option maxRecDepth 65536 in
theorem w_t4 : ((((words1.drop 24).drop 24).drop 24).take 24).all (fun c => isCode c || c.before args0 about1) = true := by decide +kernel
set_option maxRecDepth 65536 in
theorem w_t5 : (((((words1.drop 24).drop 24).drop 24).drop 24).take 24).all (fun c => isCode c || c.before args0 about1) = true := by decide +kernel
set_option maxRecDepth 65536 in
theorem w_t6 : ((((((words1.drop 24).drop 24).drop 24).drop 24).drop 24).take 24).all (fun c => isCode c || c.before args0 about1) = true := by decide +kernel
set_option maxRecDepth 65536 in
theorem w_t7 : (((((((words1.drop 24).drop 24).drop 24).drop 24).drop 24).drop 24).take 24).all (fun c => isCode c || c.before args0 about1) = true := by decide +kernel
set_option maxRecDepth 65536 in
theorem w_t8 : ((((((((words1.drop 24).drop 24).drop 24).drop 24).drop 24).drop 24).drop 24).take 24).all (fun c => isCode c || c.before args0 about1) = true := by decide +kernel
set_option maxRecDepth 65536 in
theorem w_t9 : (((((((((words1.drop 24).drop 24).drop 24).drop 24).drop 24).drop 24).drop 24).drop 24).take 24).all (fun c => isCode c || c.before args0 about1) = true := by decide +kernel
set_option maxRecDepth 65536 in
theorem w_t10 : (((((((((words1.drop 24).drop 24).drop 24).drop 24).drop 24).drop 24).drop 24).drop 24).drop 24).all (fun c => isCode c || c.before args0 about1) = true := by decide +kernel
theorem w_tables : (allAtoms (Jvm.Cond.code x code maxLocals ret :: tables_1)).before args0 about1 = true := by
  rw [allAtoms_all]
  show words1.all (fun c => c.before args0 about1) = true
  refine all_split ?_ w_codes
  rw [← List.take_append_drop 24 words1, List.all_append, w_t1, ← List.take_append_drop 24 (words1.drop 24), List.all_append, w_t2, ← List.take_append_drop 24 ((words1.drop 24).drop 24), List.all_append, w_t3, ← List.take_append_drop 24 (((words1.drop 24).drop 24).drop 24), List.all_append, w_t4, ← List.take_append_drop 24 ((((words1.drop 24).drop 24).drop 24).drop 24), List.all_append, w_t5, ← List.take_append_drop 24 (((((words1.drop 24).drop 24).drop 24).drop 24).drop 24), List.all_append, w_t6, ← List.take_append_drop 24 ((((((words1.drop 24).drop 24).drop 24).drop 24).drop 24).drop 24), List.all_append, w_t7, ← List.take_append_drop 24 (((((((words1.drop 24).drop 24).drop 24).drop 24).drop 24).drop 24).drop 24), List.all_append, w_t8, ← List.take_append_drop 24 ((((((((words1.drop 24).drop 24).drop 24).drop 24).drop 24).drop 24).drop 24).drop 24), List.all_append, w_t9, w_t10]
  rfl
set_option maxRecDepth 65536 in
theorem w_rest : rest_1_c.before args0 about1 = true := by decide +kernel
set_option maxRecDepth 65536 in
theorem w_case : (Jvm.Cond.and given_1 narrow_1).before args0 about1 = true := by decide +kernel
set_option maxRecDepth 65536 in
theorem w_consts : constsHeld consts_1 about1 := Jvm.Lit.constsHeldB_iff.mp (by decide +kernel)
theorem w_applies : (headSpec (Jvm.Cond.code x code maxLocals ret :: tables_1) room_1).applies x e0.platform about1 = true :=
  (Spec.applies_iff w_frames).mpr ⟨w_running, w_runnable, w_alone, w_named, w_hears, w_ripe, w_room, w_tables⟩
theorem atStart : AtStart classFile x code maxLocals ret World_1 tables_1 room_1 Calls_1 rest_1 Pre_1 launch0 p0 e0 about1 theMethod args0 below0 :=
  ⟨lists_1, trivial, launch0.admits_env _ _ _, launch0.least_env, fairChoices_fair.cas, fairChoices_fair.clock, w_frames, w_args, w_heap, w_applies, ⟨w_consts, trivial⟩, w_rest, w_case⟩
end start1
theorem witness_1 : WitnessClaimed_1 := ⟨start1.p0, start1.e0, start1.about1, start1.theMethod, start1.args0, start1.below0, start1.atStart⟩
end Jvm.Pilot.@@N@@

import JvmDerived
import JvmDerived.Pilot.@@N@@Statement
import JvmDerived.Pilot.@@N@@Code
set_option linter.unusedVariables false
set_option linter.unusedSimpArgs false
@@BLOCK:NumsL.lean.txt@@
@@BLOCK:SetKit.lean.txt@@
namespace Jvm.RoadKit
open Sem ClassFile Op Lib Jvm.Stand Jvm.Free Jvm.LawKit
section New
variable {p : Program} {l : Launch} {e : Env} {R : Room} {s : State} {m : MethodId} {args : Array Value} {below : List Frame} {meth : Method} {c : Code} {T : State} {locs : List Loc} {cells slots : Nat}
theorem retI (X : Stand p l e R s m args below meth c T locs cells slots) (hx : p.tables.exec = Jvm.exec) {pc : Nat} {Ls : Array Slot} {z : Int32} {rest : List Value} (hret : meth.sig.returnType = some .int) (hd : decode c.code pc = .ok (.ireturn, 1)) {fs : List Frame}
    (hl : ∀ (f : JFrame) (acts : List Action), f.method = m → f.locked = none → f.entered = [] → (doReturn e (T.setTop f) acts (some (.int z))).1 = T.setFrames fs) : Steps p.tables e below (T.setTop (mkF m pc Ls (.int z :: rest))) (T.setFrames fs) := by
  have hm' : T.vm.method? m = some meth := X.method'
  have hn : narrow .int (.int z) = .int z := rfl
  show Steps p.tables e below (T.setTop { method := m, pc := pc, locals := Ls, stack := _ :: rest, locked := none }) _
  jvm_step X.here [X.here.top, hx, hd, hm', hret, hn]
  first | (intro acts; rw [hl _ acts rfl rfl rfl]) | rw [hl _ _ rfl rfl rfl]
  exact Steps.refl _
end New
end Jvm.RoadKit
namespace Jvm.Pilot.@@N@@
open Jvm Jvm.ClassFile Sem Op Lib Jvm.Free Jvm.Stand Jvm.LawKit Jvm.RoadKit Bundle Jvm.Pilot.@@N@@.Jvm.D
/-- every run from the state T with the frame f on top is a run from s0 with f0 -/
def GoTo (tb : Tables) (e : Env) (below : List Frame) (s0 : State) (f0 : JFrame) (T : State) (f : JFrame) : Prop := ∀ t, Steps tb e below (T.setTop f) t → Steps tb e below (s0.setTop f0) t
theorem own_cI (x : Int32) : (Value.int x).category = 1 := rfl
theorem own_cJ (x : Int64) : (Value.long x).category = 2 := rfl
theorem own_cR (x : Addr) : (Value.ref x).category = 1 := rfl
theorem own_cN : Value.null.category = 1 := rfl
theorem own_zlt {Z : State} {n0 : Nat} {h : Heap} {a : Addr} (O : Old Z n0 h) (q : a < Z.heap.size) : a < n0 := O.1 ▸ q
theorem own_selfSel {s : State} {args : Array Value} {C : String} {y : MethodName} (hsel : (Cond.selects C y y).before args s = true) (hpriv : s.PrivateAt y) (hinst : (Cond.instanceMethod y).before args s = true) (hy : y.cls ≠ "java/lang/invoke/MethodHandle" ∧ y.cls ≠ "java/lang/invoke/VarHandle") : (Cond.selects y.cls y y).before args s = true := by
  obtain ⟨c2, r2, m2, -, -, q3, -, kP, hkP, hkPi⟩ := Cond.selects_spec hsel
  exact selects_self_of_private (findClass_of_methodNamed q3) hkP hkPi hpriv hinst hy
theorem own_sameSelf {s : State} {args : Array Value} {C : String} {y z : MethodName} (hsel : (Cond.selects C z z).before args s = true) (hzy : z.cls = y.cls) (hinst : (Cond.instanceMethod y).before args s = true) (hy : y.cls ≠ "java/lang/invoke/MethodHandle" ∧ y.cls ≠ "java/lang/invoke/VarHandle") : (Cond.sameMethod y.cls y.cls y.name y.desc).before args s = true := by
  obtain ⟨c2, r2, m2, -, -, q3, -, kP, hkP, hkPi⟩ := Cond.selects_spec hsel
  obtain ⟨mk, methM, hnamed, hmethM, -, -⟩ := Cond.instanceMethod_spec hinst
  have h1 := findClass_of_methodNamed q3
  have h2 := findClass_of_methodNamed hnamed
  rw [hzy] at h1
  have hcls : mk.cls = m2.cls := Option.some.inj (h2.symm.trans h1)
  have hf := State.methodFound?_of_named hnamed hy
  obtain ⟨yc, yn, yd⟩ := y
  dsimp only at h1 h2 hf ⊢
  simp only [Cond.before, Cond.holds, Cond.value, h2, hf, hnamed, hcls, hkP]
  simp [hkPi]
theorem own_notFace {s : State} {args : Array Value} {C : String} {x y z : MethodName} (hsel : (Cond.selects C x z).before args s = true) (hzy : z.cls = y.cls) : NotFace s y := fun r0 h0 => by
  obtain ⟨c2, r2, m2, -, -, q3, -, kP, hkP, hkPi⟩ := Cond.selects_spec hsel
  have h1 := findClass_of_methodNamed q3
  rw [hzy] at h1
  have h2 := findClass_of_methodNamed h0
  have e : m2.cls = r0.cls := Option.some.inj (h1.symm.trans h2)
  exact ⟨kP, e ▸ hkP, hkPi⟩
theorem own_le {Z : State} {n0 : Nat} {h : Heap} (O : Old Z n0 h) : n0 ≤ h.size := O.1 ▸ O.2.1
theorem own_mono {p : Program} {l : Launch} {e : Env} {R : Room} {s : State} {m : MethodId} {args : Array Value} {below : List Frame} {meth : Method} {c : Code} {T : State} {locs : List Loc} {cells slots cells' slots' : Nat} (X : Stand p l e R s m args below meth c T locs cells slots) (h1 : cells ≤ cells') (h2 : slots ≤ slots') : Stand p l e R s m args below meth c T locs cells' slots' := { X with same := X.same.mono h1 h2 }
theorem own_NSroot {Z : State} {a0 : Array Value} {O K : String} {n : Nat} (w : (Jvm.Cond.noSuperclass O).before a0 Z = true) (wk : (Jvm.Cond.instantiable K n).before a0 Z = true) (hn : O ≠ K) : NS Z O K := by
  obtain ⟨c, k, h1, h2, h3, -, -⟩ := Cond.noSuperclass_spec w
  obtain ⟨t, k2, g1, -⟩ := Cond.instantiable_spec wk
  have ne := ids_ne h1 g1 hn
  refine ⟨c, t, h1, g1, fun fuel => ?_⟩
  cases fuel with
  | zero => rfl
  | succ f => simp [Vm.isSubclassAux, ne, h2, h3]
theorem own_NSno {Z : State} {a0 : Array Value} {C S K : String} {n : Nat} (w : (Jvm.Cond.superclass C S).before a0 Z = true) (wk : (Jvm.Cond.instantiable K n).before a0 Z = true) (nn : NS Z C K) (hn : C ≠ K) : ∃ c t, Z.vm.findClass C = some c ∧ Z.vm.findClass K = some t ∧ Z.vm.assignable c t = false := by
  obtain ⟨c, t, h0, g0, n3⟩ := nn
  obtain ⟨p, k, kp, h1, h2, h3, h4, h5, -, h7⟩ := Cond.superclass_spec h0 w
  obtain ⟨t', k', g1, g2, g5, g7, -⟩ := Cond.instantiable_spec wk
  cases g0.symm.trans g1
  have ne := ids_ne h0 g0 hn
  refine ⟨c, t, h0, g0, ?_⟩
  show Z.vm.assignableAux (255 + 1) c t = false
  have g8 : k'.isInterface = false := (Bool.or_eq_false_iff.mp g7).1
  simp [Vm.assignableAux, ne, h2, g2, h5, g5, g8, Vm.isSubclass, n3]
def own_Mir (Z : State) (C : String) (m : Addr) : Prop := ∃ (c : ClassId) (k : Class), Z.vm.findClass C = some c ∧ Z.vm.classes[c]? = some k ∧ k.mirror = some m
theorem own_mir {Z s : State} {C : String} {mr : Addr} {args : Array Value} (hZ : Z.Warmed39 s.vm) (M : own_Mir Z C mr) : (Term.mirror C).eval args s none [] s = some (.ref mr) := by
  obtain ⟨c, k, m1, m2, m3⟩ := M
  obtain ⟨k', q, ek⟩ := hZ.alike.2.2 _ _ m2
  have h1 : s.vm.findClass C = some c := by rw [hZ.alike.findClass]; exact m1
  have h2 : k'.mirror = some mr := by rw [ek]; exact m3
  simp [Term.eval, h1, q, h2]
theorem own_gcls {p : Program} {l : Launch} {e : Env} {R : Room} {s : State} {m : MethodId} {args : Array Value} {below : List Frame} {meth : Method} {c : Code} {T : State} {locs : List Loc} {cells slots : Nat} {Z : State} {h : Heap} {a : Addr} (X : Stand p l e R s m args below meth c T locs cells slots) (hx : p.tables.exec = Jvm.exec) (hZ : Z.Warmed39 s.vm) {a0 : Array Value} {own C : String} {index : Nat} (hown : s.vm.findClass own = some m.cls)
    (w1 : (Jvm.Cond.methodLink own index ⟨"java/lang/Object", "getClass", "()Ljava/lang/Class;"⟩).before a0 Z = true) (w2 : (Jvm.Cond.declares ⟨"java/lang/Object", "getClass", "()Ljava/lang/Class;"⟩).before a0 Z = true) (w3 : (Jvm.Cond.noSuperclass "java/lang/Object").before a0 Z = true) (w4 : (Jvm.Cond.selects C ⟨"java/lang/Object", "getClass", "()Ljava/lang/Class;"⟩ ⟨"java/lang/Object", "getClass", "()Ljava/lang/Class;"⟩).before a0 Z = true)
    (w5 : (Jvm.Cond.instanceMethod ⟨"java/lang/Object", "getClass", "()Ljava/lang/Class;"⟩).before a0 Z = true) (w6 : (Jvm.Cond.native ⟨"java/lang/Object", "getClass", "()Ljava/lang/Class;"⟩).before a0 Z = true) (eT : T.heap = h) (E : Exa Z h a C) {mr : Addr} (M : own_Mir Z C mr)
    {g : JFrame} (hg : g.method = m) (hsize : g.locals.size = c.maxLocals) {rest : List Value} (hs : g.stack = .ref a :: rest) (hd : decode c.code g.pc = .ok (.invokevirtual index, 3)) (hf : 1 ≤ R.frames) {W : Nat} (hW : 2 * g.monitorRoom + (rest.map fun v => v.category).sum ≤ W) (hl : W + (nativeFrameWords "java/lang/Object" "getClass" 1 + 11) ≤ R.locals) :
    ∃ T', Stand p l e R s m args below meth c T' locs cells slots ∧ T'.heap = h ∧ ∀ target, Steps p.tables e below (T'.setTop { g with pc := g.pc + 3, stack := .ref mr :: rest }) target → Steps p.tables e below (T.setTop g) target := by
  obtain ⟨cB, kB, i1, i2, i3⟩ := isOf hZ eT E
  obtain ⟨cc, kc, m1, m2, m3⟩ := M
  have j1 : s.vm.findClass C = some cc := by rw [hZ.alike.findClass]; exact m1
  obtain rfl : cc = cB := Option.some.inj (j1.symm.trans i1)
  obtain ⟨k', q, ek⟩ := hZ.alike.2.2 _ _ m2
  obtain ⟨vm', X', st⟩ := X.getClassOf hx hown (mvT hZ w1) (mvT hZ w2) (nf_top (args := #[]) (mvT hZ w3)) (mvT hZ w4) (mvT hZ w5) (mvT hZ w6) j1 i3 q (by rw [ek]; exact m3) hg hsize hs hd hf (by omega)
  exact ⟨_, X', eT, st⟩
theorem own_cat {v : Value} (h : v.isRef = true) : v.category = 1 := by cases v <;> simp_all [Value.isRef, Value.category]
theorem own_fits_ref {ty : FieldType} {v : Value} (ht : refKind ty = true) (h : v.isRef = true) : fits ty v = true := by cases ty <;> cases v <;> simp_all [refKind, fits, Value.isRef]
theorem own_all0 : ∀ c ∈ ([] : List Int32), ¬ c < 0 ∧ ¬ (255 : Int32) < c := fun _ q => nomatch q
theorem own_allC {a : Int32} {L : List Int32} (h : ¬ a < 0 ∧ ¬ (255 : Int32) < a) (r : ∀ c ∈ L, ¬ c < 0 ∧ ¬ (255 : Int32) < c) : ∀ c ∈ a :: L, ¬ c < 0 ∧ ¬ (255 : Int32) < c := fun x z => (List.mem_cons.mp z).elim (fun u => u ▸ h) (r x)
theorem own_up {cs : List Int32} (h : ∀ c ∈ cs, ¬ c < 0 ∧ ¬ (255 : Int32) < c) : ∀ c ∈ cs, ¬ c < 0 ∧ ¬ (65535 : Int32) < c := fun c hc => ⟨(h c hc).1, fun q => (h c hc).2 (by rw [Int32.lt_iff_toInt_lt] at q ⊢; have e1 : (65535 : Int32).toInt = 65535 := rfl; have e2 : (255 : Int32).toInt = 255 := rfl; omega)⟩
theorem own_chr (x : Int32) {z : Int32} (h : z = ((x &&& (255 : Int32)).toUInt32.toUInt16.toUInt32.toInt32)) : (¬ z < 0 ∧ ¬ (255 : Int32) < z) ∧ nar .char z = z := by
  subst h
  rw [i2c_mask]
  have h1 : (x &&& (255 : Int32)).toInt = x.toInt % 2 ^ 8 := Jvm.Kit.i32_mask x 255 (k := 8) (by decide) (by decide)
  have e0 : (0 : Int32).toInt = 0 := by decide
  have e1 : (255 : Int32).toInt = 255 := by decide
  refine ⟨⟨?_, ?_⟩, i2c_mask x⟩ <;> rw [Int32.lt_iff_toInt_lt] <;> omega
theorem own_eqv {v : Option Value} {cs ds : List Int32} (h : (v = some (.int 1) ∧ cs = ds) ∨ (v = some (.int 0) ∧ ¬ cs = ds)) : v = some (.int (if cs = ds then (1 : Int32) else 0)) := by
  rcases h with ⟨rfl, h⟩ | ⟨rfl, h⟩
  · rw [if_pos h]
  · rw [if_neg h]
section OwnStr
variable {Z : State} {h h' : Heap} {x t a : Addr} {kb : ClassId} {cs : List Int32} {sl : Nat} {v : Value} {ws : List Addr}
/-- the String at x, her byte[] at t, spells cs -/
def own_Str (Z : State) (h : Heap) (x t : Addr) (kb : ClassId) (cs : List Int32) : Prop :=
  Exa Z h x "java/lang/String" ∧ Fld Z h x "java/lang/String" "value" "[B" (.ref t) ∧ Fld Z h x "java/lang/String" "coder" "B" (.int 0) ∧ Arv Z h t kb .byte (Int32.ofNat cs.length) ((cs.map fun c => c.toInt8.toInt32).map Value.int) (.int 0) ∧ (∀ c ∈ cs, ¬ c < 0 ∧ ¬ (255 : Int32) < c) ∧ cs.length ≤ 4000
theorem own_Str.ext (F : own_Str Z h x t kb cs) (E : Ext h h') : own_Str Z h' x t kb cs := ⟨F.1.ext E, F.2.1.ext E, F.2.2.1.ext E, F.2.2.2.1.ext E, F.2.2.2.2⟩
theorem own_Str.keep (F : own_Str Z h x t kb cs) (K : Keep h h' ws) (q : x ∉ ws) (r : t ∉ ws) : own_Str Z h' x t kb cs := ⟨F.1.keep K, F.2.1.keep K q, F.2.2.1.keep K q, F.2.2.2.1.keep K r, F.2.2.2.2⟩
theorem own_Str.other (F : own_Str Z h x t kb cs) (W : Wr h h' a sl v) (q : x ≠ a) (r : t ≠ a) : own_Str Z h' x t kb cs := ⟨F.1.wr W, F.2.1.other W (Or.inl q), F.2.2.1.other W (Or.inl q), F.2.2.2.1.other W r, F.2.2.2.2⟩
/-- null, or a String -/
def own_NS (Z : State) (h : Heap) (v : Value) : Prop := v = .null ∨ ∃ a, v = .ref a ∧ Exa Z h a "java/lang/String"
theorem own_NS.ref (F : own_NS Z h v) : v.isRef = true := by rcases F with rfl | ⟨a, rfl, -⟩ <;> rfl
theorem own_NS.ext (F : own_NS Z h v) (E : Ext h h') : own_NS Z h' v := F.imp id fun ⟨a, e, X⟩ => ⟨a, e, X.ext E⟩
theorem own_NS.wr {w : Value} (F : own_NS Z h v) (W : Wr h h' a sl w) : own_NS Z h' v := F.imp id fun ⟨a, e, X⟩ => ⟨a, e, X.wr W⟩
theorem own_NS.keep (F : own_NS Z h v) (K : Keep h h' ws) : own_NS Z h' v := F.imp id fun ⟨a, e, X⟩ => ⟨a, e, X.keep K⟩
end OwnStr
theorem own_nat {n : Nat} (h : n ≤ 1000000) : (Int32.ofNat n).toInt = n := Int32.toInt_ofNat_small (by omega)
theorem own_ofint {x : Int32} {n : Nat} (hn : n ≤ 1000000) (h : x.toInt = n) : x = Int32.ofNat n := Int32.toInt_inj.mp (by rw [h, own_nat hn])
theorem own_addN {a b : Nat} : Int32.ofNat a + Int32.ofNat b = Int32.ofNat (a + b) := (Int32.ofNat_add a b).symm
theorem own_subN {a b : Nat} (h : b ≤ a) : Int32.ofNat a - Int32.ofNat b = Int32.ofNat (a - b) := (Int32.ofNat_sub a b h).symm
theorem own_ltN {a b : Nat} (ha : a ≤ 1000000) (hb : b ≤ 1000000) : Int32.ofNat a < Int32.ofNat b ↔ a < b := by rw [Int32.lt_iff_toInt_lt, own_nat ha, own_nat hb]; omega
theorem own_eqN {a b : Nat} (ha : a ≤ 1000000) (hb : b ≤ 1000000) : Int32.ofNat a = Int32.ofNat b ↔ a = b := ⟨fun h => by have := congrArg Int32.toInt h; rw [own_nat ha, own_nat hb] at this; omega, fun h => by rw [h]⟩
theorem own_posN {a b : Nat} (ha : a ≤ 1000000) (hb : b ≤ 1000000) : (0 : Int32) < Int32.ofNat a - Int32.ofNat b ↔ b < a := by
  rw [Int32.lt_iff_toInt_lt, Int32.toInt_sub, own_nat ha, own_nat hb, Int.bmod_eq_of_le (by omega) (by omega), show (0 : Int32).toInt = 0 from rfl]; omega
theorem own_negN {a : Nat} (ha : a ≤ 1000000) : ¬ Int32.ofNat a < 0 := by rw [Int32.lt_iff_toInt_lt, own_nat ha, show (0 : Int32).toInt = 0 from rfl]; omega
theorem own_clamp {a : Nat} (ha : a ≤ 1000000) : (Int32.ofNat a).toNatClampNeg = a := by
  have h := own_nat ha
  unfold Int32.toNatClampNeg; rw [h]; rfl
theorem own_shr0 (x : Int32) : (x >>> ((0 : Int32) &&& 31)) = x := by
  apply Int32.toBitVec_inj.mp
  simp
theorem own_shl0 (x : Int32) : (x <<< ((0 : Int32) &&& 31)) = x := by
  apply Int32.toBitVec_inj.mp
  simp
theorem own_maxT {x y : Nat} (h : x < y) : some (Value.int (Int32.ofNat y)) = some (.int (Int32.ofNat (max x y))) := by rw [Nat.max_eq_right (Nat.le_of_lt h)]
theorem own_maxF {x y : Nat} (h : ¬ x < y) : some (Value.int (Int32.ofNat x)) = some (.int (Int32.ofNat (max x y))) := by rw [Nat.max_eq_left (Nat.le_of_not_lt h)]
theorem own_minT {x y : Nat} (h : y < x) : some (Value.int (Int32.ofNat y)) = some (.int (Int32.ofNat (min x y))) := by rw [Nat.min_eq_right (Nat.le_of_lt h)]
theorem own_minF {x y : Nat} (h : ¬ y < x) : some (Value.int (Int32.ofNat x)) = some (.int (Int32.ofNat (min x y))) := by rw [Nat.min_eq_left (Nat.le_of_not_lt h)]
section OwnSB
variable {Z : State} {h h' : Heap} {b d a : Addr} {kd : ClassId} {N M : Nat} {cs ds : List Int32} {sl : Nat} {v : Value} {ws : List Addr}
/-- the byte[] at d, of N places, begins with the bytes of cs -/
def own_By (Z : State) (h : Heap) (d : Addr) (kd : ClassId) (N : Nat) (cs : List Int32) : Prop :=
  Exa Z h d "[B" ∧ cs.length ≤ N ∧ N ≤ 1000000 ∧ ∃ vs : List Value, vs.length = N ∧ Arv Z h d kd .byte (Int32.ofNat N) vs (.int 0) ∧ ∀ i, i < cs.length → vs.getD i (.int 0) = .int ((cs.getD i 0).toInt8.toInt32)
theorem own_By.ext (F : own_By Z h d kd N cs) (E : Ext h h') : own_By Z h' d kd N cs := by obtain ⟨h1, h2, h3, vs, h4, h5, h6⟩ := F; exact ⟨h1.ext E, h2, h3, vs, h4, h5.ext E, h6⟩
theorem own_By.keep (F : own_By Z h d kd N cs) (K : Keep h h' ws) (q : d ∉ ws) : own_By Z h' d kd N cs := by obtain ⟨h1, h2, h3, vs, h4, h5, h6⟩ := F; exact ⟨h1.keep K, h2, h3, vs, h4, h5.keep K q, h6⟩
theorem own_By.other (F : own_By Z h d kd N cs) (W : Wr h h' a sl v) (q : d ≠ a) : own_By Z h' d kd N cs := by obtain ⟨h1, h2, h3, vs, h4, h5, h6⟩ := F; exact ⟨h1.wr W, h2, h3, vs, h4, h5.other W q, h6⟩
theorem own_By.lt (F : own_By Z h d kd N cs) : d < h.size := F.1.lt
theorem own_By.arv (F : own_By Z h d kd N cs) : ∃ vs : List Value, vs.length = N ∧ Arv Z h d kd .byte (Int32.ofNat N) vs (.int 0) ∧ ∀ i, i < cs.length → vs.getD i (.int 0) = .int ((cs.getD i 0).toInt8.toInt32) := F.2.2.2
/-- the StringBuilder at b, her byte[] at d of N places, holds cs -/
def own_SB (Z : State) (h : Heap) (b d : Addr) (kd : ClassId) (N : Nat) (cs : List Int32) : Prop :=
  Exa Z h b "java/lang/StringBuilder" ∧ Fld Z h b "java/lang/AbstractStringBuilder" "value" "[B" (.ref d) ∧ Fld Z h b "java/lang/AbstractStringBuilder" "coder" "B" (.int 0) ∧ Fld Z h b "java/lang/AbstractStringBuilder" "count" "I" (.int (Int32.ofNat cs.length)) ∧ own_By Z h d kd N cs ∧ (∀ c ∈ cs, ¬ c < 0 ∧ ¬ (255 : Int32) < c)
theorem own_SB.ext (F : own_SB Z h b d kd N cs) (E : Ext h h') : own_SB Z h' b d kd N cs := ⟨F.1.ext E, F.2.1.ext E, F.2.2.1.ext E, F.2.2.2.1.ext E, F.2.2.2.2.1.ext E, F.2.2.2.2.2⟩
theorem own_SB.keep (F : own_SB Z h b d kd N cs) (K : Keep h h' ws) (q : b ∉ ws) (r : d ∉ ws) : own_SB Z h' b d kd N cs := ⟨F.1.keep K, F.2.1.keep K q, F.2.2.1.keep K q, F.2.2.2.1.keep K q, F.2.2.2.2.1.keep K r, F.2.2.2.2.2⟩
theorem own_SB.other (F : own_SB Z h b d kd N cs) (W : Wr h h' a sl v) (q : b ≠ a) (r : d ≠ a) : own_SB Z h' b d kd N cs := ⟨F.1.wr W, F.2.1.other W (Or.inl q), F.2.2.1.other W (Or.inl q), F.2.2.2.1.other W (Or.inl q), F.2.2.2.2.1.other W r, F.2.2.2.2.2⟩
theorem own_SB.by_ (F : own_SB Z h b d kd N cs) : own_By Z h d kd N cs := F.2.2.2.2.1
theorem own_orle {d d' B n : Nat} (q : d' = d ∨ n ≤ d') (h1 : B ≤ d) (h2 : B ≤ n) : B ≤ d' := by rcases q with rfl | q; exact h1; exact Nat.le_trans h2 q
theorem own_orne {d d' x n : Nat} (q : d' = d ∨ n ≤ d') (h1 : x ≠ d) (h2 : x < n) : x ≠ d' := by rcases q with rfl | q; exact h1; omega
theorem own_getD_rep (n i : Nat) : (List.replicate n (Value.int 0)).getD i (.int 0) = .int 0 := by
  rw [List.getD_eq_getElem?_getD, List.getElem?_replicate]; split <;> rfl
/-- a new byte[] -/
theorem own_By.new (E : Exa Z h d "[B") (hN : N ≤ 1000000) (V : Arv Z h d kd .byte (Int32.ofNat N) [] (.int 0)) : own_By Z h d kd N [] :=
  ⟨E, Nat.zero_le _, hN, List.replicate N (.int 0), by simp, V.pad (fun i => by rw [own_getD_rep]; simp), fun i hi => absurd hi (by simp)⟩
/-- the first n places of vs laid at place p of vd -/
theorem own_lay_getD {vd us : List Value} {p i : Nat} (hp : p + us.length ≤ vd.length) : (vd.take p ++ us ++ vd.drop (p + us.length)).getD i (.int 0) = if i < p then vd.getD i (.int 0) else if i < p + us.length then us.getD (i - p) (.int 0) else vd.getD i (.int 0) := by
  have ht : (vd.take p).length = p := by rw [List.length_take]; omega
  simp only [List.getD_eq_getElem?_getD]
  by_cases h1 : i < p
  · rw [if_pos h1, List.append_assoc, List.getElem?_append_left (by omega), List.getElem?_take_of_lt h1]
  · rw [if_neg h1]
    by_cases h2 : i < p + us.length
    · rw [if_pos h2, List.getElem?_append_left (by rw [List.length_append]; omega), List.getElem?_append_right (by omega), ht]
    · rw [if_neg h2, List.getElem?_append_right (by rw [List.length_append]; omega), List.length_append, ht, List.getElem?_drop]
      congr 2; omega
theorem own_us_getD {vs us : List Value} {k n i : Nat} (hus : us = (List.range n).map fun i => vs.getD (k + i) (.int 0)) (hi : i < n) : us.getD i (.int 0) = vs.getD (k + i) (.int 0) := by
  subst hus
  simp [List.getD_eq_getElem?_getD, hi]
/-- a copy of the first n places into a new array of M places -/
theorem own_By.cp {us vs : List Value} {n : Nat} (E : Exa Z h d "[B") (hM : M ≤ 1000000) (hn : cs.length ≤ n) (hnM : n ≤ M) (hus : us = (List.range n).map fun i => vs.getD (0 + i) (.int 0)) (hc : ∀ i, i < cs.length → vs.getD i (.int 0) = .int ((cs.getD i 0).toInt8.toInt32))
    (V : Arv Z h d kd .byte (Int32.ofNat M) ((List.replicate M (Value.int 0)).take 0 ++ us ++ (List.replicate M (Value.int 0)).drop (0 + n)) (.int 0)) : own_By Z h d kd M cs := by
  have hl : us.length = n := by rw [hus]; simp
  refine ⟨E, Nat.le_trans hn hnM, hM, _, ?_, V, fun i hi => ?_⟩
  · simp [hl]; omega
  · have := own_lay_getD (vd := List.replicate M (Value.int 0)) (us := us) (p := 0) (i := i) (by simp [hl]; omega)
    rw [hl] at this
    rw [this, if_neg (by omega), if_pos (by omega), Nat.sub_zero, own_us_getD hus (by omega), Nat.zero_add]
    exact hc i hi
/-- the bytes of ds laid behind cs -/
theorem own_By.app {us vs ws' : List Value} {n : Nat} (E : Exa Z h d "[B") (hN : N ≤ 1000000) (hl : vs.length = N) (hn : cs.length + n ≤ N) (hd : ds.length = n) (hus : us = (List.range n).map fun i => ws'.getD (0 + i) (.int 0))
    (hc : ∀ i, i < cs.length → vs.getD i (.int 0) = .int ((cs.getD i 0).toInt8.toInt32)) (hw : ∀ i, i < ds.length → ws'.getD i (.int 0) = .int ((ds.getD i 0).toInt8.toInt32))
    (V : Arv Z h d kd .byte (Int32.ofNat N) (vs.take cs.length ++ us ++ vs.drop (cs.length + n)) (.int 0)) : own_By Z h d kd N (cs ++ ds) := by
  have hul : us.length = n := by rw [hus]; simp
  refine ⟨E, by rw [List.length_append]; omega, hN, _, ?_, V, fun i hi => ?_⟩
  · simp [hul, hl]; omega
  · rw [List.length_append] at hi
    have := own_lay_getD (vd := vs) (us := us) (p := cs.length) (i := i) (by omega)
    rw [hul] at this
    rw [this]
    by_cases h1 : i < cs.length
    · rw [if_pos h1, hc i h1]; simp [List.getD_eq_getElem?_getD, List.getElem?_append_left h1]
    · rw [if_neg h1, if_pos (by omega), own_us_getD hus (by omega), Nat.zero_add, hw _ (by omega)]
      simp [List.getD_eq_getElem?_getD, List.getElem?_append_right (Nat.le_of_not_lt h1)]
/-- a String's bytes -/
theorem own_map_getD (ds : List Int32) (i : Nat) (hi : i < ds.length) : ((ds.map fun c => c.toInt8.toInt32).map Value.int).getD i (.int 0) = .int ((ds.getD i 0).toInt8.toInt32) := by
  simp [List.getD_eq_getElem?_getD, hi]
theorem own_rngApp (h1 : ∀ c ∈ cs, ¬ c < 0 ∧ ¬ (255 : Int32) < c) (h2 : ∀ c ∈ ds, ¬ c < 0 ∧ ¬ (255 : Int32) < c) : ∀ c ∈ cs ++ ds, ¬ c < 0 ∧ ¬ (255 : Int32) < c := fun c hc => (List.mem_append.mp hc).elim (h1 c) (h2 c)
/-- the decimal digits of n, the highest first -/
def own_dec (n : Nat) : List Int32 := (List.range (Jvm.Free.SBG.digits n)).map fun t => Int32.ofNat (48 + n / 10 ^ (Jvm.Free.SBG.digits n - 1 - t) % 10)
theorem own_dec_len (n : Nat) : (own_dec n).length = Jvm.Free.SBG.digits n := by simp [own_dec]
theorem own_dec_rng (n : Nat) : ∀ c ∈ own_dec n, ¬ c < 0 ∧ ¬ (255 : Int32) < c := fun c hc => by
  obtain ⟨t, -, rfl⟩ := List.mem_map.mp hc
  have h1 : 48 + n / 10 ^ (Jvm.Free.SBG.digits n - 1 - t) % 10 ≤ 1000000 := by omega
  rw [Int32.lt_iff_toInt_lt, Int32.lt_iff_toInt_lt, own_nat h1, show (0 : Int32).toInt = 0 from rfl, show (255 : Int32).toInt = 255 from by decide]
  omega
theorem own_dec_at (n t : Nat) (ht : t < Jvm.Free.SBG.digits n) : (own_dec n).getD t 0 = Int32.ofNat (48 + n / 10 ^ (Jvm.Free.SBG.digits n - 1 - t) % 10) := by
  simp [own_dec, List.getD_eq_getElem?_getD, ht]
theorem own_gc {cl : Cell} (F : own_By Z h d kd N cs) (hcl : h[d]? = some cl) {v : Int32} {nn : Nat} {ist d1 d2 : Addr} {cD1 cD2 : Cell} (hO : Jvm.Free.SBG.Ones cD1) (hT : Jvm.Free.SBG.Tens cD2) (hv : ¬ v < 0) (hn : nn ≤ 2 ^ 31) (hN : cs.length + Jvm.Free.SBG.digits nn ≤ N)
    (h1 : h'[d]? = some (Jvm.Free.SBG.GetChars.outCell ⟨v, nn, cs.length + Jvm.Free.SBG.digits nn, d, cl, ist, d1, cD1, d2, cD2⟩)) (h2 : h'.size = h.size) (h3 : ∀ (y : Addr) (cy : Cell), y ≠ d → h[y]? = some cy → h'[y]? = some cy) : Keep h h' [d] ∧ own_By Z h' d kd N (cs ++ own_dec nn) := by
  obtain ⟨E, hl, hN6, vs, hvl, ⟨c2, Ar, q1, S, q3, Hh, G⟩, hc⟩ := F
  obtain rfl : cl = c2 := Option.some.inj (hcl.symm.trans Ar.1)
  rw [own_clamp hN6] at S
  have sg : Jvm.Free.SBG.GetChars.sgn v = 0 := if_neg hv
  have hby : ∀ i, i < cl.slots.size → fits .byte (cl.slots.getD i .null) = true := fun i hi => by
    have e1 := Hh i hi; have e2 := G i hi
    rw [Array.getD_eq_getD_getElem?, e1]; exact e2
  obtain ⟨o1, o2, o3, o4, -⟩ := Jvm.Free.SBG.GetChars.outCell_facts ⟨v, nn, cs.length + Jvm.Free.SBG.digits nn, d, cl, ist, d1, cD1, d2, cD2⟩ hn (by show Jvm.Free.SBG.digits nn + Jvm.Free.SBG.GetChars.sgn v ≤ _; rw [sg]; exact Nat.le_add_left _ _) hby
  obtain ⟨-, fD, fB⟩ := Jvm.Free.SBG.outCell_fwd ⟨v, nn, cs.length + Jvm.Free.SBG.digits nn, d, cl, ist, d1, cD1, d2, cD2⟩ hO hT hn (n0 := cs.length) (by show _ = cs.length + (Jvm.Free.SBG.digits nn + Jvm.Free.SBG.GetChars.sgn v); rw [sg]; rfl) (by show cs.length + _ ≤ cl.slots.size; omega)
  generalize Jvm.Free.SBG.GetChars.outCell ⟨v, nn, cs.length + Jvm.Free.SBG.digits nn, d, cl, ist, d1, cD1, d2, cD2⟩ = oc at *
  have o1 : oc.cls = cl.cls := o1
  have o2 : oc.vm = cl.vm := o2
  have o3 : oc.slots.size = cl.slots.size := o3
  have fD : ∀ t, t < Jvm.Free.SBG.digits nn → oc.slots[cs.length + t]? = some (.int (Int32.ofNat (48 + nn / 10 ^ (Jvm.Free.SBG.digits nn - 1 - t) % 10))) := fun t ht => by
    have := fD t ht
    rw [show Jvm.Free.SBG.GetChars.sgn _ = 0 from sg, Nat.add_zero] at this; exact this
  have fB : ∀ j, j < cs.length → oc.slots[j]? = cl.slots[j]? := fB
  have hK : Keep h h' [d] := ⟨Nat.le_of_eq h2.symm, fun x c q r => h3 x c (fun e => r (by rw [e]; exact List.mem_cons_self ..)) q, fun x c q => by
    by_cases e : x = d
    · subst e
      obtain rfl : cl = c := Option.some.inj (hcl.symm.trans q)
      exact ⟨oc, h1, o1, o2, o3⟩
    · exact ⟨c, h3 x c e q, rfl, rfl, rfl⟩⟩
  have hA : Arr Z h' d oc .byte := ⟨h1, by
    obtain ⟨a1, kA, a2, comp, a3⟩ := Ar.2.1
    exact ⟨by rw [o2]; exact a1, kA, by rw [o1]; exact a2, comp, a3⟩, by rw [o2]; exact Ar.2.2⟩
  have hget : ∀ i, i < oc.slots.size → oc.slots[i]? = some (oc.slots.toList.getD i (.int 0)) := fun i hi => by
    rw [List.getD_eq_getElem?_getD, Array.getElem?_toList, Array.getElem?_eq_getElem hi]; rfl
  refine ⟨hK, E.keep hK, by rw [List.length_append, own_dec_len]; omega, hN6, oc.slots.toList, by rw [Array.length_toList]; omega, ⟨oc, hA, by rw [o1]; exact q1, by rw [own_clamp hN6]; omega, q3, hget, fun i hi => ?_⟩, fun i hi => ?_⟩
  · have e1 := o4 i hi
    rw [Array.getD_eq_getD_getElem?, hget i hi] at e1; exact e1
  · rw [List.length_append, own_dec_len] at hi
    have hi2 : i < oc.slots.size := by omega
    apply Option.some.inj
    rw [← hget i hi2]
    by_cases c1 : i < cs.length
    · rw [fB i c1, Hh i (by omega), hc i c1]; simp [List.getD_eq_getElem?_getD, List.getElem?_append_left c1]
    · obtain ⟨t, rfl⟩ : ∃ t, i = cs.length + t := ⟨i - cs.length, by omega⟩
      rw [fD t (by omega)]
      have e2 : (cs ++ own_dec nn).getD (cs.length + t) 0 = (own_dec nn).getD t 0 := by simp [List.getD_eq_getElem?_getD, List.getElem?_append_right]
      rw [e2, own_dec_at _ _ (by omega), Jvm.Free.SBG.dgNarrow _ (by omega)]
/-- an exact copy makes a String's array -/
theorem own_arvStr {vs : List Value} (hl : vs.length = cs.length) (hc : ∀ i, i < cs.length → vs.getD i (.int 0) = .int ((cs.getD i 0).toInt8.toInt32)) (V : Arv Z h d kd .byte (Int32.ofNat cs.length) vs (.int 0)) : Arv Z h d kd .byte (Int32.ofNat cs.length) ((cs.map fun c => c.toInt8.toInt32).map Value.int) (.int 0) :=
  V.pad fun i => by
    by_cases hi : i < cs.length
    · rw [own_map_getD _ _ hi, hc i hi]
    · simp [List.getD_eq_getElem?_getD, List.getElem?_eq_none (Nat.le_of_not_lt hi), List.getElem?_eq_none (hl ▸ Nat.le_of_not_lt hi)]
end OwnSB
theorem own_chb0 : ∀ n, n < 256 → (((Int32.ofNat n).toInt8.toInt32 &&& (255 : Int32)).toUInt32.toUInt16.toUInt32.toInt32) = Int32.ofNat n ∧ nar .char (Int32.ofNat n) = Int32.ofNat n := by decide +kernel
theorem own_chb {x : Int32} (h : ¬ x < 0 ∧ ¬ (255 : Int32) < x) : ((x.toInt8.toInt32 &&& (255 : Int32)).toUInt32.toUInt16.toUInt32.toInt32) = x ∧ nar .char x = x := by
  obtain ⟨h1, h2⟩ := h
  rw [Int32.lt_iff_toInt_lt, show (0 : Int32).toInt = 0 from rfl] at h1
  rw [Int32.lt_iff_toInt_lt, show (255 : Int32).toInt = 255 from by decide] at h2
  have e : x = Int32.ofNat x.toInt.toNat := own_ofint (by omega) (by omega)
  have q := own_chb0 x.toInt.toNat (by omega)
  rw [← e] at q
  exact q
theorem own_rngAt {cs : List Int32} (h : ∀ c ∈ cs, ¬ c < 0 ∧ ¬ (255 : Int32) < c) {i : Nat} (hi : i < cs.length) : ¬ cs.getD i 0 < 0 ∧ ¬ (255 : Int32) < cs.getD i 0 := by
  apply h
  rw [List.getD_eq_getElem?_getD, List.getElem?_eq_getElem hi]
  exact List.getElem_mem hi
theorem own_lt31 {v : Int32} {n : Nat} (h : v.toInt = n) : n < 2147483648 := by have := v.toInt_lt; omega
theorem own_vlt {v : Int32} {n : Nat} (h : v.toInt = n) {k : Nat} (hk : k < 2147483648) : v < Int32.ofNat k ↔ n < k := by
  rw [Int32.lt_iff_toInt_lt, h, Int32.toInt_ofNat_small (by omega)]; omega
theorem own_dgt {nn k : Nat} (h : Jvm.Free.SBG.digits nn = k) : some (Value.int (Int32.ofNat k)) = some (.int (Int32.ofNat (Jvm.Free.SBG.digits nn))) := by rw [h]
theorem own_p10 {e : Nat} (h : e ≤ 9) : 10 ^ e ≤ 1000000000 := by
  have : 10 ^ e ≤ 10 ^ 9 := Nat.pow_le_pow_right (by decide) h
  omega
theorem own_p10pos (e : Nat) : 0 < 10 ^ e := Nat.pow_pos (by decide)
theorem own_p10nz {e : Nat} (h : e ≤ 9) : Int32.ofNat (10 ^ e) ≠ 0 := fun q => by
  have h1 := own_p10 h; have h2 := own_p10pos e
  have := congrArg Int32.toInt q
  rw [Int32.toInt_ofNat_small (by omega), show (0 : Int32).toInt = 0 from rfl] at this
  omega
theorem own_bm32 {q : Nat} (h : q < 2147483648) : ((q : Nat) : Int).bmod (2 ^ 32) = q := Int.bmod_eq_of_le (by omega) (by omega)
theorem own_divN {v : Int32} {n k : Nat} (h : v.toInt = n) (hk : k < 2147483648) (hp : 0 < k) : v / Int32.ofNat k = Int32.ofNat (n / k) := by
  have hn := own_lt31 h
  have hle : n / k ≤ n := Nat.div_le_self n k
  apply Int32.toInt_inj.mp
  have hq : n / k < 2147483648 := Nat.lt_of_le_of_lt hle hn
  rw [Int32.toInt_div, h, Int32.toInt_ofNat_small (by omega), Int32.toInt_ofNat_small hq, Int.tdiv_eq_ediv_of_nonneg (by omega)]
  rw [show (n : Int) / (k : Int) = ((n / k : Nat) : Int) from (Int.natCast_ediv n k).symm]
  exact own_bm32 hq
theorem own_modN {n k : Nat} (hn : n < 2147483648) (hk : k < 2147483648) : Int32.ofNat n % Int32.ofNat k = Int32.ofNat (n % k) := by
  have hle : n % k ≤ n := Nat.mod_le n k
  apply Int32.toInt_inj.mp
  rw [Int32.toInt_mod, Int32.toInt_ofNat_small (by omega), Int32.toInt_ofNat_small (by omega), Int32.toInt_ofNat_small (by omega), Int.tmod_eq_emod_of_nonneg (by omega)]
  exact (Int.natCast_emod n k).symm
theorem own_dch : ∀ d, d < 10 → ((48 : Int32) + Int32.ofNat d).toUInt32.toUInt16.toUInt32.toInt32 = Int32.ofNat (48 + d) := by decide +kernel
theorem own_val (i : Int32) : ∃ n : Nat, ((1 : Int32) + ((i &&& (2147483647 : Int32)) % (2147483647 : Int32))).toInt = n ∧ 1 ≤ n := by
  have h1 : (i &&& (2147483647 : Int32)).toInt = i.toInt % 2 ^ 31 := Jvm.Kit.i32_mask i 2147483647 (k := 31) (by decide) (by decide)
  have e1 : (2147483647 : Int32).toInt = 2147483647 := by decide
  have h2 : ((i &&& (2147483647 : Int32)) % (2147483647 : Int32)).toInt = (i.toInt % 2 ^ 31) % 2147483647 := by
    rw [Int32.toInt_mod, h1, e1, Int.tmod_eq_emod_of_nonneg (by omega)]
  have h3 : ((1 : Int32) + ((i &&& (2147483647 : Int32)) % (2147483647 : Int32))).toInt = 1 + (i.toInt % 2 ^ 31) % 2147483647 := by
    rw [Int32.toInt_add, h2, show (1 : Int32).toInt = 1 from rfl]
    exact Int.bmod_eq_of_le (by omega) (by omega)
  exact ⟨(1 + (i.toInt % 2 ^ 31) % 2147483647).toNat, by rw [h3]; omega, by omega⟩
theorem own_catAt {A D B : List Int32} {t : Nat} (ht : t < D.length) : ((A ++ D) ++ B).getD (A.length + t) 0 = D.getD t 0 := by
  simp only [List.getD_eq_getElem?_getD]
  rw [List.getElem?_append_left (by rw [List.length_append]; omega), List.getElem?_append_right (by omega)]
  congr 2; omega
theorem own_catAt0 {D B : List Int32} {t : Nat} (ht : t < D.length) : (D ++ B).getD (0 + t) 0 = D.getD t 0 := by
  simp only [List.getD_eq_getElem?_getD]
  rw [List.getElem?_append_left (by omega), Nat.zero_add]
theorem own_catAt2 {A D : List Int32} {t : Nat} : (A ++ D).getD (A.length + t) 0 = D.getD t 0 := by
  simp only [List.getD_eq_getElem?_getD]
  rw [List.getElem?_append_right (by omega)]
  congr 2; omega
theorem own_d_jdk_29_method_65_code_0 : decode jdk_29_method_65_code 0 = .ok (.iload_n 0, 1) := by decide +kernel
theorem own_d_jdk_29_method_65_code_1 : decode jdk_29_method_65_code 1 = .ok (.iload_n 1, 1) := by decide +kernel
theorem own_d_jdk_29_method_65_code_2 : decode jdk_29_method_65_code 2 = .ok (.if_icmp .lt 7, 3) := by decide +kernel
theorem own_d_jdk_29_method_65_code_9 : decode jdk_29_method_65_code 9 = .ok (.iload_n 1, 1) := by decide +kernel
theorem own_d_jdk_29_method_65_code_10 : decode jdk_29_method_65_code 10 = .ok (.ireturn, 1) := by decide +kernel
theorem own_d_jdk_29_method_65_code_5 : decode jdk_29_method_65_code 5 = .ok (.iload_n 0, 1) := by decide +kernel
theorem own_d_jdk_29_method_65_code_6 : decode jdk_29_method_65_code 6 = .ok (.goto 4, 3) := by decide +kernel
theorem own_d_jdk_29_method_69_code_0 : decode jdk_29_method_69_code 0 = .ok (.iload_n 0, 1) := by decide +kernel
theorem own_d_jdk_29_method_69_code_1 : decode jdk_29_method_69_code 1 = .ok (.iload_n 1, 1) := by decide +kernel
theorem own_d_jdk_29_method_69_code_2 : decode jdk_29_method_69_code 2 = .ok (.if_icmp .gt 7, 3) := by decide +kernel
theorem own_d_jdk_29_method_69_code_9 : decode jdk_29_method_69_code 9 = .ok (.iload_n 1, 1) := by decide +kernel
theorem own_d_jdk_29_method_69_code_10 : decode jdk_29_method_69_code 10 = .ok (.ireturn, 1) := by decide +kernel
theorem own_d_jdk_29_method_69_code_5 : decode jdk_29_method_69_code 5 = .ok (.iload_n 0, 1) := by decide +kernel
theorem own_d_jdk_29_method_69_code_6 : decode jdk_29_method_69_code 6 = .ok (.goto 4, 3) := by decide +kernel
theorem own_d_jdk_30_method_1_code_0 : decode jdk_30_method_1_code 0 = .ok (.aload_n 0, 1) := by decide +kernel
theorem own_d_jdk_30_method_1_code_1 : decode jdk_30_method_1_code 1 = .ok (.invokespecial 1, 3) := by decide +kernel
theorem own_d_jdk_30_method_1_code_4 : decode jdk_30_method_1_code 4 = .ok (.return_, 1) := by decide +kernel
theorem own_d_jdk_68_method_2_code_0 : decode jdk_68_method_2_code 0 = .ok (.aload_n 0, 1) := by decide +kernel
theorem own_d_jdk_68_method_2_code_1 : decode jdk_68_method_2_code 1 = .ok (.invokespecial 3, 3) := by decide +kernel
theorem own_d_jdk_68_method_2_code_4 : decode jdk_68_method_2_code 4 = .ok (.getstatic 18, 3) := by decide +kernel
theorem own_d_jdk_68_method_2_code_7 : decode jdk_68_method_2_code 7 = .ok (.ifCond .eq 18, 3) := by decide +kernel
theorem own_d_jdk_68_method_2_code_10 : decode jdk_68_method_2_code 10 = .ok (.aload_n 0, 1) := by decide +kernel
theorem own_d_jdk_68_method_2_code_11 : decode jdk_68_method_2_code 11 = .ok (.iload_n 1, 1) := by decide +kernel
theorem own_d_jdk_68_method_2_code_12 : decode jdk_68_method_2_code 12 = .ok (.newarray .byte, 2) := by decide +kernel
theorem own_d_jdk_68_method_2_code_14 : decode jdk_68_method_2_code 14 = .ok (.putfield 15, 3) := by decide +kernel
theorem own_d_jdk_68_method_2_code_17 : decode jdk_68_method_2_code 17 = .ok (.aload_n 0, 1) := by decide +kernel
theorem own_d_jdk_68_method_2_code_18 : decode jdk_68_method_2_code 18 = .ok (.iconst 0, 1) := by decide +kernel
theorem own_d_jdk_68_method_2_code_19 : decode jdk_68_method_2_code 19 = .ok (.putfield 22, 3) := by decide +kernel
theorem own_d_jdk_68_method_2_code_22 : decode jdk_68_method_2_code 22 = .ok (.goto 16, 3) := by decide +kernel
theorem own_d_jdk_68_method_2_code_38 : decode jdk_68_method_2_code 38 = .ok (.return_, 1) := by decide +kernel
theorem own_d_jdk_67_method_1_code_0 : decode jdk_67_method_1_code 0 = .ok (.aload_n 0, 1) := by decide +kernel
theorem own_d_jdk_67_method_1_code_1 : decode jdk_67_method_1_code 1 = .ok (.bipush 16, 2) := by decide +kernel
theorem own_d_jdk_67_method_1_code_3 : decode jdk_67_method_1_code 3 = .ok (.invokespecial 1, 3) := by decide +kernel
theorem own_pd0 : parseMethodDescriptor "(I)V" = some ⟨[.int], none⟩ := by decide +kernel
theorem own_d_jdk_67_method_1_code_6 : decode jdk_67_method_1_code 6 = .ok (.return_, 1) := by decide +kernel
theorem own_d_jdk_68_method_68_code_0 : decode jdk_68_method_68_code 0 = .ok (.getstatic 18, 3) := by decide +kernel
theorem own_d_jdk_68_method_68_code_3 : decode jdk_68_method_68_code 3 = .ok (.ifCond .eq 14, 3) := by decide +kernel
theorem own_d_jdk_68_method_68_code_6 : decode jdk_68_method_68_code 6 = .ok (.aload_n 0, 1) := by decide +kernel
theorem own_d_jdk_68_method_68_code_7 : decode jdk_68_method_68_code 7 = .ok (.getfield 22, 3) := by decide +kernel
theorem own_d_jdk_68_method_68_code_10 : decode jdk_68_method_68_code 10 = .ok (.ifCond .ne 7, 3) := by decide +kernel
theorem own_d_jdk_68_method_68_code_13 : decode jdk_68_method_68_code 13 = .ok (.iconst 1, 1) := by decide +kernel
theorem own_d_jdk_68_method_68_code_14 : decode jdk_68_method_68_code 14 = .ok (.goto 4, 3) := by decide +kernel
theorem own_d_jdk_68_method_68_code_18 : decode jdk_68_method_68_code 18 = .ok (.ireturn, 1) := by decide +kernel
theorem own_d_jdk_48_method_27_code_0 : decode jdk_48_method_27_code 0 = .ok (.iload_n 0, 1) := by decide +kernel
theorem own_d_jdk_48_method_27_code_1 : decode jdk_48_method_27_code 1 = .ok (.iload_n 1, 1) := by decide +kernel
theorem own_d_jdk_48_method_27_code_2 : decode jdk_48_method_27_code 2 = .ok (.iload_n 2, 1) := by decide +kernel
theorem own_d_jdk_48_method_27_code_3 : decode jdk_48_method_27_code 3 = .ok (.invokestatic 194, 3) := by decide +kernel
theorem own_pd1 : parseMethodDescriptor "(II)I" = some ⟨[.int, .int], some .int⟩ := by decide +kernel
theorem own_d_jdk_48_method_27_code_6 : decode jdk_48_method_27_code 6 = .ok (.iadd, 1) := by decide +kernel
theorem own_d_jdk_48_method_27_code_7 : decode jdk_48_method_27_code 7 = .ok (.istore_n 3, 1) := by decide +kernel
theorem own_d_jdk_48_method_27_code_8 : decode jdk_48_method_27_code 8 = .ok (.iconst 0, 1) := by decide +kernel
theorem own_d_jdk_48_method_27_code_9 : decode jdk_48_method_27_code 9 = .ok (.iload_n 3, 1) := by decide +kernel
theorem own_d_jdk_48_method_27_code_10 : decode jdk_48_method_27_code 10 = .ok (.if_icmp .ge 11, 3) := by decide +kernel
theorem own_d_jdk_48_method_27_code_13 : decode jdk_48_method_27_code 13 = .ok (.iload_n 3, 1) := by decide +kernel
theorem own_d_jdk_48_method_27_code_14 : decode jdk_48_method_27_code 14 = .ok (.ldc 200, 2) := by decide +kernel
theorem own_d_jdk_48_method_27_code_16 : decode jdk_48_method_27_code 16 = .ok (.if_icmp .gt 5, 3) := by decide +kernel
theorem own_d_jdk_48_method_27_code_19 : decode jdk_48_method_27_code 19 = .ok (.iload_n 3, 1) := by decide +kernel
theorem own_d_jdk_48_method_27_code_20 : decode jdk_48_method_27_code 20 = .ok (.ireturn, 1) := by decide +kernel
theorem own_d_jdk_68_method_10_code_0 : decode jdk_68_method_10_code 0 = .ok (.aload_n 0, 1) := by decide +kernel
theorem own_d_jdk_68_method_10_code_1 : decode jdk_68_method_10_code 1 = .ok (.getfield 15, 3) := by decide +kernel
theorem own_d_jdk_68_method_10_code_4 : decode jdk_68_method_10_code 4 = .ok (.arraylength, 1) := by decide +kernel
theorem own_d_jdk_68_method_10_code_5 : decode jdk_68_method_10_code 5 = .ok (.istore_n 2, 1) := by decide +kernel
theorem own_d_jdk_68_method_10_code_6 : decode jdk_68_method_10_code 6 = .ok (.iload_n 1, 1) := by decide +kernel
theorem own_d_jdk_68_method_10_code_7 : decode jdk_68_method_10_code 7 = .ok (.aload_n 0, 1) := by decide +kernel
theorem own_d_jdk_68_method_10_code_8 : decode jdk_68_method_10_code 8 = .ok (.getfield 22, 3) := by decide +kernel
theorem own_d_jdk_68_method_10_code_11 : decode jdk_68_method_10_code 11 = .ok (.ishl, 1) := by decide +kernel
theorem own_d_jdk_68_method_10_code_12 : decode jdk_68_method_10_code 12 = .ok (.istore_n 3, 1) := by decide +kernel
theorem own_d_jdk_68_method_10_code_13 : decode jdk_68_method_10_code 13 = .ok (.iload_n 3, 1) := by decide +kernel
theorem own_d_jdk_68_method_10_code_14 : decode jdk_68_method_10_code 14 = .ok (.iload_n 2, 1) := by decide +kernel
theorem own_d_jdk_68_method_10_code_15 : decode jdk_68_method_10_code 15 = .ok (.isub, 1) := by decide +kernel
theorem own_d_jdk_68_method_10_code_16 : decode jdk_68_method_10_code 16 = .ok (.istore 4, 2) := by decide +kernel
theorem own_d_jdk_68_method_10_code_18 : decode jdk_68_method_10_code 18 = .ok (.iload_n 2, 1) := by decide +kernel
theorem own_d_jdk_68_method_10_code_19 : decode jdk_68_method_10_code 19 = .ok (.iload 4, 2) := by decide +kernel
theorem own_d_jdk_68_method_10_code_21 : decode jdk_68_method_10_code 21 = .ok (.iload_n 2, 1) := by decide +kernel
theorem own_d_jdk_68_method_10_code_22 : decode jdk_68_method_10_code 22 = .ok (.iconst 2, 1) := by decide +kernel
theorem own_d_jdk_68_method_10_code_23 : decode jdk_68_method_10_code 23 = .ok (.aload_n 0, 1) := by decide +kernel
theorem own_d_jdk_68_method_10_code_24 : decode jdk_68_method_10_code 24 = .ok (.getfield 22, 3) := by decide +kernel
theorem own_d_jdk_68_method_10_code_27 : decode jdk_68_method_10_code 27 = .ok (.ishl, 1) := by decide +kernel
theorem own_d_jdk_68_method_10_code_28 : decode jdk_68_method_10_code 28 = .ok (.iadd, 1) := by decide +kernel
theorem own_d_jdk_68_method_10_code_29 : decode jdk_68_method_10_code 29 = .ok (.invokestatic 114, 3) := by decide +kernel
theorem own_pd2 : parseMethodDescriptor "(III)I" = some ⟨[.int, .int, .int], some .int⟩ := by decide +kernel
theorem own_d_jdk_68_method_10_code_32 : decode jdk_68_method_10_code 32 = .ok (.istore 5, 2) := by decide +kernel
theorem own_d_jdk_68_method_10_code_34 : decode jdk_68_method_10_code 34 = .ok (.iload 5, 2) := by decide +kernel
theorem own_d_jdk_68_method_10_code_36 : decode jdk_68_method_10_code 36 = .ok (.ldc 39, 2) := by decide +kernel
theorem own_d_jdk_68_method_10_code_38 : decode jdk_68_method_10_code 38 = .ok (.if_icmp .ne 13, 3) := by decide +kernel
theorem own_d_jdk_68_method_10_code_51 : decode jdk_68_method_10_code 51 = .ok (.iload 5, 2) := by decide +kernel
theorem own_d_jdk_68_method_10_code_53 : decode jdk_68_method_10_code 53 = .ok (.aload_n 0, 1) := by decide +kernel
theorem own_d_jdk_68_method_10_code_54 : decode jdk_68_method_10_code 54 = .ok (.getfield 22, 3) := by decide +kernel
theorem own_d_jdk_68_method_10_code_57 : decode jdk_68_method_10_code 57 = .ok (.ishr, 1) := by decide +kernel
theorem own_d_jdk_68_method_10_code_58 : decode jdk_68_method_10_code 58 = .ok (.ireturn, 1) := by decide +kernel
theorem own_d_jdk_65_method_121_code_0 : decode jdk_65_method_121_code 0 = .ok (.iload_n 1, 1) := by decide +kernel
theorem own_d_jdk_65_method_121_code_1 : decode jdk_65_method_121_code 1 = .ok (.aload_n 0, 1) := by decide +kernel
theorem own_d_jdk_65_method_121_code_2 : decode jdk_65_method_121_code 2 = .ok (.arraylength, 1) := by decide +kernel
theorem own_d_jdk_65_method_121_code_3 : decode jdk_65_method_121_code 3 = .ok (.if_icmp .ne 11, 3) := by decide +kernel
theorem own_d_jdk_65_method_121_code_14 : decode jdk_65_method_121_code 14 = .ok (.iload_n 1, 1) := by decide +kernel
theorem own_d_jdk_65_method_121_code_15 : decode jdk_65_method_121_code 15 = .ok (.newarray .byte, 2) := by decide +kernel
theorem own_d_jdk_65_method_121_code_17 : decode jdk_65_method_121_code 17 = .ok (.astore_n 2, 1) := by decide +kernel
theorem own_d_jdk_65_method_121_code_18 : decode jdk_65_method_121_code 18 = .ok (.aload_n 0, 1) := by decide +kernel
theorem own_d_jdk_65_method_121_code_19 : decode jdk_65_method_121_code 19 = .ok (.iconst 0, 1) := by decide +kernel
theorem own_d_jdk_65_method_121_code_20 : decode jdk_65_method_121_code 20 = .ok (.aload_n 2, 1) := by decide +kernel
theorem own_d_jdk_65_method_121_code_21 : decode jdk_65_method_121_code 21 = .ok (.iconst 0, 1) := by decide +kernel
theorem own_d_jdk_65_method_121_code_22 : decode jdk_65_method_121_code 22 = .ok (.aload_n 0, 1) := by decide +kernel
theorem own_d_jdk_65_method_121_code_23 : decode jdk_65_method_121_code 23 = .ok (.arraylength, 1) := by decide +kernel
theorem own_d_jdk_65_method_121_code_24 : decode jdk_65_method_121_code 24 = .ok (.iload_n 1, 1) := by decide +kernel
theorem own_d_jdk_65_method_121_code_25 : decode jdk_65_method_121_code 25 = .ok (.invokestatic 304, 3) := by decide +kernel
theorem own_d_jdk_65_method_121_code_28 : decode jdk_65_method_121_code 28 = .ok (.invokestatic 150, 3) := by decide +kernel
theorem own_d_jdk_65_method_121_code_31 : decode jdk_65_method_121_code 31 = .ok (.aload_n 2, 1) := by decide +kernel
theorem own_d_jdk_65_method_121_code_32 : decode jdk_65_method_121_code 32 = .ok (.areturn, 1) := by decide +kernel
theorem own_d_jdk_68_method_9_code_0 : decode jdk_68_method_9_code 0 = .ok (.aload_n 0, 1) := by decide +kernel
theorem own_d_jdk_68_method_9_code_1 : decode jdk_68_method_9_code 1 = .ok (.getfield 15, 3) := by decide +kernel
theorem own_d_jdk_68_method_9_code_4 : decode jdk_68_method_9_code 4 = .ok (.arraylength, 1) := by decide +kernel
theorem own_d_jdk_68_method_9_code_5 : decode jdk_68_method_9_code 5 = .ok (.aload_n 0, 1) := by decide +kernel
theorem own_d_jdk_68_method_9_code_6 : decode jdk_68_method_9_code 6 = .ok (.getfield 22, 3) := by decide +kernel
theorem own_d_jdk_68_method_9_code_9 : decode jdk_68_method_9_code 9 = .ok (.ishr, 1) := by decide +kernel
theorem own_d_jdk_68_method_9_code_10 : decode jdk_68_method_9_code 10 = .ok (.istore_n 2, 1) := by decide +kernel
theorem own_d_jdk_68_method_9_code_11 : decode jdk_68_method_9_code 11 = .ok (.iload_n 1, 1) := by decide +kernel
theorem own_d_jdk_68_method_9_code_12 : decode jdk_68_method_9_code 12 = .ok (.iload_n 2, 1) := by decide +kernel
theorem own_d_jdk_68_method_9_code_13 : decode jdk_68_method_9_code 13 = .ok (.isub, 1) := by decide +kernel
theorem own_d_jdk_68_method_9_code_14 : decode jdk_68_method_9_code 14 = .ok (.ifCond .le 24, 3) := by decide +kernel
theorem own_d_jdk_68_method_9_code_17 : decode jdk_68_method_9_code 17 = .ok (.aload_n 0, 1) := by decide +kernel
theorem own_d_jdk_68_method_9_code_18 : decode jdk_68_method_9_code 18 = .ok (.aload_n 0, 1) := by decide +kernel
theorem own_d_jdk_68_method_9_code_19 : decode jdk_68_method_9_code 19 = .ok (.getfield 15, 3) := by decide +kernel
theorem own_d_jdk_68_method_9_code_22 : decode jdk_68_method_9_code 22 = .ok (.aload_n 0, 1) := by decide +kernel
theorem own_d_jdk_68_method_9_code_23 : decode jdk_68_method_9_code 23 = .ok (.iload_n 1, 1) := by decide +kernel
theorem own_d_jdk_68_method_9_code_24 : decode jdk_68_method_9_code 24 = .ok (.invokevirtual 104, 3) := by decide +kernel
theorem own_pd3 : parseMethodDescriptor "(I)I" = some ⟨[.int], some .int⟩ := by decide +kernel
theorem own_d_jdk_68_method_9_code_27 : decode jdk_68_method_9_code 27 = .ok (.aload_n 0, 1) := by decide +kernel
theorem own_d_jdk_68_method_9_code_28 : decode jdk_68_method_9_code 28 = .ok (.getfield 22, 3) := by decide +kernel
theorem own_d_jdk_68_method_9_code_31 : decode jdk_68_method_9_code 31 = .ok (.ishl, 1) := by decide +kernel
theorem own_pd4 : parseMethodDescriptor "([BI)[B" = some ⟨[(.array .byte), .int], some (.array .byte)⟩ := by decide +kernel
theorem own_d_jdk_68_method_9_code_32 : decode jdk_68_method_9_code 32 = .ok (.invokestatic 108, 3) := by decide +kernel
theorem own_d_jdk_68_method_9_code_35 : decode jdk_68_method_9_code 35 = .ok (.putfield 15, 3) := by decide +kernel
theorem own_d_jdk_68_method_9_code_38 : decode jdk_68_method_9_code 38 = .ok (.return_, 1) := by decide +kernel
theorem own_d_jdk_68_method_32_code_0 : decode jdk_68_method_32_code 0 = .ok (.aload_n 0, 1) := by decide +kernel
theorem own_d_jdk_68_method_32_code_1 : decode jdk_68_method_32_code 1 = .ok (.getfield 79, 3) := by decide +kernel
theorem own_d_jdk_68_method_32_code_4 : decode jdk_68_method_32_code 4 = .ok (.istore_n 2, 1) := by decide +kernel
theorem own_d_jdk_68_method_32_code_5 : decode jdk_68_method_32_code 5 = .ok (.iload_n 2, 1) := by decide +kernel
theorem own_d_jdk_68_method_32_code_6 : decode jdk_68_method_32_code 6 = .ok (.iload_n 1, 1) := by decide +kernel
theorem own_d_jdk_68_method_32_code_7 : decode jdk_68_method_32_code 7 = .ok (.invokestatic 245, 3) := by decide +kernel
theorem own_d_jdk_68_method_32_code_10 : decode jdk_68_method_32_code 10 = .ok (.iadd, 1) := by decide +kernel
theorem own_d_jdk_68_method_32_code_11 : decode jdk_68_method_32_code 11 = .ok (.istore_n 3, 1) := by decide +kernel
theorem own_d_jdk_68_method_32_code_12 : decode jdk_68_method_32_code 12 = .ok (.aload_n 0, 1) := by decide +kernel
theorem own_d_jdk_68_method_32_code_13 : decode jdk_68_method_32_code 13 = .ok (.iload_n 3, 1) := by decide +kernel
theorem own_d_jdk_68_method_32_code_14 : decode jdk_68_method_32_code 14 = .ok (.invokevirtual 100, 3) := by decide +kernel
theorem own_d_jdk_68_method_32_code_17 : decode jdk_68_method_32_code 17 = .ok (.aload_n 0, 1) := by decide +kernel
theorem own_d_jdk_68_method_32_code_18 : decode jdk_68_method_32_code 18 = .ok (.invokevirtual 83, 3) := by decide +kernel
theorem own_pd5 : parseMethodDescriptor "()Z" = some ⟨[], some .boolean⟩ := by decide +kernel
theorem own_d_jdk_68_method_32_code_21 : decode jdk_68_method_32_code 21 = .ok (.ifCond .eq 16, 3) := by decide +kernel
theorem own_d_jdk_68_method_32_code_24 : decode jdk_68_method_32_code 24 = .ok (.iload_n 1, 1) := by decide +kernel
theorem own_d_jdk_68_method_32_code_25 : decode jdk_68_method_32_code 25 = .ok (.iload_n 3, 1) := by decide +kernel
theorem own_d_jdk_68_method_32_code_26 : decode jdk_68_method_32_code 26 = .ok (.aload_n 0, 1) := by decide +kernel
theorem own_d_jdk_68_method_32_code_27 : decode jdk_68_method_32_code 27 = .ok (.getfield 15, 3) := by decide +kernel
theorem own_d_jdk_68_method_32_code_30 : decode jdk_68_method_32_code 30 = .ok (.invokestatic 248, 3) := by decide +kernel
theorem own_pd6 : parseMethodDescriptor "(II[B)I" = some ⟨[.int, .int, (.array .byte)], some .int⟩ := by decide +kernel
theorem own_d_jdk_68_method_32_code_33 : decode jdk_68_method_32_code 33 = .ok (.pop, 1) := by decide +kernel
theorem own_d_jdk_68_method_32_code_34 : decode jdk_68_method_32_code 34 = .ok (.goto 14, 3) := by decide +kernel
theorem own_d_jdk_68_method_32_code_48 : decode jdk_68_method_32_code 48 = .ok (.aload_n 0, 1) := by decide +kernel
theorem own_d_jdk_68_method_32_code_49 : decode jdk_68_method_32_code 49 = .ok (.iload_n 3, 1) := by decide +kernel
theorem own_d_jdk_68_method_32_code_50 : decode jdk_68_method_32_code 50 = .ok (.putfield 79, 3) := by decide +kernel
theorem own_d_jdk_68_method_32_code_53 : decode jdk_68_method_32_code 53 = .ok (.aload_n 0, 1) := by decide +kernel
theorem own_d_jdk_68_method_32_code_54 : decode jdk_68_method_32_code 54 = .ok (.areturn, 1) := by decide +kernel
theorem own_d_jdk_67_method_15_code_0 : decode jdk_67_method_15_code 0 = .ok (.aload_n 0, 1) := by decide +kernel
theorem own_d_jdk_67_method_15_code_1 : decode jdk_67_method_15_code 1 = .ok (.iload_n 1, 1) := by decide +kernel
theorem own_d_jdk_67_method_15_code_2 : decode jdk_67_method_15_code 2 = .ok (.invokespecial 53, 3) := by decide +kernel
theorem own_pd7 : parseMethodDescriptor "(I)Ljava/lang/AbstractStringBuilder;" = some ⟨[.int], some (.object "java/lang/AbstractStringBuilder")⟩ := by decide +kernel
theorem own_d_jdk_67_method_15_code_5 : decode jdk_67_method_15_code 5 = .ok (.pop, 1) := by decide +kernel
theorem own_d_jdk_67_method_15_code_6 : decode jdk_67_method_15_code 6 = .ok (.aload_n 0, 1) := by decide +kernel
theorem own_d_jdk_67_method_15_code_7 : decode jdk_67_method_15_code 7 = .ok (.areturn, 1) := by decide +kernel
theorem own_d_jdk_42_method_152_code_0 : decode jdk_42_method_152_code 0 = .ok (.getstatic 38, 3) := by decide +kernel
theorem own_d_jdk_42_method_152_code_3 : decode jdk_42_method_152_code 3 = .ok (.ifCond .eq 10, 3) := by decide +kernel
theorem own_d_jdk_42_method_152_code_6 : decode jdk_42_method_152_code 6 = .ok (.aload_n 0, 1) := by decide +kernel
theorem own_d_jdk_42_method_152_code_7 : decode jdk_42_method_152_code 7 = .ok (.getfield 15, 3) := by decide +kernel
theorem own_d_jdk_42_method_152_code_10 : decode jdk_42_method_152_code 10 = .ok (.goto 4, 3) := by decide +kernel
theorem own_d_jdk_42_method_152_code_14 : decode jdk_42_method_152_code 14 = .ok (.ireturn, 1) := by decide +kernel
theorem own_d_jdk_42_method_54_code_0 : decode jdk_42_method_54_code 0 = .ok (.aload_n 0, 1) := by decide +kernel
theorem own_d_jdk_42_method_54_code_1 : decode jdk_42_method_54_code 1 = .ok (.getfield 9, 3) := by decide +kernel
theorem own_d_jdk_42_method_54_code_4 : decode jdk_42_method_54_code 4 = .ok (.arraylength, 1) := by decide +kernel
theorem own_d_jdk_42_method_54_code_5 : decode jdk_42_method_54_code 5 = .ok (.aload_n 0, 1) := by decide +kernel
theorem own_d_jdk_42_method_54_code_6 : decode jdk_42_method_54_code 6 = .ok (.invokevirtual 335, 3) := by decide +kernel
theorem own_pd8 : parseMethodDescriptor "()B" = some ⟨[], some .byte⟩ := by decide +kernel
theorem own_d_jdk_42_method_54_code_9 : decode jdk_42_method_54_code 9 = .ok (.ishr, 1) := by decide +kernel
theorem own_d_jdk_42_method_54_code_10 : decode jdk_42_method_54_code 10 = .ok (.ireturn, 1) := by decide +kernel
theorem own_d_jdk_42_method_154_code_0 : decode jdk_42_method_154_code 0 = .ok (.getstatic 38, 3) := by decide +kernel
theorem own_d_jdk_42_method_154_code_3 : decode jdk_42_method_154_code 3 = .ok (.ifCond .eq 14, 3) := by decide +kernel
theorem own_d_jdk_42_method_154_code_6 : decode jdk_42_method_154_code 6 = .ok (.aload_n 0, 1) := by decide +kernel
theorem own_d_jdk_42_method_154_code_7 : decode jdk_42_method_154_code 7 = .ok (.getfield 15, 3) := by decide +kernel
theorem own_d_jdk_42_method_154_code_10 : decode jdk_42_method_154_code 10 = .ok (.ifCond .ne 7, 3) := by decide +kernel
theorem own_d_jdk_42_method_154_code_13 : decode jdk_42_method_154_code 13 = .ok (.iconst 1, 1) := by decide +kernel
theorem own_d_jdk_42_method_154_code_14 : decode jdk_42_method_154_code 14 = .ok (.goto 4, 3) := by decide +kernel
theorem own_d_jdk_42_method_154_code_18 : decode jdk_42_method_154_code 18 = .ok (.ireturn, 1) := by decide +kernel
theorem own_d_jdk_41_method_11_code_0 : decode jdk_41_method_11_code 0 = .ok (.iload_n 0, 1) := by decide +kernel
theorem own_d_jdk_41_method_11_code_1 : decode jdk_41_method_11_code 1 = .ok (.ifCond .lt 8, 3) := by decide +kernel
theorem own_d_jdk_41_method_11_code_4 : decode jdk_41_method_11_code 4 = .ok (.iload_n 0, 1) := by decide +kernel
theorem own_d_jdk_41_method_11_code_5 : decode jdk_41_method_11_code 5 = .ok (.iload_n 1, 1) := by decide +kernel
theorem own_d_jdk_41_method_11_code_6 : decode jdk_41_method_11_code 6 = .ok (.if_icmp .lt 10, 3) := by decide +kernel
theorem own_d_jdk_41_method_11_code_16 : decode jdk_41_method_11_code 16 = .ok (.iload_n 0, 1) := by decide +kernel
theorem own_d_jdk_41_method_11_code_17 : decode jdk_41_method_11_code 17 = .ok (.ireturn, 1) := by decide +kernel
theorem own_d_jdk_42_method_155_code_0 : decode jdk_42_method_155_code 0 = .ok (.iload_n 0, 1) := by decide +kernel
theorem own_d_jdk_42_method_155_code_1 : decode jdk_42_method_155_code 1 = .ok (.iload_n 1, 1) := by decide +kernel
theorem own_d_jdk_42_method_155_code_2 : decode jdk_42_method_155_code 2 = .ok (.getstatic 1053, 3) := by decide +kernel
theorem own_d_jdk_42_method_155_code_5 : decode jdk_42_method_155_code 5 = .ok (.invokestatic 1059, 3) := by decide +kernel
theorem own_pd9 : parseMethodDescriptor "(IILjava/util/function/BiFunction;)I" = some ⟨[.int, .int, (.object "java/util/function/BiFunction")], some .int⟩ := by decide +kernel
theorem own_d_jdk_42_method_155_code_8 : decode jdk_42_method_155_code 8 = .ok (.pop, 1) := by decide +kernel
theorem own_d_jdk_42_method_155_code_9 : decode jdk_42_method_155_code 9 = .ok (.return_, 1) := by decide +kernel
theorem own_d_jdk_43_method_2_code_0 : decode jdk_43_method_2_code 0 = .ok (.iload_n 1, 1) := by decide +kernel
theorem own_d_jdk_43_method_2_code_1 : decode jdk_43_method_2_code 1 = .ok (.aload_n 0, 1) := by decide +kernel
theorem own_d_jdk_43_method_2_code_2 : decode jdk_43_method_2_code 2 = .ok (.arraylength, 1) := by decide +kernel
theorem own_d_jdk_43_method_2_code_3 : decode jdk_43_method_2_code 3 = .ok (.invokestatic 9, 3) := by decide +kernel
theorem own_pd10 : parseMethodDescriptor "(II)V" = some ⟨[.int, .int], none⟩ := by decide +kernel
theorem own_d_jdk_43_method_2_code_6 : decode jdk_43_method_2_code 6 = .ok (.aload_n 0, 1) := by decide +kernel
theorem own_d_jdk_43_method_2_code_7 : decode jdk_43_method_2_code 7 = .ok (.iload_n 1, 1) := by decide +kernel
theorem own_d_jdk_43_method_2_code_8 : decode jdk_43_method_2_code 8 = .ok (.baload, 1) := by decide +kernel
theorem own_d_jdk_43_method_2_code_9 : decode jdk_43_method_2_code 9 = .ok (.sipush 255, 3) := by decide +kernel
theorem own_d_jdk_43_method_2_code_12 : decode jdk_43_method_2_code 12 = .ok (.iand, 1) := by decide +kernel
theorem own_d_jdk_43_method_2_code_13 : decode jdk_43_method_2_code 13 = .ok (.i2c, 1) := by decide +kernel
theorem own_d_jdk_43_method_2_code_14 : decode jdk_43_method_2_code 14 = .ok (.ireturn, 1) := by decide +kernel
theorem own_d_jdk_42_method_56_code_0 : decode jdk_42_method_56_code 0 = .ok (.aload_n 0, 1) := by decide +kernel
theorem own_d_jdk_42_method_56_code_1 : decode jdk_42_method_56_code 1 = .ok (.invokevirtual 492, 3) := by decide +kernel
theorem own_d_jdk_42_method_56_code_4 : decode jdk_42_method_56_code 4 = .ok (.ifCond .eq 12, 3) := by decide +kernel
theorem own_d_jdk_42_method_56_code_7 : decode jdk_42_method_56_code 7 = .ok (.aload_n 0, 1) := by decide +kernel
theorem own_d_jdk_42_method_56_code_8 : decode jdk_42_method_56_code 8 = .ok (.getfield 9, 3) := by decide +kernel
theorem own_d_jdk_42_method_56_code_11 : decode jdk_42_method_56_code 11 = .ok (.iload_n 1, 1) := by decide +kernel
theorem own_d_jdk_42_method_56_code_12 : decode jdk_42_method_56_code 12 = .ok (.invokestatic 495, 3) := by decide +kernel
theorem own_pd11 : parseMethodDescriptor "([BI)C" = some ⟨[(.array .byte), .int], some .char⟩ := by decide +kernel
theorem own_d_jdk_42_method_56_code_15 : decode jdk_42_method_56_code 15 = .ok (.ireturn, 1) := by decide +kernel
theorem own_d_jdk_68_method_71_code_0 : decode jdk_68_method_71_code 0 = .ok (.getstatic 18, 3) := by decide +kernel
theorem own_d_jdk_68_method_71_code_3 : decode jdk_68_method_71_code 3 = .ok (.ifCond .eq 18, 3) := by decide +kernel
theorem own_d_jdk_68_method_71_code_6 : decode jdk_68_method_71_code 6 = .ok (.aload_n 0, 1) := by decide +kernel
theorem own_d_jdk_68_method_71_code_7 : decode jdk_68_method_71_code 7 = .ok (.getfield 22, 3) := by decide +kernel
theorem own_d_jdk_68_method_71_code_10 : decode jdk_68_method_71_code 10 = .ok (.aload_n 1, 1) := by decide +kernel
theorem own_d_jdk_68_method_71_code_11 : decode jdk_68_method_71_code 11 = .ok (.invokevirtual 40, 3) := by decide +kernel
theorem own_d_jdk_68_method_71_code_14 : decode jdk_68_method_71_code 14 = .ok (.if_icmp .eq 7, 3) := by decide +kernel
theorem own_d_jdk_68_method_71_code_21 : decode jdk_68_method_71_code 21 = .ok (.return_, 1) := by decide +kernel
theorem own_d_jdk_42_method_147_code_0 : decode jdk_42_method_147_code 0 = .ok (.aload_n 0, 1) := by decide +kernel
theorem own_d_jdk_42_method_147_code_1 : decode jdk_42_method_147_code 1 = .ok (.invokevirtual 335, 3) := by decide +kernel
theorem own_d_jdk_42_method_147_code_4 : decode jdk_42_method_147_code 4 = .ok (.iload_n 3, 1) := by decide +kernel
theorem own_d_jdk_42_method_147_code_5 : decode jdk_42_method_147_code 5 = .ok (.if_icmp .ne 23, 3) := by decide +kernel
theorem own_d_jdk_42_method_147_code_8 : decode jdk_42_method_147_code 8 = .ok (.aload_n 0, 1) := by decide +kernel
theorem own_d_jdk_42_method_147_code_9 : decode jdk_42_method_147_code 9 = .ok (.getfield 9, 3) := by decide +kernel
theorem own_d_jdk_42_method_147_code_12 : decode jdk_42_method_147_code 12 = .ok (.iconst 0, 1) := by decide +kernel
theorem own_d_jdk_42_method_147_code_13 : decode jdk_42_method_147_code 13 = .ok (.aload_n 1, 1) := by decide +kernel
theorem own_d_jdk_42_method_147_code_14 : decode jdk_42_method_147_code 14 = .ok (.iload_n 2, 1) := by decide +kernel
theorem own_d_jdk_42_method_147_code_15 : decode jdk_42_method_147_code 15 = .ok (.iload_n 3, 1) := by decide +kernel
theorem own_d_jdk_42_method_147_code_16 : decode jdk_42_method_147_code 16 = .ok (.ishl, 1) := by decide +kernel
theorem own_d_jdk_42_method_147_code_17 : decode jdk_42_method_147_code 17 = .ok (.aload_n 0, 1) := by decide +kernel
theorem own_d_jdk_42_method_147_code_18 : decode jdk_42_method_147_code 18 = .ok (.getfield 9, 3) := by decide +kernel
theorem own_d_jdk_42_method_147_code_21 : decode jdk_42_method_147_code 21 = .ok (.arraylength, 1) := by decide +kernel
theorem own_d_jdk_42_method_147_code_22 : decode jdk_42_method_147_code 22 = .ok (.invokestatic 212, 3) := by decide +kernel
theorem own_d_jdk_42_method_147_code_25 : decode jdk_42_method_147_code 25 = .ok (.goto 18, 3) := by decide +kernel
theorem own_d_jdk_42_method_147_code_43 : decode jdk_42_method_147_code 43 = .ok (.return_, 1) := by decide +kernel
theorem own_d_jdk_68_method_73_code_0 : decode jdk_68_method_73_code 0 = .ok (.aload_n 0, 1) := by decide +kernel
theorem own_d_jdk_68_method_73_code_1 : decode jdk_68_method_73_code 1 = .ok (.aload_n 2, 1) := by decide +kernel
theorem own_d_jdk_68_method_73_code_2 : decode jdk_68_method_73_code 2 = .ok (.invokevirtual 397, 3) := by decide +kernel
theorem own_pd12 : parseMethodDescriptor "(Ljava/lang/String;)V" = some ⟨[(.object "java/lang/String")], none⟩ := by decide +kernel
theorem own_d_jdk_68_method_73_code_5 : decode jdk_68_method_73_code 5 = .ok (.aload_n 2, 1) := by decide +kernel
theorem own_d_jdk_68_method_73_code_6 : decode jdk_68_method_73_code 6 = .ok (.aload_n 0, 1) := by decide +kernel
theorem own_d_jdk_68_method_73_code_7 : decode jdk_68_method_73_code 7 = .ok (.getfield 15, 3) := by decide +kernel
theorem own_d_jdk_68_method_73_code_10 : decode jdk_68_method_73_code 10 = .ok (.iload_n 1, 1) := by decide +kernel
theorem own_d_jdk_68_method_73_code_11 : decode jdk_68_method_73_code 11 = .ok (.aload_n 0, 1) := by decide +kernel
theorem own_d_jdk_68_method_73_code_12 : decode jdk_68_method_73_code 12 = .ok (.getfield 22, 3) := by decide +kernel
theorem own_d_jdk_68_method_73_code_15 : decode jdk_68_method_73_code 15 = .ok (.invokevirtual 399, 3) := by decide +kernel
theorem own_pd13 : parseMethodDescriptor "([BIB)V" = some ⟨[(.array .byte), .int, .byte], none⟩ := by decide +kernel
theorem own_d_jdk_68_method_73_code_18 : decode jdk_68_method_73_code 18 = .ok (.return_, 1) := by decide +kernel
theorem own_d_jdk_68_method_22_code_0 : decode jdk_68_method_22_code 0 = .ok (.aload_n 1, 1) := by decide +kernel
theorem own_d_jdk_68_method_22_code_1 : decode jdk_68_method_22_code 1 = .ok (.ifnonnull 8, 3) := by decide +kernel
theorem own_d_jdk_68_method_22_code_9 : decode jdk_68_method_22_code 9 = .ok (.aload_n 1, 1) := by decide +kernel
theorem own_d_jdk_68_method_22_code_10 : decode jdk_68_method_22_code 10 = .ok (.invokevirtual 32, 3) := by decide +kernel
theorem own_pd14 : parseMethodDescriptor "()I" = some ⟨[], some .int⟩ := by decide +kernel
theorem own_d_jdk_68_method_22_code_13 : decode jdk_68_method_22_code 13 = .ok (.istore_n 2, 1) := by decide +kernel
theorem own_d_jdk_68_method_22_code_14 : decode jdk_68_method_22_code 14 = .ok (.aload_n 0, 1) := by decide +kernel
theorem own_d_jdk_68_method_22_code_15 : decode jdk_68_method_22_code 15 = .ok (.aload_n 0, 1) := by decide +kernel
theorem own_d_jdk_68_method_22_code_16 : decode jdk_68_method_22_code 16 = .ok (.getfield 79, 3) := by decide +kernel
theorem own_d_jdk_68_method_22_code_19 : decode jdk_68_method_22_code 19 = .ok (.iload_n 2, 1) := by decide +kernel
theorem own_d_jdk_68_method_22_code_20 : decode jdk_68_method_22_code 20 = .ok (.iadd, 1) := by decide +kernel
theorem own_d_jdk_68_method_22_code_21 : decode jdk_68_method_22_code 21 = .ok (.invokevirtual 100, 3) := by decide +kernel
theorem own_d_jdk_68_method_22_code_24 : decode jdk_68_method_22_code 24 = .ok (.aload_n 0, 1) := by decide +kernel
theorem own_d_jdk_68_method_22_code_25 : decode jdk_68_method_22_code 25 = .ok (.aload_n 0, 1) := by decide +kernel
theorem own_d_jdk_68_method_22_code_26 : decode jdk_68_method_22_code 26 = .ok (.getfield 79, 3) := by decide +kernel
theorem own_d_jdk_68_method_22_code_29 : decode jdk_68_method_22_code 29 = .ok (.aload_n 1, 1) := by decide +kernel
theorem own_d_jdk_68_method_22_code_30 : decode jdk_68_method_22_code 30 = .ok (.invokevirtual 208, 3) := by decide +kernel
theorem own_pd15 : parseMethodDescriptor "(ILjava/lang/String;)V" = some ⟨[.int, (.object "java/lang/String")], none⟩ := by decide +kernel
theorem own_d_jdk_68_method_22_code_33 : decode jdk_68_method_22_code 33 = .ok (.aload_n 0, 1) := by decide +kernel
theorem own_d_jdk_68_method_22_code_34 : decode jdk_68_method_22_code 34 = .ok (.dup, 1) := by decide +kernel
theorem own_d_jdk_68_method_22_code_35 : decode jdk_68_method_22_code 35 = .ok (.getfield 79, 3) := by decide +kernel
theorem own_d_jdk_68_method_22_code_38 : decode jdk_68_method_22_code 38 = .ok (.iload_n 2, 1) := by decide +kernel
theorem own_d_jdk_68_method_22_code_39 : decode jdk_68_method_22_code 39 = .ok (.iadd, 1) := by decide +kernel
theorem own_d_jdk_68_method_22_code_40 : decode jdk_68_method_22_code 40 = .ok (.putfield 79, 3) := by decide +kernel
theorem own_d_jdk_68_method_22_code_43 : decode jdk_68_method_22_code 43 = .ok (.aload_n 0, 1) := by decide +kernel
theorem own_d_jdk_68_method_22_code_44 : decode jdk_68_method_22_code 44 = .ok (.areturn, 1) := by decide +kernel
theorem own_d_jdk_67_method_7_code_0 : decode jdk_67_method_7_code 0 = .ok (.aload_n 0, 1) := by decide +kernel
theorem own_d_jdk_67_method_7_code_1 : decode jdk_67_method_7_code 1 = .ok (.aload_n 1, 1) := by decide +kernel
theorem own_d_jdk_67_method_7_code_2 : decode jdk_67_method_7_code 2 = .ok (.invokespecial 29, 3) := by decide +kernel
theorem own_pd16 : parseMethodDescriptor "(Ljava/lang/String;)Ljava/lang/AbstractStringBuilder;" = some ⟨[(.object "java/lang/String")], some (.object "java/lang/AbstractStringBuilder")⟩ := by decide +kernel
theorem own_d_jdk_67_method_7_code_5 : decode jdk_67_method_7_code 5 = .ok (.pop, 1) := by decide +kernel
theorem own_d_jdk_67_method_7_code_6 : decode jdk_67_method_7_code 6 = .ok (.aload_n 0, 1) := by decide +kernel
theorem own_d_jdk_67_method_7_code_7 : decode jdk_67_method_7_code 7 = .ok (.areturn, 1) := by decide +kernel
theorem own_d_jdk_65_method_131_code_0 : decode jdk_65_method_131_code 0 = .ok (.iload_n 1, 1) := by decide +kernel
theorem own_d_jdk_65_method_131_code_1 : decode jdk_65_method_131_code 1 = .ok (.iload_n 0, 1) := by decide +kernel
theorem own_d_jdk_65_method_131_code_2 : decode jdk_65_method_131_code 2 = .ok (.if_icmp .ge 35, 3) := by decide +kernel
theorem own_d_jdk_65_method_131_code_37 : decode jdk_65_method_131_code 37 = .ok (.return_, 1) := by decide +kernel
theorem own_d_jdk_65_method_133_code_0 : decode jdk_65_method_133_code 0 = .ok (.iload_n 1, 1) := by decide +kernel
theorem own_d_jdk_65_method_133_code_1 : decode jdk_65_method_133_code 1 = .ok (.iload_n 2, 1) := by decide +kernel
theorem own_d_jdk_65_method_133_code_2 : decode jdk_65_method_133_code 2 = .ok (.invokestatic 343, 3) := by decide +kernel
theorem own_d_jdk_65_method_133_code_5 : decode jdk_65_method_133_code 5 = .ok (.iload_n 2, 1) := by decide +kernel
theorem own_d_jdk_65_method_133_code_6 : decode jdk_65_method_133_code 6 = .ok (.iload_n 1, 1) := by decide +kernel
theorem own_d_jdk_65_method_133_code_7 : decode jdk_65_method_133_code 7 = .ok (.isub, 1) := by decide +kernel
theorem own_d_jdk_65_method_133_code_8 : decode jdk_65_method_133_code 8 = .ok (.istore_n 3, 1) := by decide +kernel
theorem own_d_jdk_65_method_133_code_9 : decode jdk_65_method_133_code 9 = .ok (.iload_n 3, 1) := by decide +kernel
theorem own_d_jdk_65_method_133_code_10 : decode jdk_65_method_133_code 10 = .ok (.newarray .byte, 2) := by decide +kernel
theorem own_d_jdk_65_method_133_code_12 : decode jdk_65_method_133_code 12 = .ok (.astore 4, 2) := by decide +kernel
theorem own_d_jdk_65_method_133_code_14 : decode jdk_65_method_133_code 14 = .ok (.aload_n 0, 1) := by decide +kernel
theorem own_d_jdk_65_method_133_code_15 : decode jdk_65_method_133_code 15 = .ok (.iload_n 1, 1) := by decide +kernel
theorem own_d_jdk_65_method_133_code_16 : decode jdk_65_method_133_code 16 = .ok (.aload 4, 2) := by decide +kernel
theorem own_d_jdk_65_method_133_code_18 : decode jdk_65_method_133_code 18 = .ok (.iconst 0, 1) := by decide +kernel
theorem own_d_jdk_65_method_133_code_19 : decode jdk_65_method_133_code 19 = .ok (.aload_n 0, 1) := by decide +kernel
theorem own_d_jdk_65_method_133_code_20 : decode jdk_65_method_133_code 20 = .ok (.arraylength, 1) := by decide +kernel
theorem own_d_jdk_65_method_133_code_21 : decode jdk_65_method_133_code 21 = .ok (.iload_n 1, 1) := by decide +kernel
theorem own_d_jdk_65_method_133_code_22 : decode jdk_65_method_133_code 22 = .ok (.isub, 1) := by decide +kernel
theorem own_d_jdk_65_method_133_code_23 : decode jdk_65_method_133_code 23 = .ok (.iload_n 3, 1) := by decide +kernel
theorem own_d_jdk_65_method_133_code_24 : decode jdk_65_method_133_code 24 = .ok (.invokestatic 304, 3) := by decide +kernel
theorem own_d_jdk_65_method_133_code_27 : decode jdk_65_method_133_code 27 = .ok (.invokestatic 150, 3) := by decide +kernel
theorem own_d_jdk_65_method_133_code_30 : decode jdk_65_method_133_code 30 = .ok (.aload 4, 2) := by decide +kernel
theorem own_d_jdk_65_method_133_code_32 : decode jdk_65_method_133_code 32 = .ok (.areturn, 1) := by decide +kernel
theorem own_d_jdk_65_method_132_code_0 : decode jdk_65_method_132_code 0 = .ok (.iload_n 1, 1) := by decide +kernel
theorem own_d_jdk_65_method_132_code_1 : decode jdk_65_method_132_code 1 = .ok (.ifCond .ne 9, 3) := by decide +kernel
theorem own_d_jdk_65_method_132_code_4 : decode jdk_65_method_132_code 4 = .ok (.iload_n 2, 1) := by decide +kernel
theorem own_d_jdk_65_method_132_code_5 : decode jdk_65_method_132_code 5 = .ok (.aload_n 0, 1) := by decide +kernel
theorem own_d_jdk_65_method_132_code_6 : decode jdk_65_method_132_code 6 = .ok (.arraylength, 1) := by decide +kernel
theorem own_d_jdk_65_method_132_code_7 : decode jdk_65_method_132_code 7 = .ok (.if_icmp .eq 10, 3) := by decide +kernel
theorem own_d_jdk_65_method_132_code_17 : decode jdk_65_method_132_code 17 = .ok (.aload_n 0, 1) := by decide +kernel
theorem own_d_jdk_65_method_132_code_18 : decode jdk_65_method_132_code 18 = .ok (.invokevirtual 310, 3) := by decide +kernel
theorem own_d_jdk_65_method_132_code_21 : decode jdk_65_method_132_code 21 = .ok (.checkcast 311, 3) := by decide +kernel
theorem own_d_jdk_65_method_132_code_24 : decode jdk_65_method_132_code 24 = .ok (.areturn, 1) := by decide +kernel
theorem own_d_jdk_65_method_132_code_10 : decode jdk_65_method_132_code 10 = .ok (.aload_n 0, 1) := by decide +kernel
theorem own_d_jdk_65_method_132_code_11 : decode jdk_65_method_132_code 11 = .ok (.iload_n 1, 1) := by decide +kernel
theorem own_d_jdk_65_method_132_code_12 : decode jdk_65_method_132_code 12 = .ok (.iload_n 2, 1) := by decide +kernel
theorem own_d_jdk_65_method_132_code_13 : decode jdk_65_method_132_code 13 = .ok (.invokestatic 339, 3) := by decide +kernel
theorem own_pd17 : parseMethodDescriptor "([BII)[B" = some ⟨[(.array .byte), .int, .int], some (.array .byte)⟩ := by decide +kernel
theorem own_d_jdk_65_method_132_code_16 : decode jdk_65_method_132_code 16 = .ok (.areturn, 1) := by decide +kernel
theorem own_d_jdk_68_method_64_code_0 : decode jdk_68_method_64_code 0 = .ok (.aload_n 0, 1) := by decide +kernel
theorem own_d_jdk_68_method_64_code_1 : decode jdk_68_method_64_code 1 = .ok (.getfield 15, 3) := by decide +kernel
theorem own_d_jdk_68_method_64_code_4 : decode jdk_68_method_64_code 4 = .ok (.areturn, 1) := by decide +kernel
theorem own_d_jdk_68_method_6_code_0 : decode jdk_68_method_6_code 0 = .ok (.aload_n 0, 1) := by decide +kernel
theorem own_d_jdk_68_method_6_code_1 : decode jdk_68_method_6_code 1 = .ok (.getfield 79, 3) := by decide +kernel
theorem own_d_jdk_68_method_6_code_4 : decode jdk_68_method_6_code 4 = .ok (.ireturn, 1) := by decide +kernel
theorem own_d_jdk_67_method_93_code_0 : decode jdk_67_method_93_code 0 = .ok (.aload_n 0, 1) := by decide +kernel
theorem own_d_jdk_67_method_93_code_1 : decode jdk_67_method_93_code 1 = .ok (.invokespecial 343, 3) := by decide +kernel
theorem own_d_jdk_67_method_93_code_4 : decode jdk_67_method_93_code 4 = .ok (.ireturn, 1) := by decide +kernel
theorem own_d_jdk_42_method_150_code_0 : decode jdk_42_method_150_code 0 = .ok (.aload_n 0, 1) := by decide +kernel
theorem own_d_jdk_42_method_150_code_1 : decode jdk_42_method_150_code 1 = .ok (.invokespecial 1, 3) := by decide +kernel
theorem own_d_jdk_42_method_150_code_4 : decode jdk_42_method_150_code 4 = .ok (.aload_n 1, 1) := by decide +kernel
theorem own_d_jdk_42_method_150_code_5 : decode jdk_42_method_150_code 5 = .ok (.invokevirtual 552, 3) := by decide +kernel
theorem own_pd18 : parseMethodDescriptor "()[B" = some ⟨[], some (.array .byte)⟩ := by decide +kernel
theorem own_d_jdk_42_method_150_code_8 : decode jdk_42_method_150_code 8 = .ok (.astore_n 3, 1) := by decide +kernel
theorem own_d_jdk_42_method_150_code_9 : decode jdk_42_method_150_code 9 = .ok (.aload_n 1, 1) := by decide +kernel
theorem own_d_jdk_42_method_150_code_10 : decode jdk_42_method_150_code 10 = .ok (.invokevirtual 549, 3) := by decide +kernel
theorem own_d_jdk_42_method_150_code_13 : decode jdk_42_method_150_code 13 = .ok (.istore 4, 2) := by decide +kernel
theorem own_d_jdk_42_method_150_code_15 : decode jdk_42_method_150_code 15 = .ok (.aload_n 1, 1) := by decide +kernel
theorem own_d_jdk_42_method_150_code_16 : decode jdk_42_method_150_code 16 = .ok (.invokevirtual 1047, 3) := by decide +kernel
theorem own_d_jdk_42_method_150_code_19 : decode jdk_42_method_150_code 19 = .ok (.ifCond .eq 22, 3) := by decide +kernel
theorem own_d_jdk_42_method_150_code_22 : decode jdk_42_method_150_code 22 = .ok (.aload_n 0, 1) := by decide +kernel
theorem own_d_jdk_42_method_150_code_23 : decode jdk_42_method_150_code 23 = .ok (.iconst 0, 1) := by decide +kernel
theorem own_d_jdk_42_method_150_code_24 : decode jdk_42_method_150_code 24 = .ok (.putfield 15, 3) := by decide +kernel
theorem own_d_jdk_42_method_150_code_27 : decode jdk_42_method_150_code 27 = .ok (.aload_n 0, 1) := by decide +kernel
theorem own_d_jdk_42_method_150_code_28 : decode jdk_42_method_150_code 28 = .ok (.aload_n 3, 1) := by decide +kernel
theorem own_d_jdk_42_method_150_code_29 : decode jdk_42_method_150_code 29 = .ok (.iconst 0, 1) := by decide +kernel
theorem own_d_jdk_42_method_150_code_30 : decode jdk_42_method_150_code 30 = .ok (.iload 4, 2) := by decide +kernel
theorem own_d_jdk_42_method_150_code_32 : decode jdk_42_method_150_code 32 = .ok (.invokestatic 54, 3) := by decide +kernel
theorem own_d_jdk_42_method_150_code_35 : decode jdk_42_method_150_code 35 = .ok (.putfield 9, 3) := by decide +kernel
theorem own_d_jdk_42_method_150_code_38 : decode jdk_42_method_150_code 38 = .ok (.goto 59, 3) := by decide +kernel
theorem own_d_jdk_42_method_150_code_97 : decode jdk_42_method_150_code 97 = .ok (.return_, 1) := by decide +kernel
theorem own_d_jdk_42_method_53_code_0 : decode jdk_42_method_53_code 0 = .ok (.aload_n 0, 1) := by decide +kernel
theorem own_d_jdk_42_method_53_code_1 : decode jdk_42_method_53_code 1 = .ok (.aload_n 1, 1) := by decide +kernel
theorem own_d_jdk_42_method_53_code_2 : decode jdk_42_method_53_code 2 = .ok (.aconst_null, 1) := by decide +kernel
theorem own_d_jdk_42_method_53_code_3 : decode jdk_42_method_53_code 3 = .ok (.invokespecial 489, 3) := by decide +kernel
theorem own_pd19 : parseMethodDescriptor "(Ljava/lang/AbstractStringBuilder;Ljava/lang/Void;)V" = some ⟨[(.object "java/lang/AbstractStringBuilder"), (.object "java/lang/Void")], none⟩ := by decide +kernel
theorem own_d_jdk_42_method_53_code_6 : decode jdk_42_method_53_code 6 = .ok (.return_, 1) := by decide +kernel
theorem own_d_jdk_67_method_42_code_0 : decode jdk_67_method_42_code 0 = .ok (.new 18, 3) := by decide +kernel
theorem own_d_jdk_67_method_42_code_3 : decode jdk_67_method_42_code 3 = .ok (.dup, 1) := by decide +kernel
theorem own_d_jdk_67_method_42_code_4 : decode jdk_67_method_42_code 4 = .ok (.aload_n 0, 1) := by decide +kernel
theorem own_d_jdk_67_method_42_code_5 : decode jdk_67_method_42_code 5 = .ok (.invokespecial 137, 3) := by decide +kernel
theorem own_pd20 : parseMethodDescriptor "(Ljava/lang/StringBuilder;)V" = some ⟨[(.object "java/lang/StringBuilder")], none⟩ := by decide +kernel
theorem own_d_jdk_67_method_42_code_8 : decode jdk_67_method_42_code 8 = .ok (.areturn, 1) := by decide +kernel
theorem own_d_method_3_code_0 : decode method_3_code 0 = .ok (.iload_n 0, 1) := by decide +kernel
theorem own_d_method_3_code_1 : decode method_3_code 1 = .ok (.bipush 10, 2) := by decide +kernel
theorem own_d_method_3_code_3 : decode method_3_code 3 = .ok (.if_icmp .ge 5, 3) := by decide +kernel
theorem own_d_method_3_code_6 : decode method_3_code 6 = .ok (.iconst 1, 1) := by decide +kernel
theorem own_d_method_3_code_7 : decode method_3_code 7 = .ok (.ireturn, 1) := by decide +kernel
theorem own_d_method_3_code_8 : decode method_3_code 8 = .ok (.iload_n 0, 1) := by decide +kernel
theorem own_d_method_3_code_9 : decode method_3_code 9 = .ok (.bipush 100, 2) := by decide +kernel
theorem own_d_method_3_code_11 : decode method_3_code 11 = .ok (.if_icmp .ge 5, 3) := by decide +kernel
theorem own_d_method_3_code_14 : decode method_3_code 14 = .ok (.iconst 2, 1) := by decide +kernel
theorem own_d_method_3_code_15 : decode method_3_code 15 = .ok (.ireturn, 1) := by decide +kernel
theorem own_d_method_3_code_16 : decode method_3_code 16 = .ok (.iload_n 0, 1) := by decide +kernel
theorem own_d_method_3_code_17 : decode method_3_code 17 = .ok (.sipush 1000, 3) := by decide +kernel
theorem own_d_method_3_code_20 : decode method_3_code 20 = .ok (.if_icmp .ge 5, 3) := by decide +kernel
theorem own_d_method_3_code_23 : decode method_3_code 23 = .ok (.iconst 3, 1) := by decide +kernel
theorem own_d_method_3_code_24 : decode method_3_code 24 = .ok (.ireturn, 1) := by decide +kernel
theorem own_d_method_3_code_25 : decode method_3_code 25 = .ok (.iload_n 0, 1) := by decide +kernel
theorem own_d_method_3_code_26 : decode method_3_code 26 = .ok (.sipush 10000, 3) := by decide +kernel
theorem own_d_method_3_code_29 : decode method_3_code 29 = .ok (.if_icmp .ge 5, 3) := by decide +kernel
theorem own_d_method_3_code_32 : decode method_3_code 32 = .ok (.iconst 4, 1) := by decide +kernel
theorem own_d_method_3_code_33 : decode method_3_code 33 = .ok (.ireturn, 1) := by decide +kernel
theorem own_d_method_3_code_34 : decode method_3_code 34 = .ok (.iload_n 0, 1) := by decide +kernel
theorem own_d_method_3_code_35 : decode method_3_code 35 = .ok (.ldc 37, 2) := by decide +kernel
theorem own_d_method_3_code_37 : decode method_3_code 37 = .ok (.if_icmp .ge 5, 3) := by decide +kernel
theorem own_d_method_3_code_40 : decode method_3_code 40 = .ok (.iconst 5, 1) := by decide +kernel
theorem own_d_method_3_code_41 : decode method_3_code 41 = .ok (.ireturn, 1) := by decide +kernel
theorem own_d_method_3_code_42 : decode method_3_code 42 = .ok (.iload_n 0, 1) := by decide +kernel
theorem own_d_method_3_code_43 : decode method_3_code 43 = .ok (.ldc 38, 2) := by decide +kernel
theorem own_d_method_3_code_45 : decode method_3_code 45 = .ok (.if_icmp .ge 6, 3) := by decide +kernel
theorem own_d_method_3_code_48 : decode method_3_code 48 = .ok (.bipush 6, 2) := by decide +kernel
theorem own_d_method_3_code_50 : decode method_3_code 50 = .ok (.ireturn, 1) := by decide +kernel
theorem own_d_method_3_code_51 : decode method_3_code 51 = .ok (.iload_n 0, 1) := by decide +kernel
theorem own_d_method_3_code_52 : decode method_3_code 52 = .ok (.ldc 39, 2) := by decide +kernel
theorem own_d_method_3_code_54 : decode method_3_code 54 = .ok (.if_icmp .ge 6, 3) := by decide +kernel
theorem own_d_method_3_code_57 : decode method_3_code 57 = .ok (.bipush 7, 2) := by decide +kernel
theorem own_d_method_3_code_59 : decode method_3_code 59 = .ok (.ireturn, 1) := by decide +kernel
theorem own_d_method_3_code_60 : decode method_3_code 60 = .ok (.iload_n 0, 1) := by decide +kernel
theorem own_d_method_3_code_61 : decode method_3_code 61 = .ok (.ldc 40, 2) := by decide +kernel
theorem own_d_method_3_code_63 : decode method_3_code 63 = .ok (.if_icmp .ge 6, 3) := by decide +kernel
theorem own_d_method_3_code_66 : decode method_3_code 66 = .ok (.bipush 8, 2) := by decide +kernel
theorem own_d_method_3_code_68 : decode method_3_code 68 = .ok (.ireturn, 1) := by decide +kernel
theorem own_d_method_3_code_69 : decode method_3_code 69 = .ok (.iload_n 0, 1) := by decide +kernel
theorem own_d_method_3_code_70 : decode method_3_code 70 = .ok (.ldc 41, 2) := by decide +kernel
theorem own_d_method_3_code_72 : decode method_3_code 72 = .ok (.if_icmp .ge 6, 3) := by decide +kernel
theorem own_d_method_3_code_75 : decode method_3_code 75 = .ok (.bipush 9, 2) := by decide +kernel
theorem own_d_method_3_code_77 : decode method_3_code 77 = .ok (.ireturn, 1) := by decide +kernel
theorem own_d_method_3_code_78 : decode method_3_code 78 = .ok (.bipush 10, 2) := by decide +kernel
theorem own_d_method_3_code_80 : decode method_3_code 80 = .ok (.ireturn, 1) := by decide +kernel
theorem own_d_method_4_code_0 : decode method_4_code 0 = .ok (.iload_n 0, 1) := by decide +kernel
theorem own_d_method_4_code_1 : decode method_4_code 1 = .ok (.ifCond .ne 5, 3) := by decide +kernel
theorem own_d_method_4_code_4 : decode method_4_code 4 = .ok (.iconst 1, 1) := by decide +kernel
theorem own_d_method_4_code_5 : decode method_4_code 5 = .ok (.ireturn, 1) := by decide +kernel
theorem own_d_method_4_code_6 : decode method_4_code 6 = .ok (.iload_n 0, 1) := by decide +kernel
theorem own_d_method_4_code_7 : decode method_4_code 7 = .ok (.iconst 1, 1) := by decide +kernel
theorem own_d_method_4_code_8 : decode method_4_code 8 = .ok (.if_icmp .ne 6, 3) := by decide +kernel
theorem own_d_method_4_code_11 : decode method_4_code 11 = .ok (.bipush 10, 2) := by decide +kernel
theorem own_d_method_4_code_13 : decode method_4_code 13 = .ok (.ireturn, 1) := by decide +kernel
theorem own_d_method_4_code_14 : decode method_4_code 14 = .ok (.iload_n 0, 1) := by decide +kernel
theorem own_d_method_4_code_15 : decode method_4_code 15 = .ok (.iconst 2, 1) := by decide +kernel
theorem own_d_method_4_code_16 : decode method_4_code 16 = .ok (.if_icmp .ne 6, 3) := by decide +kernel
theorem own_d_method_4_code_19 : decode method_4_code 19 = .ok (.bipush 100, 2) := by decide +kernel
theorem own_d_method_4_code_21 : decode method_4_code 21 = .ok (.ireturn, 1) := by decide +kernel
theorem own_d_method_4_code_22 : decode method_4_code 22 = .ok (.iload_n 0, 1) := by decide +kernel
theorem own_d_method_4_code_23 : decode method_4_code 23 = .ok (.iconst 3, 1) := by decide +kernel
theorem own_d_method_4_code_24 : decode method_4_code 24 = .ok (.if_icmp .ne 7, 3) := by decide +kernel
theorem own_d_method_4_code_27 : decode method_4_code 27 = .ok (.sipush 1000, 3) := by decide +kernel
theorem own_d_method_4_code_30 : decode method_4_code 30 = .ok (.ireturn, 1) := by decide +kernel
theorem own_d_method_4_code_31 : decode method_4_code 31 = .ok (.iload_n 0, 1) := by decide +kernel
theorem own_d_method_4_code_32 : decode method_4_code 32 = .ok (.iconst 4, 1) := by decide +kernel
theorem own_d_method_4_code_33 : decode method_4_code 33 = .ok (.if_icmp .ne 7, 3) := by decide +kernel
theorem own_d_method_4_code_36 : decode method_4_code 36 = .ok (.sipush 10000, 3) := by decide +kernel
theorem own_d_method_4_code_39 : decode method_4_code 39 = .ok (.ireturn, 1) := by decide +kernel
theorem own_d_method_4_code_40 : decode method_4_code 40 = .ok (.iload_n 0, 1) := by decide +kernel
theorem own_d_method_4_code_41 : decode method_4_code 41 = .ok (.iconst 5, 1) := by decide +kernel
theorem own_d_method_4_code_42 : decode method_4_code 42 = .ok (.if_icmp .ne 6, 3) := by decide +kernel
theorem own_d_method_4_code_45 : decode method_4_code 45 = .ok (.ldc 37, 2) := by decide +kernel
theorem own_d_method_4_code_47 : decode method_4_code 47 = .ok (.ireturn, 1) := by decide +kernel
theorem own_d_method_4_code_48 : decode method_4_code 48 = .ok (.iload_n 0, 1) := by decide +kernel
theorem own_d_method_4_code_49 : decode method_4_code 49 = .ok (.bipush 6, 2) := by decide +kernel
theorem own_d_method_4_code_51 : decode method_4_code 51 = .ok (.if_icmp .ne 6, 3) := by decide +kernel
theorem own_d_method_4_code_54 : decode method_4_code 54 = .ok (.ldc 38, 2) := by decide +kernel
theorem own_d_method_4_code_56 : decode method_4_code 56 = .ok (.ireturn, 1) := by decide +kernel
theorem own_d_method_4_code_57 : decode method_4_code 57 = .ok (.iload_n 0, 1) := by decide +kernel
theorem own_d_method_4_code_58 : decode method_4_code 58 = .ok (.bipush 7, 2) := by decide +kernel
theorem own_d_method_4_code_60 : decode method_4_code 60 = .ok (.if_icmp .ne 6, 3) := by decide +kernel
theorem own_d_method_4_code_63 : decode method_4_code 63 = .ok (.ldc 39, 2) := by decide +kernel
theorem own_d_method_4_code_65 : decode method_4_code 65 = .ok (.ireturn, 1) := by decide +kernel
theorem own_d_method_4_code_66 : decode method_4_code 66 = .ok (.iload_n 0, 1) := by decide +kernel
theorem own_d_method_4_code_67 : decode method_4_code 67 = .ok (.bipush 8, 2) := by decide +kernel
theorem own_d_method_4_code_69 : decode method_4_code 69 = .ok (.if_icmp .ne 6, 3) := by decide +kernel
theorem own_d_method_4_code_72 : decode method_4_code 72 = .ok (.ldc 40, 2) := by decide +kernel
theorem own_d_method_4_code_74 : decode method_4_code 74 = .ok (.ireturn, 1) := by decide +kernel
theorem own_d_method_4_code_75 : decode method_4_code 75 = .ok (.ldc 41, 2) := by decide +kernel
theorem own_d_method_4_code_77 : decode method_4_code 77 = .ok (.ireturn, 1) := by decide +kernel
theorem own_d_method_6_code_0 : decode method_6_code 0 = .ok (.iload 4, 2) := by decide +kernel
theorem own_d_method_6_code_2 : decode method_6_code 2 = .ok (.iload_n 3, 1) := by decide +kernel
theorem own_d_method_6_code_3 : decode method_6_code 3 = .ok (.if_icmp .lt 5, 3) := by decide +kernel
theorem own_d_method_6_code_8 : decode method_6_code 8 = .ok (.iload_n 2, 1) := by decide +kernel
theorem own_d_method_6_code_9 : decode method_6_code 9 = .ok (.iload_n 3, 1) := by decide +kernel
theorem own_d_method_6_code_10 : decode method_6_code 10 = .ok (.iconst 1, 1) := by decide +kernel
theorem own_d_method_6_code_11 : decode method_6_code 11 = .ok (.isub, 1) := by decide +kernel
theorem own_d_method_6_code_12 : decode method_6_code 12 = .ok (.iload 4, 2) := by decide +kernel
theorem own_d_method_6_code_14 : decode method_6_code 14 = .ok (.isub, 1) := by decide +kernel
theorem own_d_method_6_code_15 : decode method_6_code 15 = .ok (.invokestatic 46, 3) := by decide +kernel
theorem own_d_method_6_code_18 : decode method_6_code 18 = .ok (.idiv, 1) := by decide +kernel
theorem own_d_method_6_code_19 : decode method_6_code 19 = .ok (.bipush 10, 2) := by decide +kernel
theorem own_d_method_6_code_21 : decode method_6_code 21 = .ok (.irem, 1) := by decide +kernel
theorem own_d_method_6_code_22 : decode method_6_code 22 = .ok (.istore 5, 2) := by decide +kernel
theorem own_d_method_6_code_24 : decode method_6_code 24 = .ok (.aload_n 0, 1) := by decide +kernel
theorem own_d_method_6_code_25 : decode method_6_code 25 = .ok (.iload_n 1, 1) := by decide +kernel
theorem own_d_method_6_code_26 : decode method_6_code 26 = .ok (.iload 4, 2) := by decide +kernel
theorem own_d_method_6_code_28 : decode method_6_code 28 = .ok (.iadd, 1) := by decide +kernel
theorem own_pd21 : parseMethodDescriptor "(I)C" = some ⟨[.int], some .char⟩ := by decide +kernel
theorem own_d_method_6_code_29 : decode method_6_code 29 = .ok (.invokevirtual 29, 3) := by decide +kernel
theorem own_d_method_6_code_32 : decode method_6_code 32 = .ok (.bipush 48, 2) := by decide +kernel
theorem own_d_method_6_code_34 : decode method_6_code 34 = .ok (.iload 5, 2) := by decide +kernel
theorem own_d_method_6_code_36 : decode method_6_code 36 = .ok (.iadd, 1) := by decide +kernel
theorem own_d_method_6_code_37 : decode method_6_code 37 = .ok (.i2c, 1) := by decide +kernel
theorem own_d_method_6_code_38 : decode method_6_code 38 = .ok (.if_icmp .ne 7, 3) := by decide +kernel
theorem own_d_method_6_code_41 : decode method_6_code 41 = .ok (.iconst 1, 1) := by decide +kernel
theorem own_d_method_6_code_42 : decode method_6_code 42 = .ok (.goto 4, 3) := by decide +kernel
theorem own_d_method_6_code_46 : decode method_6_code 46 = .ok (.ireturn, 1) := by decide +kernel
theorem own_d_method_6_code_6 : decode method_6_code 6 = .ok (.iconst 1, 1) := by decide +kernel
theorem own_d_method_6_code_7 : decode method_6_code 7 = .ok (.ireturn, 1) := by decide +kernel
theorem own_d_method_5_code_0 : decode method_5_code 0 = .ok (.aload_n 0, 1) := by decide +kernel
theorem own_d_method_5_code_1 : decode method_5_code 1 = .ok (.iload_n 1, 1) := by decide +kernel
theorem own_d_method_5_code_2 : decode method_5_code 2 = .ok (.iload_n 2, 1) := by decide +kernel
theorem own_d_method_5_code_3 : decode method_5_code 3 = .ok (.iload_n 3, 1) := by decide +kernel
theorem own_d_method_5_code_4 : decode method_5_code 4 = .ok (.iconst 0, 1) := by decide +kernel
theorem own_d_method_5_code_5 : decode method_5_code 5 = .ok (.invokestatic 42, 3) := by decide +kernel
theorem own_pd22 : parseMethodDescriptor "(Ljava/lang/String;IIII)Z" = some ⟨[(.object "java/lang/String"), .int, .int, .int, .int], some .boolean⟩ := by decide +kernel
theorem own_d_method_5_code_8 : decode method_5_code 8 = .ok (.ifCond .eq 110, 3) := by decide +kernel
theorem own_d_method_5_code_11 : decode method_5_code 11 = .ok (.aload_n 0, 1) := by decide +kernel
theorem own_d_method_5_code_12 : decode method_5_code 12 = .ok (.iload_n 1, 1) := by decide +kernel
theorem own_d_method_5_code_13 : decode method_5_code 13 = .ok (.iload_n 2, 1) := by decide +kernel
theorem own_d_method_5_code_14 : decode method_5_code 14 = .ok (.iload_n 3, 1) := by decide +kernel
theorem own_d_method_5_code_15 : decode method_5_code 15 = .ok (.iconst 1, 1) := by decide +kernel
theorem own_d_method_5_code_16 : decode method_5_code 16 = .ok (.invokestatic 42, 3) := by decide +kernel
theorem own_d_method_5_code_19 : decode method_5_code 19 = .ok (.ifCond .eq 99, 3) := by decide +kernel
theorem own_d_method_5_code_22 : decode method_5_code 22 = .ok (.aload_n 0, 1) := by decide +kernel
theorem own_d_method_5_code_23 : decode method_5_code 23 = .ok (.iload_n 1, 1) := by decide +kernel
theorem own_d_method_5_code_24 : decode method_5_code 24 = .ok (.iload_n 2, 1) := by decide +kernel
theorem own_d_method_5_code_25 : decode method_5_code 25 = .ok (.iload_n 3, 1) := by decide +kernel
theorem own_d_method_5_code_26 : decode method_5_code 26 = .ok (.iconst 2, 1) := by decide +kernel
theorem own_d_method_5_code_27 : decode method_5_code 27 = .ok (.invokestatic 42, 3) := by decide +kernel
theorem own_d_method_5_code_30 : decode method_5_code 30 = .ok (.ifCond .eq 88, 3) := by decide +kernel
theorem own_d_method_5_code_33 : decode method_5_code 33 = .ok (.aload_n 0, 1) := by decide +kernel
theorem own_d_method_5_code_34 : decode method_5_code 34 = .ok (.iload_n 1, 1) := by decide +kernel
theorem own_d_method_5_code_35 : decode method_5_code 35 = .ok (.iload_n 2, 1) := by decide +kernel
theorem own_d_method_5_code_36 : decode method_5_code 36 = .ok (.iload_n 3, 1) := by decide +kernel
theorem own_d_method_5_code_37 : decode method_5_code 37 = .ok (.iconst 3, 1) := by decide +kernel
theorem own_d_method_5_code_38 : decode method_5_code 38 = .ok (.invokestatic 42, 3) := by decide +kernel
theorem own_d_method_5_code_41 : decode method_5_code 41 = .ok (.ifCond .eq 77, 3) := by decide +kernel
theorem own_d_method_5_code_44 : decode method_5_code 44 = .ok (.aload_n 0, 1) := by decide +kernel
theorem own_d_method_5_code_45 : decode method_5_code 45 = .ok (.iload_n 1, 1) := by decide +kernel
theorem own_d_method_5_code_46 : decode method_5_code 46 = .ok (.iload_n 2, 1) := by decide +kernel
theorem own_d_method_5_code_47 : decode method_5_code 47 = .ok (.iload_n 3, 1) := by decide +kernel
theorem own_d_method_5_code_48 : decode method_5_code 48 = .ok (.iconst 4, 1) := by decide +kernel
theorem own_d_method_5_code_49 : decode method_5_code 49 = .ok (.invokestatic 42, 3) := by decide +kernel
theorem own_d_method_5_code_52 : decode method_5_code 52 = .ok (.ifCond .eq 66, 3) := by decide +kernel
theorem own_d_method_5_code_55 : decode method_5_code 55 = .ok (.aload_n 0, 1) := by decide +kernel
theorem own_d_method_5_code_56 : decode method_5_code 56 = .ok (.iload_n 1, 1) := by decide +kernel
theorem own_d_method_5_code_57 : decode method_5_code 57 = .ok (.iload_n 2, 1) := by decide +kernel
theorem own_d_method_5_code_58 : decode method_5_code 58 = .ok (.iload_n 3, 1) := by decide +kernel
theorem own_d_method_5_code_59 : decode method_5_code 59 = .ok (.iconst 5, 1) := by decide +kernel
theorem own_d_method_5_code_60 : decode method_5_code 60 = .ok (.invokestatic 42, 3) := by decide +kernel
theorem own_d_method_5_code_63 : decode method_5_code 63 = .ok (.ifCond .eq 55, 3) := by decide +kernel
theorem own_d_method_5_code_66 : decode method_5_code 66 = .ok (.aload_n 0, 1) := by decide +kernel
theorem own_d_method_5_code_67 : decode method_5_code 67 = .ok (.iload_n 1, 1) := by decide +kernel
theorem own_d_method_5_code_68 : decode method_5_code 68 = .ok (.iload_n 2, 1) := by decide +kernel
theorem own_d_method_5_code_69 : decode method_5_code 69 = .ok (.iload_n 3, 1) := by decide +kernel
theorem own_d_method_5_code_70 : decode method_5_code 70 = .ok (.bipush 6, 2) := by decide +kernel
theorem own_d_method_5_code_72 : decode method_5_code 72 = .ok (.invokestatic 42, 3) := by decide +kernel
theorem own_d_method_5_code_75 : decode method_5_code 75 = .ok (.ifCond .eq 43, 3) := by decide +kernel
theorem own_d_method_5_code_78 : decode method_5_code 78 = .ok (.aload_n 0, 1) := by decide +kernel
theorem own_d_method_5_code_79 : decode method_5_code 79 = .ok (.iload_n 1, 1) := by decide +kernel
theorem own_d_method_5_code_80 : decode method_5_code 80 = .ok (.iload_n 2, 1) := by decide +kernel
theorem own_d_method_5_code_81 : decode method_5_code 81 = .ok (.iload_n 3, 1) := by decide +kernel
theorem own_d_method_5_code_82 : decode method_5_code 82 = .ok (.bipush 7, 2) := by decide +kernel
theorem own_d_method_5_code_84 : decode method_5_code 84 = .ok (.invokestatic 42, 3) := by decide +kernel
theorem own_d_method_5_code_87 : decode method_5_code 87 = .ok (.ifCond .eq 31, 3) := by decide +kernel
theorem own_d_method_5_code_90 : decode method_5_code 90 = .ok (.aload_n 0, 1) := by decide +kernel
theorem own_d_method_5_code_91 : decode method_5_code 91 = .ok (.iload_n 1, 1) := by decide +kernel
theorem own_d_method_5_code_92 : decode method_5_code 92 = .ok (.iload_n 2, 1) := by decide +kernel
theorem own_d_method_5_code_93 : decode method_5_code 93 = .ok (.iload_n 3, 1) := by decide +kernel
theorem own_d_method_5_code_94 : decode method_5_code 94 = .ok (.bipush 8, 2) := by decide +kernel
theorem own_d_method_5_code_96 : decode method_5_code 96 = .ok (.invokestatic 42, 3) := by decide +kernel
theorem own_d_method_5_code_99 : decode method_5_code 99 = .ok (.ifCond .eq 19, 3) := by decide +kernel
theorem own_d_method_5_code_102 : decode method_5_code 102 = .ok (.aload_n 0, 1) := by decide +kernel
theorem own_d_method_5_code_103 : decode method_5_code 103 = .ok (.iload_n 1, 1) := by decide +kernel
theorem own_d_method_5_code_104 : decode method_5_code 104 = .ok (.iload_n 2, 1) := by decide +kernel
theorem own_d_method_5_code_105 : decode method_5_code 105 = .ok (.iload_n 3, 1) := by decide +kernel
theorem own_d_method_5_code_106 : decode method_5_code 106 = .ok (.bipush 9, 2) := by decide +kernel
theorem own_d_method_5_code_108 : decode method_5_code 108 = .ok (.invokestatic 42, 3) := by decide +kernel
theorem own_d_method_5_code_111 : decode method_5_code 111 = .ok (.ifCond .eq 7, 3) := by decide +kernel
theorem own_d_method_5_code_114 : decode method_5_code 114 = .ok (.iconst 1, 1) := by decide +kernel
theorem own_d_method_5_code_115 : decode method_5_code 115 = .ok (.goto 4, 3) := by decide +kernel
theorem own_d_method_5_code_119 : decode method_5_code 119 = .ok (.ireturn, 1) := by decide +kernel
theorem own_d_prog_14_method_1_code_0 : decode prog_14_method_1_code 0 = .ok (.aload_n 0, 1) := by decide +kernel
theorem own_d_prog_14_method_1_code_1 : decode prog_14_method_1_code 1 = .ok (.invokespecial 1, 3) := by decide +kernel
theorem own_pd23 : parseMethodDescriptor "()V" = some ⟨[], none⟩ := by decide +kernel
theorem own_d_prog_14_method_1_code_4 : decode prog_14_method_1_code 4 = .ok (.iload_n 1, 1) := by decide +kernel
theorem own_d_prog_14_method_1_code_5 : decode prog_14_method_1_code 5 = .ok (.iconst 1, 1) := by decide +kernel
theorem own_d_prog_14_method_1_code_6 : decode prog_14_method_1_code 6 = .ok (.if_icmp .lt 8, 3) := by decide +kernel
theorem own_d_prog_14_method_1_code_9 : decode prog_14_method_1_code 9 = .ok (.iload_n 2, 1) := by decide +kernel
theorem own_d_prog_14_method_1_code_10 : decode prog_14_method_1_code 10 = .ok (.iconst 1, 1) := by decide +kernel
theorem own_d_prog_14_method_1_code_11 : decode prog_14_method_1_code 11 = .ok (.if_icmp .ge 13, 3) := by decide +kernel
theorem own_d_prog_14_method_1_code_24 : decode prog_14_method_1_code 24 = .ok (.aload_n 0, 1) := by decide +kernel
theorem own_d_prog_14_method_1_code_25 : decode prog_14_method_1_code 25 = .ok (.iload_n 1, 1) := by decide +kernel
theorem own_d_prog_14_method_1_code_26 : decode prog_14_method_1_code 26 = .ok (.putfield 16, 3) := by decide +kernel
theorem own_d_prog_14_method_1_code_29 : decode prog_14_method_1_code 29 = .ok (.aload_n 0, 1) := by decide +kernel
theorem own_d_prog_14_method_1_code_30 : decode prog_14_method_1_code 30 = .ok (.iload_n 2, 1) := by decide +kernel
theorem own_d_prog_14_method_1_code_31 : decode prog_14_method_1_code 31 = .ok (.putfield 20, 3) := by decide +kernel
theorem own_d_prog_14_method_1_code_34 : decode prog_14_method_1_code 34 = .ok (.return_, 1) := by decide +kernel
theorem own_d_prog_14_method_3_code_0 : decode prog_14_method_3_code 0 = .ok (.new 52, 3) := by decide +kernel
theorem own_d_prog_14_method_3_code_3 : decode prog_14_method_3_code 3 = .ok (.dup, 1) := by decide +kernel
theorem own_d_prog_14_method_3_code_4 : decode prog_14_method_3_code 4 = .ok (.invokespecial 54, 3) := by decide +kernel
theorem own_d_prog_14_method_3_code_7 : decode prog_14_method_3_code 7 = .ok (.aload_n 0, 1) := by decide +kernel
theorem own_d_prog_14_method_3_code_8 : decode prog_14_method_3_code 8 = .ok (.getfield 16, 3) := by decide +kernel
theorem own_d_prog_14_method_3_code_11 : decode prog_14_method_3_code 11 = .ok (.invokevirtual 55, 3) := by decide +kernel
theorem own_pd24 : parseMethodDescriptor "(I)Ljava/lang/StringBuilder;" = some ⟨[.int], some (.object "java/lang/StringBuilder")⟩ := by decide +kernel
theorem own_in_sa : ∀ d ∈ Bundle.stringAtoms, d ∈ tables_1 := by decide +kernel
theorem own_d_prog_14_method_3_code_14 : decode prog_14_method_3_code 14 = .ok (.ldc 59, 2) := by decide +kernel
theorem own_pd25 : parseMethodDescriptor "(Ljava/lang/String;)Ljava/lang/StringBuilder;" = some ⟨[(.object "java/lang/String")], some (.object "java/lang/StringBuilder")⟩ := by decide +kernel
theorem own_d_prog_14_method_3_code_16 : decode prog_14_method_3_code 16 = .ok (.invokevirtual 61, 3) := by decide +kernel
theorem own_d_prog_14_method_3_code_19 : decode prog_14_method_3_code 19 = .ok (.aload_n 0, 1) := by decide +kernel
theorem own_d_prog_14_method_3_code_20 : decode prog_14_method_3_code 20 = .ok (.getfield 20, 3) := by decide +kernel
theorem own_d_prog_14_method_3_code_23 : decode prog_14_method_3_code 23 = .ok (.invokevirtual 55, 3) := by decide +kernel
theorem own_d_prog_14_method_3_code_26 : decode prog_14_method_3_code 26 = .ok (.invokevirtual 64, 3) := by decide +kernel
theorem own_pd26 : parseMethodDescriptor "()Ljava/lang/String;" = some ⟨[], some (.object "java/lang/String")⟩ := by decide +kernel
theorem own_d_prog_14_method_3_code_29 : decode prog_14_method_3_code 29 = .ok (.areturn, 1) := by decide +kernel
theorem own_pd27 : parseMethodDescriptor "(Ljava/lang/String;III)Z" = some ⟨[(.object "java/lang/String"), .int, .int, .int], some .boolean⟩ := by decide +kernel
theorem own_ef_own_maxN (m : MethodId) (x : Nat) (y : Nat) : entryFrame m #[(.int (Int32.ofNat x)), (.int (Int32.ofNat y))] 2 = mkF m 0 #[.val (.int (Int32.ofNat x)), .val (.int (Int32.ofNat y))] [] := by first | (simp [entryFrame, mkF, argsToLocals, own_cI, own_cJ, own_cR, own_cN]; done) | rfl
abbrev own_F_own_maxN (m : MethodId) (x : Nat) (y : Nat) : JFrame := entryFrame m #[(.int (Int32.ofNat x)), (.int (Int32.ofNat y))] 2
def Q_own_maxN (Z : State) (x : Nat) (y : Nat) (h0 : Heap) (n0 : Nat) (v : Option Value) (h : Heap) (L : List Loc) : Prop := v = some (.int (Int32.ofNat (max x y))) ∧ Fr n0 L ∧ h = h0
set_option maxRecDepth 65536 in
set_option maxHeartbeats 40000000 in
theorem own_maxN (l : Launch) (Z : State) (a0 : Array Value) (hw : ∀ d ∈ tables_1, d.before a0 Z = true) (ws : List Jvm.Cond) (x : Nat) (y : Nat) (h0 : Heap) (n0 : Nat) (O0 : Old Z n0 h0) (hxs : x ≤ 1000000) (hys : y ≤ 1000000) :
    MetFree l (⟨"java/lang/Math", "max", "(II)I"⟩ : MethodName) (head1 (Jvm.Cond.code (⟨"java/lang/Math", "max", "(II)I"⟩ : MethodName) jdk_29_method_65_code 2 (some .int) :: ws) ({ frames := 0, cells := 0, slots := 0, locals := 0 } : Room)) (fun aa_ U_ => aa_ = #[(.int (Int32.ofNat x)), (.int (Int32.ofNat y))] ∧ Z.Warmed39 U_.vm ∧ U_.heap = h0) (fun _ _ _ _ _ => True) (fun _ U_ o_ V_ => ∃ v_ L_, o_ = .returned v_ ∧ Q_own_maxN Z x y h0 n0 v_ V_.heap L_ ∧ FrameEnd U_ o_ V_ L_ ({ frames := 0, cells := 0, slots := 0, locals := 0 } : Room).cells ({ frames := 0, cells := 0, slots := 0, locals := 0 } : Room).slots) := by
  refine MetFree.of_bodySF (Jvm.Free.JP.mathPlain rfl (by decide +kernel)) hisR ?_
  intro p e s m args below meth c s₁ Bd hml0 hP hK
  obtain ⟨rfl, hZ, hh⟩ := hP
  have hx := Bd.exec
  have hby := Bd.bytes
  have hml : c.maxLocals = 2 := hml0
  have hown : s.vm.findClass "java/lang/Math" = some m.cls := findClass_of_methodNamed Bd.named
  have hnm := (name_of_methodNamed Bd.named Bd.method).1
  have X0 : Stand p l e ({ frames := 0, cells := 0, slots := 0, locals := 0 } : Room) s m #[(.int (Int32.ofNat x)), (.int (Int32.ofNat y))] below meth c s₁ [] 0 0 := Stand.of_body Bd
  have e0 : s₁.heap = h0 := by rw [← hh, Bd.state]; rfl
  have N0 := Fr.nil n0
  have K0 : Keep h0 h0 [] := Keep.refl _ _
  have r0 : GoTo p.tables e below s₁ (own_F_own_maxN m x y) s₁ (mkF m 0 #[.val (.int (Int32.ofNat x)), .val (.int (Int32.ofNat y))] []) := fun tt_ kk_ => castTop (own_ef_own_maxN m x y) kk_
  have r1 : GoTo p.tables e below s₁ (own_F_own_maxN m x y) s₁ (mkF m 2 #[.val (.int (Int32.ofNat x)), .val (.int (Int32.ofNat y))] [(.int (Int32.ofNat y)), (.int (Int32.ofNat x))]) := fun tt_ kk_ => r0 tt_ (by
      show Steps p.tables e below (s₁.setTop (mkF m 0 #[.val (.int (Int32.ofNat x)), .val (.int (Int32.ofNat y))] [])) _
      refine XS.iloadN X0.here hx rfl (hb hby own_d_jdk_29_method_65_code_0) rfl ?_
      show Steps p.tables e below (s₁.setTop (mkF m 1 #[.val (.int (Int32.ofNat x)), .val (.int (Int32.ofNat y))] [(.int (Int32.ofNat x))])) _
      refine XS.iloadN X0.here hx rfl (hb hby own_d_jdk_29_method_65_code_1) rfl ?_
      show Steps p.tables e below (s₁.setTop (mkF m 2 #[.val (.int (Int32.ofNat x)), .val (.int (Int32.ofNat y))] [(.int (Int32.ofNat y)), (.int (Int32.ofNat x))])) _
      exact kk_)
  by_cases hc2 : (Int32.ofNat x) < (Int32.ofNat y)
  · obtain ⟨fs, hr, hrun, hended, hW, hsame⟩ := X0.leave (v := some (.int (Int32.ofNat y))) (fun h => by rw [Bd.returns] at h; cases h)
    refine ⟨_, _, r1 _ ?_, hrun, hended, _, _, rfl, ?_, ⟨_, rfl⟩, hW, hsame.mono (by decide) (by decide)⟩
    · show Steps p.tables e below (s₁.setTop (mkF m 2 #[.val (.int (Int32.ofNat x)), .val (.int (Int32.ofNat y))] [(.int (Int32.ofNat y)), (.int (Int32.ofNat x))])) _
      refine XS.icmpYes X0.here hx rfl (pc0 := 2) (pc' := 9) rfl (hb hby own_d_jdk_29_method_65_code_2) rfl (tlt hc2).1 (by decide) (by decide) ?_
      show Steps p.tables e below (s₁.setTop (mkF m 9 #[.val (.int (Int32.ofNat x)), .val (.int (Int32.ofNat y))] [])) _
      refine XS.iloadN X0.here hx rfl (hb hby own_d_jdk_29_method_65_code_9) rfl ?_
      show Steps p.tables e below (s₁.setTop (mkF m 10 #[.val (.int (Int32.ofNat x)), .val (.int (Int32.ofNat y))] [(.int (Int32.ofNat y))])) _
      exact retI X0 hx Bd.returns (hb hby own_d_jdk_29_method_65_code_10) hr
    · show Q_own_maxN Z x y h0 n0 _ s₁.heap _
      rw [e0]
      exact ⟨(own_maxT ((own_ltN hxs hys).mp hc2)), N0, rfl⟩
  · obtain ⟨fs, hr, hrun, hended, hW, hsame⟩ := X0.leave (v := some (.int (Int32.ofNat x))) (fun h => by rw [Bd.returns] at h; cases h)
    refine ⟨_, _, r1 _ ?_, hrun, hended, _, _, rfl, ?_, ⟨_, rfl⟩, hW, hsame.mono (by decide) (by decide)⟩
    · show Steps p.tables e below (s₁.setTop (mkF m 2 #[.val (.int (Int32.ofNat x)), .val (.int (Int32.ofNat y))] [(.int (Int32.ofNat y)), (.int (Int32.ofNat x))])) _
      refine XS.icmpNo X0.here hx rfl (hb hby own_d_jdk_29_method_65_code_2) rfl (flt hc2).1 ?_
      show Steps p.tables e below (s₁.setTop (mkF m 5 #[.val (.int (Int32.ofNat x)), .val (.int (Int32.ofNat y))] [])) _
      refine XS.iloadN X0.here hx rfl (hb hby own_d_jdk_29_method_65_code_5) rfl ?_
      show Steps p.tables e below (s₁.setTop (mkF m 6 #[.val (.int (Int32.ofNat x)), .val (.int (Int32.ofNat y))] [(.int (Int32.ofNat x))])) _
      refine XS.goto X0.here hx rfl (pc0 := 6) (pc' := 10) rfl (hb hby own_d_jdk_29_method_65_code_6) (by decide) (by decide) ?_
      show Steps p.tables e below (s₁.setTop (mkF m 10 #[.val (.int (Int32.ofNat x)), .val (.int (Int32.ofNat y))] [(.int (Int32.ofNat x))])) _
      exact retI X0 hx Bd.returns (hb hby own_d_jdk_29_method_65_code_10) hr
    · show Q_own_maxN Z x y h0 n0 _ s₁.heap _
      rw [e0]
      exact ⟨(own_maxF (fun z => hc2 ((own_ltN hxs hys).mpr z))), N0, rfl⟩
theorem own_ef_own_minN (m : MethodId) (x : Nat) (y : Nat) : entryFrame m #[(.int (Int32.ofNat x)), (.int (Int32.ofNat y))] 2 = mkF m 0 #[.val (.int (Int32.ofNat x)), .val (.int (Int32.ofNat y))] [] := by first | (simp [entryFrame, mkF, argsToLocals, own_cI, own_cJ, own_cR, own_cN]; done) | rfl
abbrev own_F_own_minN (m : MethodId) (x : Nat) (y : Nat) : JFrame := entryFrame m #[(.int (Int32.ofNat x)), (.int (Int32.ofNat y))] 2
def Q_own_minN (Z : State) (x : Nat) (y : Nat) (h0 : Heap) (n0 : Nat) (v : Option Value) (h : Heap) (L : List Loc) : Prop := v = some (.int (Int32.ofNat (min x y))) ∧ Fr n0 L ∧ h = h0
set_option maxRecDepth 65536 in
set_option maxHeartbeats 40000000 in
theorem own_minN (l : Launch) (Z : State) (a0 : Array Value) (hw : ∀ d ∈ tables_1, d.before a0 Z = true) (ws : List Jvm.Cond) (x : Nat) (y : Nat) (h0 : Heap) (n0 : Nat) (O0 : Old Z n0 h0) (hxs : x ≤ 1000000) (hys : y ≤ 1000000) :
    MetFree l (⟨"java/lang/Math", "min", "(II)I"⟩ : MethodName) (head1 (Jvm.Cond.code (⟨"java/lang/Math", "min", "(II)I"⟩ : MethodName) jdk_29_method_69_code 2 (some .int) :: ws) ({ frames := 0, cells := 0, slots := 0, locals := 0 } : Room)) (fun aa_ U_ => aa_ = #[(.int (Int32.ofNat x)), (.int (Int32.ofNat y))] ∧ Z.Warmed39 U_.vm ∧ U_.heap = h0) (fun _ _ _ _ _ => True) (fun _ U_ o_ V_ => ∃ v_ L_, o_ = .returned v_ ∧ Q_own_minN Z x y h0 n0 v_ V_.heap L_ ∧ FrameEnd U_ o_ V_ L_ ({ frames := 0, cells := 0, slots := 0, locals := 0 } : Room).cells ({ frames := 0, cells := 0, slots := 0, locals := 0 } : Room).slots) := by
  refine MetFree.of_bodySF (Jvm.Free.JP.mathPlain rfl (by decide +kernel)) hisR ?_
  intro p e s m args below meth c s₁ Bd hml0 hP hK
  obtain ⟨rfl, hZ, hh⟩ := hP
  have hx := Bd.exec
  have hby := Bd.bytes
  have hml : c.maxLocals = 2 := hml0
  have hown : s.vm.findClass "java/lang/Math" = some m.cls := findClass_of_methodNamed Bd.named
  have hnm := (name_of_methodNamed Bd.named Bd.method).1
  have X0 : Stand p l e ({ frames := 0, cells := 0, slots := 0, locals := 0 } : Room) s m #[(.int (Int32.ofNat x)), (.int (Int32.ofNat y))] below meth c s₁ [] 0 0 := Stand.of_body Bd
  have e0 : s₁.heap = h0 := by rw [← hh, Bd.state]; rfl
  have N0 := Fr.nil n0
  have K0 : Keep h0 h0 [] := Keep.refl _ _
  have r0 : GoTo p.tables e below s₁ (own_F_own_minN m x y) s₁ (mkF m 0 #[.val (.int (Int32.ofNat x)), .val (.int (Int32.ofNat y))] []) := fun tt_ kk_ => castTop (own_ef_own_minN m x y) kk_
  have r1 : GoTo p.tables e below s₁ (own_F_own_minN m x y) s₁ (mkF m 2 #[.val (.int (Int32.ofNat x)), .val (.int (Int32.ofNat y))] [(.int (Int32.ofNat y)), (.int (Int32.ofNat x))]) := fun tt_ kk_ => r0 tt_ (by
      show Steps p.tables e below (s₁.setTop (mkF m 0 #[.val (.int (Int32.ofNat x)), .val (.int (Int32.ofNat y))] [])) _
      refine XS.iloadN X0.here hx rfl (hb hby own_d_jdk_29_method_69_code_0) rfl ?_
      show Steps p.tables e below (s₁.setTop (mkF m 1 #[.val (.int (Int32.ofNat x)), .val (.int (Int32.ofNat y))] [(.int (Int32.ofNat x))])) _
      refine XS.iloadN X0.here hx rfl (hb hby own_d_jdk_29_method_69_code_1) rfl ?_
      show Steps p.tables e below (s₁.setTop (mkF m 2 #[.val (.int (Int32.ofNat x)), .val (.int (Int32.ofNat y))] [(.int (Int32.ofNat y)), (.int (Int32.ofNat x))])) _
      exact kk_)
  by_cases hc2 : (Int32.ofNat y) < (Int32.ofNat x)
  · obtain ⟨fs, hr, hrun, hended, hW, hsame⟩ := X0.leave (v := some (.int (Int32.ofNat y))) (fun h => by rw [Bd.returns] at h; cases h)
    refine ⟨_, _, r1 _ ?_, hrun, hended, _, _, rfl, ?_, ⟨_, rfl⟩, hW, hsame.mono (by decide) (by decide)⟩
    · show Steps p.tables e below (s₁.setTop (mkF m 2 #[.val (.int (Int32.ofNat x)), .val (.int (Int32.ofNat y))] [(.int (Int32.ofNat y)), (.int (Int32.ofNat x))])) _
      refine XS.icmpYes X0.here hx rfl (pc0 := 2) (pc' := 9) rfl (hb hby own_d_jdk_29_method_69_code_2) rfl (tlt hc2).2.2.1 (by decide) (by decide) ?_
      show Steps p.tables e below (s₁.setTop (mkF m 9 #[.val (.int (Int32.ofNat x)), .val (.int (Int32.ofNat y))] [])) _
      refine XS.iloadN X0.here hx rfl (hb hby own_d_jdk_29_method_69_code_9) rfl ?_
      show Steps p.tables e below (s₁.setTop (mkF m 10 #[.val (.int (Int32.ofNat x)), .val (.int (Int32.ofNat y))] [(.int (Int32.ofNat y))])) _
      exact retI X0 hx Bd.returns (hb hby own_d_jdk_29_method_69_code_10) hr
    · show Q_own_minN Z x y h0 n0 _ s₁.heap _
      rw [e0]
      exact ⟨(own_minT ((own_ltN hys hxs).mp hc2)), N0, rfl⟩
  · obtain ⟨fs, hr, hrun, hended, hW, hsame⟩ := X0.leave (v := some (.int (Int32.ofNat x))) (fun h => by rw [Bd.returns] at h; cases h)
    refine ⟨_, _, r1 _ ?_, hrun, hended, _, _, rfl, ?_, ⟨_, rfl⟩, hW, hsame.mono (by decide) (by decide)⟩
    · show Steps p.tables e below (s₁.setTop (mkF m 2 #[.val (.int (Int32.ofNat x)), .val (.int (Int32.ofNat y))] [(.int (Int32.ofNat y)), (.int (Int32.ofNat x))])) _
      refine XS.icmpNo X0.here hx rfl (hb hby own_d_jdk_29_method_69_code_2) rfl (flt hc2).2.2.1 ?_
      show Steps p.tables e below (s₁.setTop (mkF m 5 #[.val (.int (Int32.ofNat x)), .val (.int (Int32.ofNat y))] [])) _
      refine XS.iloadN X0.here hx rfl (hb hby own_d_jdk_29_method_69_code_5) rfl ?_
      show Steps p.tables e below (s₁.setTop (mkF m 6 #[.val (.int (Int32.ofNat x)), .val (.int (Int32.ofNat y))] [(.int (Int32.ofNat x))])) _
      refine XS.goto X0.here hx rfl (pc0 := 6) (pc' := 10) rfl (hb hby own_d_jdk_29_method_69_code_6) (by decide) (by decide) ?_
      show Steps p.tables e below (s₁.setTop (mkF m 10 #[.val (.int (Int32.ofNat x)), .val (.int (Int32.ofNat y))] [(.int (Int32.ofNat x))])) _
      exact retI X0 hx Bd.returns (hb hby own_d_jdk_29_method_69_code_10) hr
    · show Q_own_minN Z x y h0 n0 _ s₁.heap _
      rw [e0]
      exact ⟨(own_minF (fun z => hc2 ((own_ltN hys hxs).mpr z))), N0, rfl⟩
theorem own_pn_own_rec : plainName "java/lang/Record" = true := by first | (simp [plainName, overriddenIn]; done) | decide +kernel
theorem own_ef_own_rec (m : MethodId) (a : Addr) : entryFrame m #[(.ref a)] 1 = mkF m 0 #[.val (.ref a)] [] := by first | (simp [entryFrame, mkF, argsToLocals, own_cI, own_cJ, own_cR, own_cN]; done) | rfl
abbrev own_F_own_rec (m : MethodId) (a : Addr) : JFrame := entryFrame m #[(.ref a)] 1
def Q_own_rec (Z : State) (a : Addr) (h0 : Heap) (n0 : Nat) (v : Option Value) (h : Heap) (L : List Loc) : Prop := v = none ∧ Fr n0 L ∧ h = h0
set_option maxRecDepth 65536 in
set_option maxHeartbeats 40000000 in
theorem own_rec (l : Launch) (Z : State) (a0 : Array Value) (hw : ∀ d ∈ tables_1, d.before a0 Z = true) (ws : List Jvm.Cond) (a : Addr) (h0 : Heap) (n0 : Nat) (O0 : Old Z n0 h0) :
    MetFree l (⟨"java/lang/Record", "<init>", "()V"⟩ : MethodName) (head1 (Jvm.Cond.code (⟨"java/lang/Record", "<init>", "()V"⟩ : MethodName) jdk_30_method_1_code 1 none :: ws) ({ frames := 1, cells := 0, slots := 0, locals := 12 } : Room)) (fun aa_ U_ => aa_ = #[(.ref a)] ∧ Z.Warmed39 U_.vm ∧ U_.heap = h0) (fun _ _ _ _ _ => True) (fun _ U_ o_ V_ => ∃ v_ L_, o_ = .returned v_ ∧ Q_own_rec Z a h0 n0 v_ V_.heap L_ ∧ FrameEnd U_ o_ V_ L_ ({ frames := 1, cells := 0, slots := 0, locals := 12 } : Room).cells ({ frames := 1, cells := 0, slots := 0, locals := 12 } : Room).slots) := by
  refine MetFree.of_bodySF (plainFor_of_name own_pn_own_rec) hisR ?_
  intro p e s m args below meth c s₁ Bd hml0 hP hK
  obtain ⟨rfl, hZ, hh⟩ := hP
  have hx := Bd.exec
  have hby := Bd.bytes
  have hml : c.maxLocals = 1 := hml0
  have hown : s.vm.findClass "java/lang/Record" = some m.cls := findClass_of_methodNamed Bd.named
  have hnm := (name_of_methodNamed Bd.named Bd.method).1
  have X0 : Stand p l e ({ frames := 1, cells := 0, slots := 0, locals := 12 } : Room) s m #[(.ref a)] below meth c s₁ [] 0 0 := Stand.of_body Bd
  have e0 : s₁.heap = h0 := by rw [← hh, Bd.state]; rfl
  have N0 := Fr.nil n0
  have K0 : Keep h0 h0 [] := Keep.refl _ _
  have r0 : GoTo p.tables e below s₁ (own_F_own_rec m a) s₁ (mkF m 0 #[.val (.ref a)] []) := fun tt_ kk_ => castTop (own_ef_own_rec m a) kk_
  obtain ⟨T1, X1, e1, st1⟩ := initO X0 hx hZ hown (hw _ (List.mem_of_getElem? (i := 12) rfl)) (hw _ (List.mem_of_getElem? (i := 13) rfl)) (hw _ (List.mem_of_getElem? (i := 14) rfl)) e0 (g := (mkF m 1 #[.val (.ref a)] [(.ref a)])) rfl (by rw [hml]; rfl) rfl (hb hby own_d_jdk_30_method_1_code_1) (by decide) (W := 0) (by show 2 * 0 + _ ≤ _; exact Nat.le_of_eq rfl) (by decide)
  obtain ⟨fs, hr, hrun, hended, hW, hsame⟩ := X1.leave (v := none) (fun _ => rfl)
  refine ⟨_, _, r0 _ ?_, hrun, hended, _, _, rfl, ?_, ⟨_, rfl⟩, hW, hsame.mono (by decide) (by decide)⟩
  · show Steps p.tables e below (s₁.setTop (mkF m 0 #[.val (.ref a)] [])) _
    refine XS.aloadN X0.here hx rfl (hb hby own_d_jdk_30_method_1_code_0) rfl rfl ?_
    show Steps p.tables e below (s₁.setTop (mkF m 1 #[.val (.ref a)] [(.ref a)])) _
    refine st1 _ ?_
    show Steps p.tables e below (T1.setTop (mkF m 4 #[.val (.ref a)] [])) _
    exact X1.returnOut hx Bd.returns (hb hby own_d_jdk_30_method_1_code_4) hr
  · show Q_own_rec Z a h0 n0 _ T1.heap _
    rw [e1]
    exact ⟨rfl, N0, rfl⟩
theorem own_pn_own_asbinit : plainName "java/lang/AbstractStringBuilder" = true := by first | (simp [plainName, overriddenIn]; done) | decide +kernel
theorem own_ef_own_asbinit (m : MethodId) (b : Addr) : entryFrame m #[(.ref b), (.int (16 : Int32))] 2 = mkF m 0 #[.val (.ref b), .val (.int (16 : Int32))] [] := by first | (simp [entryFrame, mkF, argsToLocals, own_cI, own_cJ, own_cR, own_cN]; done) | rfl
abbrev own_F_own_asbinit (m : MethodId) (b : Addr) : JFrame := entryFrame m #[(.ref b), (.int (16 : Int32))] 2
def Q_own_asbinit (Z : State) (b : Addr) (gCS : Int32) (h0 : Heap) (n0 : Nat) (v : Option Value) (h : Heap) (L : List Loc) : Prop := ∃ (d : Addr), ∃ (kd : ClassId), v = none ∧ Fr n0 L ∧ Keep h0 h [b] ∧ (h0.size ≤ d) ∧ (n0 ≤ d) ∧ (own_SB Z h b d kd 16 ([] : List Int32))
set_option maxRecDepth 65536 in
set_option maxHeartbeats 40000000 in
theorem own_asbinit (l : Launch) (Z : State) (a0 : Array Value) (hw : ∀ d ∈ tables_1, d.before a0 Z = true) (ws : List Jvm.Cond) (b : Addr) (gCS : Int32) (h0 : Heap) (n0 : Nat) (O0 : Old Z n0 h0) (hp0 : Exa Z h0 b "java/lang/StringBuilder") (hp1 : n0 ≤ b) (hp2 : Fld Z h0 b "java/lang/AbstractStringBuilder" "value" "[B" .null) (hp3 : Fld Z h0 b "java/lang/AbstractStringBuilder" "coder" "B" (.int (0 : Int32))) (hp4 : Fld Z h0 b "java/lang/AbstractStringBuilder" "count" "I" (.int (0 : Int32))) (hp5 : Sta Z Z.heap "java/lang/String" "COMPACT_STRINGS" "Z" (.int gCS)) (hG1 : ¬ gCS = (0 : Int32)) :
    MetFree l (⟨"java/lang/AbstractStringBuilder", "<init>", "(I)V"⟩ : MethodName) (head1 (Jvm.Cond.code (⟨"java/lang/AbstractStringBuilder", "<init>", "(I)V"⟩ : MethodName) jdk_68_method_2_code 2 none :: ws) ({ frames := 1, cells := 1, slots := 16, locals := 12 } : Room)) (fun aa_ U_ => aa_ = #[(.ref b), (.int (16 : Int32))] ∧ Z.Warmed39 U_.vm ∧ U_.heap = h0) (fun _ _ _ _ _ => True) (fun _ U_ o_ V_ => ∃ v_ L_, o_ = .returned v_ ∧ Q_own_asbinit Z b gCS h0 n0 v_ V_.heap L_ ∧ FrameEnd U_ o_ V_ L_ ({ frames := 1, cells := 1, slots := 16, locals := 12 } : Room).cells ({ frames := 1, cells := 1, slots := 16, locals := 12 } : Room).slots) := by
  refine MetFree.of_bodySF (plainFor_of_name own_pn_own_asbinit) hisR ?_
  intro p e s m args below meth c s₁ Bd hml0 hP hK
  obtain ⟨rfl, hZ, hh⟩ := hP
  have hx := Bd.exec
  have hby := Bd.bytes
  have hml : c.maxLocals = 2 := hml0
  have hown : s.vm.findClass "java/lang/AbstractStringBuilder" = some m.cls := findClass_of_methodNamed Bd.named
  have hnm := (name_of_methodNamed Bd.named Bd.method).1
  have X0 : Stand p l e ({ frames := 1, cells := 1, slots := 16, locals := 12 } : Room) s m #[(.ref b), (.int (16 : Int32))] below meth c s₁ [] 0 0 := Stand.of_body Bd
  have e0 : s₁.heap = h0 := by rw [← hh, Bd.state]; rfl
  have N0 := Fr.nil n0
  have K0 : Keep h0 h0 [b] := Keep.refl _ _
  have r0 : GoTo p.tables e below s₁ (own_F_own_asbinit m b) s₁ (mkF m 0 #[.val (.ref b), .val (.int (16 : Int32))] []) := fun tt_ kk_ => castTop (own_ef_own_asbinit m b) kk_
  obtain ⟨T1, X1, e1, st1⟩ := initO X0 hx hZ hown (hw _ (List.mem_of_getElem? (i := 36) rfl)) (hw _ (List.mem_of_getElem? (i := 13) rfl)) (hw _ (List.mem_of_getElem? (i := 14) rfl)) e0 (g := (mkF m 1 #[.val (.ref b), .val (.int (16 : Int32))] [(.ref b)])) rfl (by rw [hml]; rfl) rfl (hb hby own_d_jdk_68_method_2_code_1) (by decide) (W := 0) (by show 2 * 0 + _ ≤ _; exact Nat.le_of_eq rfl) (by decide)
  obtain ⟨T2, X2, e2, st2⟩ := getS2 X1 hx hZ hown (host := "") (Or.inl (hw _ (List.mem_of_getElem? (i := 37) rfl))) Via.refl e1 (hp5.ext (O0.keep K0 (allS hp1 all0)).2) (g := (mkF m 4 #[.val (.ref b), .val (.int (16 : Int32))] [])) rfl (hb hby own_d_jdk_68_method_2_code_4)
  obtain ⟨T3, h3, k3, X3, e3, E3, A3, Ex3, st3⟩ := newPE X2 hx hZ (hw _ (List.mem_of_getElem? (i := 39) rfl)) e2 (g := (mkF m 12 #[.val (.ref b), .val (.int (16 : Int32))] [(.int (16 : Int32)), (.ref b)])) rfl (hb hby own_d_jdk_68_method_2_code_12) rfl (by decide) (cap := 16) (by decide) (by decide) (by decide) (by decide) (ad := "[B") (by decide)
  obtain ⟨b3, gg3⟩ : ∃ z, z = h0.size := ⟨_, rfl⟩
  rw [← gg3] at A3 Ex3 st3
  have ne4 : b ≠ b3 := Nat.ne_of_lt (Nat.lt_of_lt_of_le hp0.lt (Nat.le_of_eq gg3.symm))
  have g5 : n0 ≤ b3 := Nat.le_trans (Nat.le_trans (own_le O0) K0.1) (Nat.le_of_eq gg3.symm)
  have b6 : h0.size ≤ b3 := Nat.le_trans K0.1 (Nat.le_of_eq gg3.symm)
  have K7 : Keep h0 h3 [b] := K0.ext E3
  have V3 : Arv Z h3 b3 k3 .byte (16 : Int32) [] (.int (0 : Int32)) := Arv.new A3 (by decide)
  have f8 : Fld Z h3 b "java/lang/AbstractStringBuilder" "value" "[B" .null := (hp2.ext E3)
  have f9 : Exa Z h3 b "java/lang/StringBuilder" := (hp0.ext E3)
  obtain ⟨T10, h10, X10, e10, W10, st10⟩ := putF X3 hx hZ hown (host := "") (Or.inl (hw _ (List.mem_of_getElem? (i := 40) rfl))) Via.refl e3 f8 f9 (Or.inl (hw _ (List.mem_of_getElem? (i := 41) rfl))) (hw _ (List.mem_of_getElem? (i := 25) rfl)) (ty := (.array .byte)) (by decide) rfl rfl (g := (mkF m 14 #[.val (.ref b), .val (.int (16 : Int32))] [(.ref b3), (.ref b)])) rfl rfl (hb hby own_d_jdk_68_method_2_code_14)
  have K11 : Keep h0 h10 [b] := K7.wr W10 (Or.inl (List.mem_of_getElem? (i := 0) rfl))
  have Fw10 : Fld Z h10 b "java/lang/AbstractStringBuilder" "value" "[B" (.ref b3) := f8.same W10
  have N10 := Fr.snoc X10 N0 hp1
  have f12 : Fld Z h10 b "java/lang/AbstractStringBuilder" "coder" "B" (.int (0 : Int32)) := ((hp3.ext E3).other W10 (Or.inr (Jvm.RoadKit.slot_ne (Or.inl (hw _ (List.mem_of_getElem? (i := 43) rfl))) (Or.inl (hw _ (List.mem_of_getElem? (i := 41) rfl))) (by decide) (t := .byte) (t' := (.array .byte)) (by decide) (by decide))))
  have f13 : Exa Z h10 b "java/lang/StringBuilder" := (f9.wr W10)
  obtain ⟨T14, h14, X14, e14, W14, st14⟩ := putFN X10 hx hZ hown (hw _ (List.mem_of_getElem? (i := 42) rfl)) Via.refl e10 f12 f13 (Or.inl (hw _ (List.mem_of_getElem? (i := 43) rfl))) (hw _ (List.mem_of_getElem? (i := 25) rfl)) (ty := .byte) (v' := (.int (nar .byte (0 : Int32)))) (by decide) rfl (fits_nar_byte _) (g := (mkF m 19 #[.val (.ref b), .val (.int (16 : Int32))] [(.int (0 : Int32)), (.ref b)])) rfl rfl (hb hby own_d_jdk_68_method_2_code_19)
  have K15 : Keep h0 h14 [b] := K11.wr W14 (Or.inl (List.mem_of_getElem? (i := 0) rfl))
  have Fw14 : Fld Z h14 b "java/lang/AbstractStringBuilder" "coder" "B" (.int (nar .byte (0 : Int32))) := f12.same W14
  have N14 := Fr.snoc X14 N10 hp1
  have f16 : Fld Z h14 b "java/lang/AbstractStringBuilder" "coder" "B" (.int (0 : Int32)) := by rw [show (nar .byte (0 : Int32)) = (0 : Int32) from (by decide)] at Fw14; exact Fw14
  have f17 : Arv Z h14 b3 k3 .byte (16 : Int32) [] (.int (0 : Int32)) := ((V3.other W10 (Ne.symm ne4)).other W14 (Ne.symm ne4))
  have f18 : Exa Z h14 b "java/lang/StringBuilder" := (f13.wr W14)
  have f19 : Fld Z h14 b "java/lang/AbstractStringBuilder" "value" "[B" (.ref b3) := (Fw10.other W14 (Or.inr (Jvm.RoadKit.slot_ne (Or.inl (hw _ (List.mem_of_getElem? (i := 41) rfl))) (Or.inl (hw _ (List.mem_of_getElem? (i := 43) rfl))) (by decide) (t := (.array .byte)) (t' := .byte) (by decide) (by decide))))
  have f20 : Fld Z h14 b "java/lang/AbstractStringBuilder" "count" "I" (.int (0 : Int32)) := (((hp4.ext E3).other W10 (Or.inr (Jvm.RoadKit.slot_ne (Or.inl (hw _ (List.mem_of_getElem? (i := 55) rfl))) (Or.inl (hw _ (List.mem_of_getElem? (i := 41) rfl))) (by decide) (t := .int) (t' := (.array .byte)) (by decide) (by decide)))).other W14 (Or.inr (Jvm.RoadKit.slot_ne (Or.inl (hw _ (List.mem_of_getElem? (i := 55) rfl))) (Or.inl (hw _ (List.mem_of_getElem? (i := 43) rfl))) (by decide) (t := .int) (t' := .byte) (by decide) (by decide))))
  have f21 : Exa Z h14 b3 "[B" := ((Ex3.wr W10).wr W14)
  obtain ⟨fs, hr, hrun, hended, hW, hsame⟩ := X14.leave (v := none) (fun _ => rfl)
  refine ⟨_, _, r0 _ ?_, hrun, hended, _, _, rfl, ?_, ⟨_, rfl⟩, hW, hsame.mono (by decide) (by decide)⟩
  · show Steps p.tables e below (s₁.setTop (mkF m 0 #[.val (.ref b), .val (.int (16 : Int32))] [])) _
    refine XS.aloadN X0.here hx rfl (hb hby own_d_jdk_68_method_2_code_0) rfl rfl ?_
    show Steps p.tables e below (s₁.setTop (mkF m 1 #[.val (.ref b), .val (.int (16 : Int32))] [(.ref b)])) _
    refine st1 _ ?_
    show Steps p.tables e below (T1.setTop (mkF m 4 #[.val (.ref b), .val (.int (16 : Int32))] [])) _
    refine st2 _ ?_
    show Steps p.tables e below (T2.setTop (mkF m 7 #[.val (.ref b), .val (.int (16 : Int32))] [(.int gCS)])) _
    refine XS.ifNo X2.here hx rfl (hb hby own_d_jdk_68_method_2_code_7) rfl ((if0 _ _).trans (feq hG1).1) ?_
    show Steps p.tables e below (T2.setTop (mkF m 10 #[.val (.ref b), .val (.int (16 : Int32))] [])) _
    refine XS.aloadN X2.here hx rfl (hb hby own_d_jdk_68_method_2_code_10) rfl rfl ?_
    show Steps p.tables e below (T2.setTop (mkF m 11 #[.val (.ref b), .val (.int (16 : Int32))] [(.ref b)])) _
    refine XS.iloadN X2.here hx rfl (hb hby own_d_jdk_68_method_2_code_11) rfl ?_
    show Steps p.tables e below (T2.setTop (mkF m 12 #[.val (.ref b), .val (.int (16 : Int32))] [(.int (16 : Int32)), (.ref b)])) _
    refine st3 _ ?_
    show Steps p.tables e below (T3.setTop (mkF m 14 #[.val (.ref b), .val (.int (16 : Int32))] [(.ref b3), (.ref b)])) _
    refine st10 _ ?_
    show Steps p.tables e below (T10.setTop (mkF m 17 #[.val (.ref b), .val (.int (16 : Int32))] [])) _
    refine XS.aloadN X10.here hx rfl (hb hby own_d_jdk_68_method_2_code_17) rfl rfl ?_
    show Steps p.tables e below (T10.setTop (mkF m 18 #[.val (.ref b), .val (.int (16 : Int32))] [(.ref b)])) _
    refine XS.iconst X10.here hx rfl (hb hby own_d_jdk_68_method_2_code_18) ?_
    show Steps p.tables e below (T10.setTop (mkF m 19 #[.val (.ref b), .val (.int (16 : Int32))] [(.int (0 : Int32)), (.ref b)])) _
    refine st14 _ ?_
    show Steps p.tables e below (T14.setTop (mkF m 22 #[.val (.ref b), .val (.int (16 : Int32))] [])) _
    refine XS.goto X14.here hx rfl (pc0 := 22) (pc' := 38) rfl (hb hby own_d_jdk_68_method_2_code_22) (by decide) (by decide) ?_
    show Steps p.tables e below (T14.setTop (mkF m 38 #[.val (.ref b), .val (.int (16 : Int32))] [])) _
    exact X14.returnOut hx Bd.returns (hb hby own_d_jdk_68_method_2_code_38) hr
  · show Q_own_asbinit Z b gCS h0 n0 _ T14.heap _
    rw [e14]
    exact ⟨b3, k3, rfl, N14, K15, b6, g5, ⟨f18, f19, f16, f20, own_By.new f21 (by decide) f17, fun _ q => nomatch q⟩⟩
theorem own_pn_own_sbinit : plainName "java/lang/StringBuilder" = true := by first | (simp [plainName, overriddenIn]; done) | decide +kernel
theorem own_ef_own_sbinit (m : MethodId) (b : Addr) : entryFrame m #[(.ref b)] 1 = mkF m 0 #[.val (.ref b)] [] := by first | (simp [entryFrame, mkF, argsToLocals, own_cI, own_cJ, own_cR, own_cN]; done) | rfl
abbrev own_F_own_sbinit (m : MethodId) (b : Addr) : JFrame := entryFrame m #[(.ref b)] 1
def Q_own_sbinit (Z : State) (b : Addr) (gCS : Int32) (h0 : Heap) (n0 : Nat) (v : Option Value) (h : Heap) (L : List Loc) : Prop := ∃ (d : Addr), ∃ (kd : ClassId), v = none ∧ Fr n0 L ∧ Keep h0 h [b] ∧ (h0.size ≤ d) ∧ (n0 ≤ d) ∧ (own_SB Z h b d kd 16 ([] : List Int32))
set_option maxRecDepth 65536 in
set_option maxHeartbeats 40000000 in
theorem own_sbinit (l : Launch) (Z : State) (a0 : Array Value) (hw : ∀ d ∈ tables_1, d.before a0 Z = true) (ws : List Jvm.Cond) (b : Addr) (gCS : Int32) (h0 : Heap) (n0 : Nat) (O0 : Old Z n0 h0) (hp0 : Exa Z h0 b "java/lang/StringBuilder") (hp1 : n0 ≤ b) (hp2 : Fld Z h0 b "java/lang/AbstractStringBuilder" "value" "[B" .null) (hp3 : Fld Z h0 b "java/lang/AbstractStringBuilder" "coder" "B" (.int (0 : Int32))) (hp4 : Fld Z h0 b "java/lang/AbstractStringBuilder" "count" "I" (.int (0 : Int32))) (hp5 : Sta Z Z.heap "java/lang/String" "COMPACT_STRINGS" "Z" (.int gCS)) (hG1 : ¬ gCS = (0 : Int32)) :
    MetFree l (⟨"java/lang/StringBuilder", "<init>", "()V"⟩ : MethodName) (head1 (Jvm.Cond.code (⟨"java/lang/StringBuilder", "<init>", "()V"⟩ : MethodName) jdk_67_method_1_code 1 none :: ws) ({ frames := 2, cells := 1, slots := 16, locals := 25 } : Room)) (fun aa_ U_ => aa_ = #[(.ref b)] ∧ Z.Warmed39 U_.vm ∧ U_.heap = h0) (fun _ _ _ _ _ => True) (fun _ U_ o_ V_ => ∃ v_ L_, o_ = .returned v_ ∧ Q_own_sbinit Z b gCS h0 n0 v_ V_.heap L_ ∧ FrameEnd U_ o_ V_ L_ ({ frames := 2, cells := 1, slots := 16, locals := 25 } : Room).cells ({ frames := 2, cells := 1, slots := 16, locals := 25 } : Room).slots) := by
  refine MetFree.of_bodySF (plainFor_of_name own_pn_own_sbinit) hisR ?_
  intro p e s m args below meth c s₁ Bd hml0 hP hK
  obtain ⟨rfl, hZ, hh⟩ := hP
  have hx := Bd.exec
  have hby := Bd.bytes
  have hml : c.maxLocals = 1 := hml0
  have hown : s.vm.findClass "java/lang/StringBuilder" = some m.cls := findClass_of_methodNamed Bd.named
  have hnm := (name_of_methodNamed Bd.named Bd.method).1
  have X0 : Stand p l e ({ frames := 2, cells := 1, slots := 16, locals := 25 } : Room) s m #[(.ref b)] below meth c s₁ [] 0 0 := Stand.of_body Bd
  have e0 : s₁.heap = h0 := by rw [← hh, Bd.state]; rfl
  have N0 := Fr.nil n0
  have K0 : Keep h0 h0 [b] := Keep.refl _ _
  have r0 : GoTo p.tables e below s₁ (own_F_own_sbinit m b) s₁ (mkF m 0 #[.val (.ref b)] []) := fun tt_ kk_ => castTop (own_ef_own_sbinit m b) kk_
  obtain ⟨_, _, ⟨T1, L1, k1, n1⟩, -, X1, ⟨Lc1, hQ1, l1, y1, z1⟩, st1⟩ := X0.specialBack hx (y := (⟨"java/lang/AbstractStringBuilder", "<init>", "(I)V"⟩ : MethodName)) rfl hown (mvT hZ (hw _ (List.mem_of_getElem? (i := 30) rfl))) (mvT hZ (hw _ (List.mem_of_getElem? (i := 31) rfl))) (mvT hZ (hw _ (List.mem_of_getElem? (i := 35) rfl))) (by decide) (backOf (W := 0) (own_asbinit l Z a0 hw [] (b) (gCS) h0 n0 (O0.keep K0 (allS hp1 all0)) (hp0) (hp1) (hp2) (hp3) (hp4) (hp5) (hG1)) hZ (hw _ (List.mem_of_getElem? (i := 35) rfl)) (hw _ (List.mem_of_getElem? (i := 34) rfl)) (by decide) (by decide)) (g := (mkF m 3 #[.val (.ref b)] [(.int (16 : Int32)), (.ref b)])) rfl (by rw [hml]; rfl) (Steps.refl _) (a := b) (argsL := [(.int (16 : Int32))]) (rest := []) (lenOf own_pd0 rfl) rfl (by show 2 * 0 + _ ≤ _; exact Nat.le_of_eq rfl) (hb hby own_d_jdk_67_method_1_code_3) (fun _ _ => ⟨rfl, e0, (by decide : 0 + 1 ≤ _), (by decide : 0 + 16 ≤ _)⟩)
  dsimp only [Pt.U, Pt.locs, Pt.cells, Pt.slots] at X1 l1 y1 z1 st1 hQ1
  subst l1 y1 z1
  obtain ⟨d_1, kd_1, rfl, Nq1, Kq1, po1_0, po1_1, po1_2⟩ := hQ1
  have N1 := Fr.app N0 Nq1
  have ne2 : b ≠ d_1 := Nat.ne_of_lt (Nat.lt_of_lt_of_le hp0.lt po1_0)
  have g3 : n0 ≤ d_1 := Nat.le_trans (Nat.le_trans (own_le O0) K0.1) po1_0
  have b4 : h0.size ≤ d_1 := Nat.le_trans K0.1 po1_0
  have K5 : Keep h0 T1.heap [b] := K0.trans Kq1 (allS (Or.inl (List.mem_of_getElem? (i := 0) rfl)) all0)
  obtain ⟨fs, hr, hrun, hended, hW, hsame⟩ := X1.leave (v := none) (fun _ => rfl)
  refine ⟨_, _, r0 _ ?_, hrun, hended, _, _, rfl, ?_, ⟨_, rfl⟩, hW, hsame.mono (by decide) (by decide)⟩
  · show Steps p.tables e below (s₁.setTop (mkF m 0 #[.val (.ref b)] [])) _
    refine XS.aloadN X0.here hx rfl (hb hby own_d_jdk_67_method_1_code_0) rfl rfl ?_
    show Steps p.tables e below (s₁.setTop (mkF m 1 #[.val (.ref b)] [(.ref b)])) _
    refine XS.bipush X0.here hx rfl (hb hby own_d_jdk_67_method_1_code_1) ?_
    show Steps p.tables e below (s₁.setTop (mkF m 3 #[.val (.ref b)] [(.int (16 : Int32)), (.ref b)])) _
    refine st1.trans ?_
    show Steps p.tables e below (T1.setTop (mkF m 6 #[.val (.ref b)] [])) _
    exact X1.returnOut hx Bd.returns (hb hby own_d_jdk_67_method_1_code_6) hr
  · show Q_own_sbinit Z b gCS h0 n0 _ T1.heap _
    exact ⟨d_1, kd_1, rfl, N1, K5, b4, po1_1, po1_2⟩
theorem own_pn_own_isL : plainName "java/lang/AbstractStringBuilder" = true := by first | (simp [plainName, overriddenIn]; done) | decide +kernel
theorem own_ef_own_isL (m : MethodId) (b : Addr) : entryFrame m #[(.ref b)] 1 = mkF m 0 #[.val (.ref b)] [] := by first | (simp [entryFrame, mkF, argsToLocals, own_cI, own_cJ, own_cR, own_cN]; done) | rfl
abbrev own_F_own_isL (m : MethodId) (b : Addr) : JFrame := entryFrame m #[(.ref b)] 1
def Q_own_isL (Z : State) (b : Addr) (gCS : Int32) (h0 : Heap) (n0 : Nat) (v : Option Value) (h : Heap) (L : List Loc) : Prop := v = some (.int (1 : Int32)) ∧ Fr n0 L ∧ h = h0
set_option maxRecDepth 65536 in
set_option maxHeartbeats 40000000 in
theorem own_isL (l : Launch) (Z : State) (a0 : Array Value) (hw : ∀ d ∈ tables_1, d.before a0 Z = true) (ws : List Jvm.Cond) (b : Addr) (gCS : Int32) (h0 : Heap) (n0 : Nat) (O0 : Old Z n0 h0) (hp0 : Fld Z h0 b "java/lang/AbstractStringBuilder" "coder" "B" (.int (0 : Int32))) (hp1 : Sta Z Z.heap "java/lang/String" "COMPACT_STRINGS" "Z" (.int gCS)) (hG1 : ¬ gCS = (0 : Int32)) :
    MetFree l (⟨"java/lang/AbstractStringBuilder", "isLatin1", "()Z"⟩ : MethodName) (head1 (Jvm.Cond.code (⟨"java/lang/AbstractStringBuilder", "isLatin1", "()Z"⟩ : MethodName) jdk_68_method_68_code 1 (some .boolean) :: ws) ({ frames := 0, cells := 0, slots := 0, locals := 0 } : Room)) (fun aa_ U_ => aa_ = #[(.ref b)] ∧ Z.Warmed39 U_.vm ∧ U_.heap = h0) (fun _ _ _ _ _ => True) (fun _ U_ o_ V_ => ∃ v_ L_, o_ = .returned v_ ∧ Q_own_isL Z b gCS h0 n0 v_ V_.heap L_ ∧ FrameEnd U_ o_ V_ L_ ({ frames := 0, cells := 0, slots := 0, locals := 0 } : Room).cells ({ frames := 0, cells := 0, slots := 0, locals := 0 } : Room).slots) := by
  refine MetFree.of_bodySF (plainFor_of_name own_pn_own_isL) hisR ?_
  intro p e s m args below meth c s₁ Bd hml0 hP hK
  obtain ⟨rfl, hZ, hh⟩ := hP
  have hx := Bd.exec
  have hby := Bd.bytes
  have hml : c.maxLocals = 1 := hml0
  have hown : s.vm.findClass "java/lang/AbstractStringBuilder" = some m.cls := findClass_of_methodNamed Bd.named
  have hnm := (name_of_methodNamed Bd.named Bd.method).1
  have X0 : Stand p l e ({ frames := 0, cells := 0, slots := 0, locals := 0 } : Room) s m #[(.ref b)] below meth c s₁ [] 0 0 := Stand.of_body Bd
  have e0 : s₁.heap = h0 := by rw [← hh, Bd.state]; rfl
  have N0 := Fr.nil n0
  have K0 : Keep h0 h0 [] := Keep.refl _ _
  have r0 : GoTo p.tables e below s₁ (own_F_own_isL m b) s₁ (mkF m 0 #[.val (.ref b)] []) := fun tt_ kk_ => castTop (own_ef_own_isL m b) kk_
  obtain ⟨T1, X1, e1, st1⟩ := getS2 X0 hx hZ hown (host := "") (Or.inl (hw _ (List.mem_of_getElem? (i := 37) rfl))) Via.refl e0 (hp1.ext (O0.keep K0 all0).2) (g := (mkF m 0 #[.val (.ref b)] [])) rfl (hb hby own_d_jdk_68_method_68_code_0)
  obtain ⟨T2, X2, e2, st2⟩ := getF X1 hx hZ hown (host := "") (Or.inl (hw _ (List.mem_of_getElem? (i := 42) rfl))) Via.refl e1 hp0 (g := (mkF m 7 #[.val (.ref b)] [(.ref b)])) rfl rfl (hb hby own_d_jdk_68_method_68_code_7)
  obtain ⟨fs, hr, hrun, hended, hW, hsame⟩ := X2.leave (v := some (.int (nar .boolean (1 : Int32)))) (fun h => by rw [Bd.returns] at h; cases h)
  refine ⟨_, _, r0 _ ?_, hrun, hended, _, _, rfl, ?_, ⟨_, rfl⟩, hW, hsame.mono (by decide) (by decide)⟩
  · show Steps p.tables e below (s₁.setTop (mkF m 0 #[.val (.ref b)] [])) _
    refine st1 _ ?_
    show Steps p.tables e below (T1.setTop (mkF m 3 #[.val (.ref b)] [(.int gCS)])) _
    refine XS.ifNo X1.here hx rfl (hb hby own_d_jdk_68_method_68_code_3) rfl ((if0 _ _).trans (feq hG1).1) ?_
    show Steps p.tables e below (T1.setTop (mkF m 6 #[.val (.ref b)] [])) _
    refine XS.aloadN X1.here hx rfl (hb hby own_d_jdk_68_method_68_code_6) rfl rfl ?_
    show Steps p.tables e below (T1.setTop (mkF m 7 #[.val (.ref b)] [(.ref b)])) _
    refine st2 _ ?_
    show Steps p.tables e below (T2.setTop (mkF m 10 #[.val (.ref b)] [(.int (0 : Int32))])) _
    refine XS.ifNo X2.here hx rfl (hb hby own_d_jdk_68_method_68_code_10) rfl ((if0 _ _).trans (teq rfl).2) ?_
    show Steps p.tables e below (T2.setTop (mkF m 13 #[.val (.ref b)] [])) _
    refine XS.iconst X2.here hx rfl (hb hby own_d_jdk_68_method_68_code_13) ?_
    show Steps p.tables e below (T2.setTop (mkF m 14 #[.val (.ref b)] [(.int (1 : Int32))])) _
    refine XS.goto X2.here hx rfl (pc0 := 14) (pc' := 18) rfl (hb hby own_d_jdk_68_method_68_code_14) (by decide) (by decide) ?_
    show Steps p.tables e below (T2.setTop (mkF m 18 #[.val (.ref b)] [(.int (1 : Int32))])) _
    exact retN X2 hx (t := .boolean) Bd.returns (by simp) (hb hby own_d_jdk_68_method_68_code_18) hr
  · show Q_own_isL Z b gCS h0 n0 _ T2.heap _
    rw [e2]
    exact ⟨rfl, N0, rfl⟩
theorem own_pn_own_newLen : plainName "jdk/internal/util/ArraysSupport" = true := by first | (simp [plainName, overriddenIn]; done) | decide +kernel
theorem own_ef_own_newLen (m : MethodId) (x : Nat) (y : Nat) (z : Nat) : entryFrame m #[(.int (Int32.ofNat x)), (.int (Int32.ofNat y)), (.int (Int32.ofNat z))] 4 = mkF m 0 #[.val (.int (Int32.ofNat x)), .val (.int (Int32.ofNat y)), .val (.int (Int32.ofNat z)), .unset] [] := by first | (simp [entryFrame, mkF, argsToLocals, own_cI, own_cJ, own_cR, own_cN]; done) | rfl
abbrev own_F_own_newLen (m : MethodId) (x : Nat) (y : Nat) (z : Nat) : JFrame := entryFrame m #[(.int (Int32.ofNat x)), (.int (Int32.ofNat y)), (.int (Int32.ofNat z))] 4
def Q_own_newLen (Z : State) (x : Nat) (y : Nat) (z : Nat) (h0 : Heap) (n0 : Nat) (v : Option Value) (h : Heap) (L : List Loc) : Prop := v = some (.int (Int32.ofNat (x + max y z))) ∧ Fr n0 L ∧ h = h0
set_option maxRecDepth 65536 in
set_option maxHeartbeats 40000000 in
theorem own_newLen (l : Launch) (Z : State) (a0 : Array Value) (hw : ∀ d ∈ tables_1, d.before a0 Z = true) (ws : List Jvm.Cond) (x : Nat) (y : Nat) (z : Nat) (h0 : Heap) (n0 : Nat) (O0 : Old Z n0 h0) (hxs : x ≤ 300000) (hys : y ≤ 300000) (hzs : z ≤ 300000) (hx0 : 0 < x) :
    MetFree l (⟨"jdk/internal/util/ArraysSupport", "newLength", "(III)I"⟩ : MethodName) (head1 (Jvm.Cond.code (⟨"jdk/internal/util/ArraysSupport", "newLength", "(III)I"⟩ : MethodName) jdk_48_method_27_code 4 (some .int) :: ws) ({ frames := 1, cells := 0, slots := 0, locals := 14 } : Room)) (fun aa_ U_ => aa_ = #[(.int (Int32.ofNat x)), (.int (Int32.ofNat y)), (.int (Int32.ofNat z))] ∧ Z.Warmed39 U_.vm ∧ U_.heap = h0) (fun _ _ _ _ _ => True) (fun _ U_ o_ V_ => ∃ v_ L_, o_ = .returned v_ ∧ Q_own_newLen Z x y z h0 n0 v_ V_.heap L_ ∧ FrameEnd U_ o_ V_ L_ ({ frames := 1, cells := 0, slots := 0, locals := 14 } : Room).cells ({ frames := 1, cells := 0, slots := 0, locals := 14 } : Room).slots) := by
  refine MetFree.of_bodySF (plainFor_of_name own_pn_own_newLen) hisR ?_
  intro p e s m args below meth c s₁ Bd hml0 hP hK
  obtain ⟨rfl, hZ, hh⟩ := hP
  have hx := Bd.exec
  have hby := Bd.bytes
  have hml : c.maxLocals = 4 := hml0
  have hown : s.vm.findClass "jdk/internal/util/ArraysSupport" = some m.cls := findClass_of_methodNamed Bd.named
  have hnm := (name_of_methodNamed Bd.named Bd.method).1
  have X0 : Stand p l e ({ frames := 1, cells := 0, slots := 0, locals := 14 } : Room) s m #[(.int (Int32.ofNat x)), (.int (Int32.ofNat y)), (.int (Int32.ofNat z))] below meth c s₁ [] 0 0 := Stand.of_body Bd
  have e0 : s₁.heap = h0 := by rw [← hh, Bd.state]; rfl
  have N0 := Fr.nil n0
  have K0 : Keep h0 h0 [] := Keep.refl _ _
  have r0 : GoTo p.tables e below s₁ (own_F_own_newLen m x y z) s₁ (mkF m 0 #[.val (.int (Int32.ofNat x)), .val (.int (Int32.ofNat y)), .val (.int (Int32.ofNat z)), .unset] []) := fun tt_ kk_ => castTop (own_ef_own_newLen m x y z) kk_
  obtain ⟨_, _, ⟨T1, L1, k1, n1⟩, -, X1, ⟨Lc1, hQ1, l1, y1, z1⟩, st1⟩ := Jvm.LawKit.callS X0 hx (y := (⟨"java/lang/Math", "max", "(II)I"⟩ : MethodName)) hown (mvT hZ (hw _ (List.mem_of_getElem? (i := 211) rfl))) (mvT hZ (hw _ (List.mem_of_getElem? (i := 212) rfl))) (mvT hZ (hw _ (List.mem_of_getElem? (i := 162) rfl))) (mvT hZ (hw _ (List.mem_of_getElem? (i := 213) rfl))) (by decide) (backOf (W := 1) (own_maxN l Z a0 hw [] (y) (z) h0 n0 (O0.keep K0 all0) (by omega) (by omega)) hZ (hw _ (List.mem_of_getElem? (i := 213) rfl)) (hw _ (List.mem_of_getElem? (i := 162) rfl)) (by decide) (by decide)) (g := (mkF m 3 #[.val (.int (Int32.ofNat x)), .val (.int (Int32.ofNat y)), .val (.int (Int32.ofNat z)), .unset] [(.int (Int32.ofNat z)), (.int (Int32.ofNat y)), (.int (Int32.ofNat x))])) rfl (by rw [hml]; rfl) (argsL := [(.int (Int32.ofNat y)), (.int (Int32.ofNat z))]) (rest := [(.int (Int32.ofNat x))]) (lenOf own_pd1 rfl) rfl (by show 2 * 0 + _ ≤ _; exact Nat.le_of_eq rfl) (hb hby own_d_jdk_48_method_27_code_3) (fun _ _ => ⟨rfl, e0, (by decide : 0 + 0 ≤ _), (by decide : 0 + 0 ≤ _)⟩)
  dsimp only [Pt.U, Pt.locs, Pt.cells, Pt.slots] at X1 l1 y1 z1 st1 hQ1
  subst l1 y1 z1
  obtain ⟨rfl, Nq1, hh1⟩ := hQ1
  have N1 := Fr.app N0 Nq1
  have r2 : GoTo p.tables e below s₁ (own_F_own_newLen m x y z) T1 (mkF m 7 #[.val (.int (Int32.ofNat x)), .val (.int (Int32.ofNat y)), .val (.int (Int32.ofNat z)), .unset] [(.int ((Int32.ofNat x) + (Int32.ofNat (max y z))))]) := fun tt_ kk_ => r0 tt_ (by
      show Steps p.tables e below (s₁.setTop (mkF m 0 #[.val (.int (Int32.ofNat x)), .val (.int (Int32.ofNat y)), .val (.int (Int32.ofNat z)), .unset] [])) _
      refine XS.iloadN X0.here hx rfl (hb hby own_d_jdk_48_method_27_code_0) rfl ?_
      show Steps p.tables e below (s₁.setTop (mkF m 1 #[.val (.int (Int32.ofNat x)), .val (.int (Int32.ofNat y)), .val (.int (Int32.ofNat z)), .unset] [(.int (Int32.ofNat x))])) _
      refine XS.iloadN X0.here hx rfl (hb hby own_d_jdk_48_method_27_code_1) rfl ?_
      show Steps p.tables e below (s₁.setTop (mkF m 2 #[.val (.int (Int32.ofNat x)), .val (.int (Int32.ofNat y)), .val (.int (Int32.ofNat z)), .unset] [(.int (Int32.ofNat y)), (.int (Int32.ofNat x))])) _
      refine XS.iloadN X0.here hx rfl (hb hby own_d_jdk_48_method_27_code_2) rfl ?_
      show Steps p.tables e below (s₁.setTop (mkF m 3 #[.val (.int (Int32.ofNat x)), .val (.int (Int32.ofNat y)), .val (.int (Int32.ofNat z)), .unset] [(.int (Int32.ofNat z)), (.int (Int32.ofNat y)), (.int (Int32.ofNat x))])) _
      refine st1 _ ?_
      show Steps p.tables e below (T1.setTop (mkF m 6 #[.val (.int (Int32.ofNat x)), .val (.int (Int32.ofNat y)), .val (.int (Int32.ofNat z)), .unset] [(.int (Int32.ofNat (max y z))), (.int (Int32.ofNat x))])) _
      refine XS.iadd X1.here hx rfl (hb hby own_d_jdk_48_method_27_code_6) rfl ?_
      show Steps p.tables e below (T1.setTop (mkF m 7 #[.val (.int (Int32.ofNat x)), .val (.int (Int32.ofNat y)), .val (.int (Int32.ofNat z)), .unset] [(.int ((Int32.ofNat x) + (Int32.ofNat (max y z))))])) _
      exact kk_)
  have r3 : GoTo p.tables e below s₁ (own_F_own_newLen m x y z) T1 (mkF m 7 #[.val (.int (Int32.ofNat x)), .val (.int (Int32.ofNat y)), .val (.int (Int32.ofNat z)), .unset] [(.int (Int32.ofNat (x + max y z)))]) := Eq.mp (congrArg (fun zz_ => GoTo p.tables e below s₁ (own_F_own_newLen m x y z) T1 (mkF m 7 #[.val (.int (Int32.ofNat x)), .val (.int (Int32.ofNat y)), .val (.int (Int32.ofNat z)), .unset] [(.int zz_)])) (show ((Int32.ofNat x) + (Int32.ofNat (max y z))) = (Int32.ofNat (x + max y z)) from own_addN)) r2
  have hb1 : x + max y z ≤ 1000000 := by omega
  obtain ⟨fs, hr, hrun, hended, hW, hsame⟩ := X1.leave (v := some (.int (Int32.ofNat (x + max y z)))) (fun h => by rw [Bd.returns] at h; cases h)
  refine ⟨_, _, r3 _ ?_, hrun, hended, _, _, rfl, ?_, ⟨_, rfl⟩, hW, hsame.mono (by decide) (by decide)⟩
  · show Steps p.tables e below (T1.setTop (mkF m 7 #[.val (.int (Int32.ofNat x)), .val (.int (Int32.ofNat y)), .val (.int (Int32.ofNat z)), .unset] [(.int (Int32.ofNat (x + max y z)))])) _
    refine XS.istoreN X1.here hx rfl (hb hby own_d_jdk_48_method_27_code_7) rfl (l' := #[.val (.int (Int32.ofNat x)), .val (.int (Int32.ofNat y)), .val (.int (Int32.ofNat z)), .val (.int (Int32.ofNat (x + max y z)))]) rfl ?_
    show Steps p.tables e below (T1.setTop (mkF m 8 #[.val (.int (Int32.ofNat x)), .val (.int (Int32.ofNat y)), .val (.int (Int32.ofNat z)), .val (.int (Int32.ofNat (x + max y z)))] [])) _
    refine XS.iconst X1.here hx rfl (hb hby own_d_jdk_48_method_27_code_8) ?_
    show Steps p.tables e below (T1.setTop (mkF m 9 #[.val (.int (Int32.ofNat x)), .val (.int (Int32.ofNat y)), .val (.int (Int32.ofNat z)), .val (.int (Int32.ofNat (x + max y z)))] [(.int (0 : Int32))])) _
    refine XS.iloadN X1.here hx rfl (hb hby own_d_jdk_48_method_27_code_9) rfl ?_
    show Steps p.tables e below (T1.setTop (mkF m 10 #[.val (.int (Int32.ofNat x)), .val (.int (Int32.ofNat y)), .val (.int (Int32.ofNat z)), .val (.int (Int32.ofNat (x + max y z)))] [(.int (Int32.ofNat (x + max y z))), (.int (0 : Int32))])) _
    refine XS.icmpNo X1.here hx rfl (hb hby own_d_jdk_48_method_27_code_10) rfl (tlt ((own_ltN (a := 0) (by decide) hb1).mpr (by omega))).2.1 ?_
    show Steps p.tables e below (T1.setTop (mkF m 13 #[.val (.int (Int32.ofNat x)), .val (.int (Int32.ofNat y)), .val (.int (Int32.ofNat z)), .val (.int (Int32.ofNat (x + max y z)))] [])) _
    refine XS.iloadN X1.here hx rfl (hb hby own_d_jdk_48_method_27_code_13) rfl ?_
    show Steps p.tables e below (T1.setTop (mkF m 14 #[.val (.int (Int32.ofNat x)), .val (.int (Int32.ofNat y)), .val (.int (Int32.ofNat z)), .val (.int (Int32.ofNat (x + max y z)))] [(.int (Int32.ofNat (x + max y z)))])) _
    refine X1.ldcI hx hown (mvT hZ (hw _ (List.mem_of_getElem? (i := 214) rfl))) rfl (hb hby own_d_jdk_48_method_27_code_14) ?_
    show Steps p.tables e below (T1.setTop (mkF m 16 #[.val (.int (Int32.ofNat x)), .val (.int (Int32.ofNat y)), .val (.int (Int32.ofNat z)), .val (.int (Int32.ofNat (x + max y z)))] [(.int (2147483639 : Int32)), (.int (Int32.ofNat (x + max y z)))])) _
    refine XS.icmpNo X1.here hx rfl (hb hby own_d_jdk_48_method_27_code_16) rfl (flt (by rw [Int32.lt_iff_toInt_lt, own_nat hb1, show (2147483639 : Int32).toInt = 2147483639 from by decide]; omega)).2.2.1 ?_
    show Steps p.tables e below (T1.setTop (mkF m 19 #[.val (.int (Int32.ofNat x)), .val (.int (Int32.ofNat y)), .val (.int (Int32.ofNat z)), .val (.int (Int32.ofNat (x + max y z)))] [])) _
    refine XS.iloadN X1.here hx rfl (hb hby own_d_jdk_48_method_27_code_19) rfl ?_
    show Steps p.tables e below (T1.setTop (mkF m 20 #[.val (.int (Int32.ofNat x)), .val (.int (Int32.ofNat y)), .val (.int (Int32.ofNat z)), .val (.int (Int32.ofNat (x + max y z)))] [(.int (Int32.ofNat (x + max y z)))])) _
    exact retI X1 hx Bd.returns (hb hby own_d_jdk_48_method_27_code_20) hr
  · show Q_own_newLen Z x y z h0 n0 _ T1.heap _
    rw [hh1]
    exact ⟨rfl, N1, rfl⟩
theorem own_pn_own_newCap : plainName "java/lang/AbstractStringBuilder" = true := by first | (simp [plainName, overriddenIn]; done) | decide +kernel
theorem own_ef_own_newCap (m : MethodId) (b : Addr) (mm : Nat) : entryFrame m #[(.ref b), (.int (Int32.ofNat mm))] 6 = mkF m 0 #[.val (.ref b), .val (.int (Int32.ofNat mm)), .unset, .unset, .unset, .unset] [] := by first | (simp [entryFrame, mkF, argsToLocals, own_cI, own_cJ, own_cR, own_cN]; done) | rfl
abbrev own_F_own_newCap (m : MethodId) (b : Addr) (mm : Nat) : JFrame := entryFrame m #[(.ref b), (.int (Int32.ofNat mm))] 6
def Q_own_newCap (Z : State) (b : Addr) (d : Addr) (kd : ClassId) (N : Nat) (cs : List Int32) (mm : Nat) (h0 : Heap) (n0 : Nat) (v : Option Value) (h : Heap) (L : List Loc) : Prop := v = some (.int (Int32.ofNat (N + max (mm - N) (N + 2)))) ∧ Fr n0 L ∧ h = h0
set_option maxRecDepth 65536 in
set_option maxHeartbeats 40000000 in
theorem own_newCap (l : Launch) (Z : State) (a0 : Array Value) (hw : ∀ d ∈ tables_1, d.before a0 Z = true) (ws : List Jvm.Cond) (b : Addr) (d : Addr) (kd : ClassId) (N : Nat) (cs : List Int32) (mm : Nat) (h0 : Heap) (n0 : Nat) (O0 : Old Z n0 h0) (hp0 : Fld Z h0 b "java/lang/AbstractStringBuilder" "value" "[B" (.ref d)) (hp1 : Fld Z h0 b "java/lang/AbstractStringBuilder" "coder" "B" (.int (0 : Int32))) (hp2 : own_By Z h0 d kd N cs) (hmm : mm ≤ 200000) (hNb : N ≤ 100000) (hNp : 0 < N) (hNm : N ≤ mm) :
    MetFree l (⟨"java/lang/AbstractStringBuilder", "newCapacity", "(I)I"⟩ : MethodName) (head1 (Jvm.Cond.code (⟨"java/lang/AbstractStringBuilder", "newCapacity", "(I)I"⟩ : MethodName) jdk_68_method_10_code 6 (some .int) :: ws) ({ frames := 2, cells := 0, slots := 0, locals := 29 } : Room)) (fun aa_ U_ => aa_ = #[(.ref b), (.int (Int32.ofNat mm))] ∧ Z.Warmed39 U_.vm ∧ U_.heap = h0) (fun _ _ _ _ _ => True) (fun _ U_ o_ V_ => ∃ v_ L_, o_ = .returned v_ ∧ Q_own_newCap Z b d kd N cs mm h0 n0 v_ V_.heap L_ ∧ FrameEnd U_ o_ V_ L_ ({ frames := 2, cells := 0, slots := 0, locals := 29 } : Room).cells ({ frames := 2, cells := 0, slots := 0, locals := 29 } : Room).slots) := by
  refine MetFree.of_bodySF (plainFor_of_name own_pn_own_newCap) hisR ?_
  intro p e s m args below meth c s₁ Bd hml0 hP hK
  obtain ⟨rfl, hZ, hh⟩ := hP
  have hx := Bd.exec
  have hby := Bd.bytes
  have hml : c.maxLocals = 6 := hml0
  have hown : s.vm.findClass "java/lang/AbstractStringBuilder" = some m.cls := findClass_of_methodNamed Bd.named
  have hnm := (name_of_methodNamed Bd.named Bd.method).1
  have X0 : Stand p l e ({ frames := 2, cells := 0, slots := 0, locals := 29 } : Room) s m #[(.ref b), (.int (Int32.ofNat mm))] below meth c s₁ [] 0 0 := Stand.of_body Bd
  have e0 : s₁.heap = h0 := by rw [← hh, Bd.state]; rfl
  have N0 := Fr.nil n0
  have K0 : Keep h0 h0 [] := Keep.refl _ _
  have r0 : GoTo p.tables e below s₁ (own_F_own_newCap m b mm) s₁ (mkF m 0 #[.val (.ref b), .val (.int (Int32.ofNat mm)), .unset, .unset, .unset, .unset] []) := fun tt_ kk_ => castTop (own_ef_own_newCap m b mm) kk_
  obtain ⟨vs1, hvl1, hva1, hvc1⟩ := own_By.arv hp2
  obtain ⟨T2, X2, e2, st2⟩ := getF X0 hx hZ hown (host := "") (Or.inl (hw _ (List.mem_of_getElem? (i := 40) rfl))) Via.refl e0 hp0 (g := (mkF m 1 #[.val (.ref b), .val (.int (Int32.ofNat mm)), .unset, .unset, .unset, .unset] [(.ref b)])) rfl rfl (hb hby own_d_jdk_68_method_10_code_1)
  obtain ⟨cl3, Ar3, q3, S3, NN3, H3, G3⟩ := id hva1
  obtain ⟨T4, X4, e4, st4⟩ := getF X2 hx hZ hown (host := "") (Or.inl (hw _ (List.mem_of_getElem? (i := 42) rfl))) Via.refl e2 hp1 (g := (mkF m 8 #[.val (.ref b), .val (.int (Int32.ofNat mm)), .val (.int (Int32.ofNat N)), .unset, .unset, .unset] [(.ref b), (.int (Int32.ofNat mm))])) rfl rfl (hb hby own_d_jdk_68_method_10_code_8)
  have r5 : GoTo p.tables e below s₁ (own_F_own_newCap m b mm) T4 (mkF m 12 #[.val (.ref b), .val (.int (Int32.ofNat mm)), .val (.int (Int32.ofNat N)), .unset, .unset, .unset] [(.int ((Int32.ofNat mm) <<< ((0 : Int32) &&& 31)))]) := fun tt_ kk_ => r0 tt_ (by
      show Steps p.tables e below (s₁.setTop (mkF m 0 #[.val (.ref b), .val (.int (Int32.ofNat mm)), .unset, .unset, .unset, .unset] [])) _
      refine XS.aloadN X0.here hx rfl (hb hby own_d_jdk_68_method_10_code_0) rfl rfl ?_
      show Steps p.tables e below (s₁.setTop (mkF m 1 #[.val (.ref b), .val (.int (Int32.ofNat mm)), .unset, .unset, .unset, .unset] [(.ref b)])) _
      refine st2 _ ?_
      show Steps p.tables e below (T2.setTop (mkF m 4 #[.val (.ref b), .val (.int (Int32.ofNat mm)), .unset, .unset, .unset, .unset] [(.ref d)])) _
      refine X2.arraylength hx (by rw [e2]; exact Ar3.1) (State.isArrayOf_alike hZ.alike Ar3.2.1) (g := (mkF m 4 #[.val (.ref b), .val (.int (Int32.ofNat mm)), .unset, .unset, .unset, .unset] [(.ref d)])) rfl rfl (hb hby own_d_jdk_68_method_10_code_4) _ ?_
      rw [len_of S3 NN3]
      show Steps p.tables e below (T2.setTop (mkF m 5 #[.val (.ref b), .val (.int (Int32.ofNat mm)), .unset, .unset, .unset, .unset] [(.int (Int32.ofNat N))])) _
      refine XS.istoreN X2.here hx rfl (hb hby own_d_jdk_68_method_10_code_5) rfl (l' := #[.val (.ref b), .val (.int (Int32.ofNat mm)), .val (.int (Int32.ofNat N)), .unset, .unset, .unset]) rfl ?_
      show Steps p.tables e below (T2.setTop (mkF m 6 #[.val (.ref b), .val (.int (Int32.ofNat mm)), .val (.int (Int32.ofNat N)), .unset, .unset, .unset] [])) _
      refine XS.iloadN X2.here hx rfl (hb hby own_d_jdk_68_method_10_code_6) rfl ?_
      show Steps p.tables e below (T2.setTop (mkF m 7 #[.val (.ref b), .val (.int (Int32.ofNat mm)), .val (.int (Int32.ofNat N)), .unset, .unset, .unset] [(.int (Int32.ofNat mm))])) _
      refine XS.aloadN X2.here hx rfl (hb hby own_d_jdk_68_method_10_code_7) rfl rfl ?_
      show Steps p.tables e below (T2.setTop (mkF m 8 #[.val (.ref b), .val (.int (Int32.ofNat mm)), .val (.int (Int32.ofNat N)), .unset, .unset, .unset] [(.ref b), (.int (Int32.ofNat mm))])) _
      refine st4 _ ?_
      show Steps p.tables e below (T4.setTop (mkF m 11 #[.val (.ref b), .val (.int (Int32.ofNat mm)), .val (.int (Int32.ofNat N)), .unset, .unset, .unset] [(.int (0 : Int32)), (.int (Int32.ofNat mm))])) _
      refine XS.ishl X4.here hx rfl (hb hby own_d_jdk_68_method_10_code_11) rfl ?_
      show Steps p.tables e below (T4.setTop (mkF m 12 #[.val (.ref b), .val (.int (Int32.ofNat mm)), .val (.int (Int32.ofNat N)), .unset, .unset, .unset] [(.int ((Int32.ofNat mm) <<< ((0 : Int32) &&& 31)))])) _
      exact kk_)
  have r6 : GoTo p.tables e below s₁ (own_F_own_newCap m b mm) T4 (mkF m 12 #[.val (.ref b), .val (.int (Int32.ofNat mm)), .val (.int (Int32.ofNat N)), .unset, .unset, .unset] [(.int (Int32.ofNat mm))]) := Eq.mp (congrArg (fun zz_ => GoTo p.tables e below s₁ (own_F_own_newCap m b mm) T4 (mkF m 12 #[.val (.ref b), .val (.int (Int32.ofNat mm)), .val (.int (Int32.ofNat N)), .unset, .unset, .unset] [(.int zz_)])) (show ((Int32.ofNat mm) <<< ((0 : Int32) &&& 31)) = (Int32.ofNat mm) from own_shl0 _)) r5
  have r7 : GoTo p.tables e below s₁ (own_F_own_newCap m b mm) T4 (mkF m 16 #[.val (.ref b), .val (.int (Int32.ofNat mm)), .val (.int (Int32.ofNat N)), .val (.int (Int32.ofNat mm)), .unset, .unset] [(.int ((Int32.ofNat mm) - (Int32.ofNat N)))]) := fun tt_ kk_ => r6 tt_ (by
      show Steps p.tables e below (T4.setTop (mkF m 12 #[.val (.ref b), .val (.int (Int32.ofNat mm)), .val (.int (Int32.ofNat N)), .unset, .unset, .unset] [(.int (Int32.ofNat mm))])) _
      refine XS.istoreN X4.here hx rfl (hb hby own_d_jdk_68_method_10_code_12) rfl (l' := #[.val (.ref b), .val (.int (Int32.ofNat mm)), .val (.int (Int32.ofNat N)), .val (.int (Int32.ofNat mm)), .unset, .unset]) rfl ?_
      show Steps p.tables e below (T4.setTop (mkF m 13 #[.val (.ref b), .val (.int (Int32.ofNat mm)), .val (.int (Int32.ofNat N)), .val (.int (Int32.ofNat mm)), .unset, .unset] [])) _
      refine XS.iloadN X4.here hx rfl (hb hby own_d_jdk_68_method_10_code_13) rfl ?_
      show Steps p.tables e below (T4.setTop (mkF m 14 #[.val (.ref b), .val (.int (Int32.ofNat mm)), .val (.int (Int32.ofNat N)), .val (.int (Int32.ofNat mm)), .unset, .unset] [(.int (Int32.ofNat mm))])) _
      refine XS.iloadN X4.here hx rfl (hb hby own_d_jdk_68_method_10_code_14) rfl ?_
      show Steps p.tables e below (T4.setTop (mkF m 15 #[.val (.ref b), .val (.int (Int32.ofNat mm)), .val (.int (Int32.ofNat N)), .val (.int (Int32.ofNat mm)), .unset, .unset] [(.int (Int32.ofNat N)), (.int (Int32.ofNat mm))])) _
      refine XS.isub X4.here hx rfl (hb hby own_d_jdk_68_method_10_code_15) rfl ?_
      show Steps p.tables e below (T4.setTop (mkF m 16 #[.val (.ref b), .val (.int (Int32.ofNat mm)), .val (.int (Int32.ofNat N)), .val (.int (Int32.ofNat mm)), .unset, .unset] [(.int ((Int32.ofNat mm) - (Int32.ofNat N)))])) _
      exact kk_)
  have r8 : GoTo p.tables e below s₁ (own_F_own_newCap m b mm) T4 (mkF m 16 #[.val (.ref b), .val (.int (Int32.ofNat mm)), .val (.int (Int32.ofNat N)), .val (.int (Int32.ofNat mm)), .unset, .unset] [(.int (Int32.ofNat (mm - N)))]) := Eq.mp (congrArg (fun zz_ => GoTo p.tables e below s₁ (own_F_own_newCap m b mm) T4 (mkF m 16 #[.val (.ref b), .val (.int (Int32.ofNat mm)), .val (.int (Int32.ofNat N)), .val (.int (Int32.ofNat mm)), .unset, .unset] [(.int zz_)])) (show ((Int32.ofNat mm) - (Int32.ofNat N)) = (Int32.ofNat (mm - N)) from own_subN hNm)) r7
  obtain ⟨T9, X9, e9, st9⟩ := getF X4 hx hZ hown (host := "") (Or.inl (hw _ (List.mem_of_getElem? (i := 42) rfl))) Via.refl e4 hp1 (g := (mkF m 24 #[.val (.ref b), .val (.int (Int32.ofNat mm)), .val (.int (Int32.ofNat N)), .val (.int (Int32.ofNat mm)), .val (.int (Int32.ofNat (mm - N))), .unset] [(.ref b), (.int (2 : Int32)), (.int (Int32.ofNat N)), (.int (Int32.ofNat (mm - N))), (.int (Int32.ofNat N))])) rfl rfl (hb hby own_d_jdk_68_method_10_code_24)
  have r10 : GoTo p.tables e below s₁ (own_F_own_newCap m b mm) T9 (mkF m 28 #[.val (.ref b), .val (.int (Int32.ofNat mm)), .val (.int (Int32.ofNat N)), .val (.int (Int32.ofNat mm)), .val (.int (Int32.ofNat (mm - N))), .unset] [(.int ((2 : Int32) <<< ((0 : Int32) &&& 31))), (.int (Int32.ofNat N)), (.int (Int32.ofNat (mm - N))), (.int (Int32.ofNat N))]) := fun tt_ kk_ => r8 tt_ (by
      show Steps p.tables e below (T4.setTop (mkF m 16 #[.val (.ref b), .val (.int (Int32.ofNat mm)), .val (.int (Int32.ofNat N)), .val (.int (Int32.ofNat mm)), .unset, .unset] [(.int (Int32.ofNat (mm - N)))])) _
      refine XS.istore X4.here hx rfl (hb hby own_d_jdk_68_method_10_code_16) rfl (l' := #[.val (.ref b), .val (.int (Int32.ofNat mm)), .val (.int (Int32.ofNat N)), .val (.int (Int32.ofNat mm)), .val (.int (Int32.ofNat (mm - N))), .unset]) rfl ?_
      show Steps p.tables e below (T4.setTop (mkF m 18 #[.val (.ref b), .val (.int (Int32.ofNat mm)), .val (.int (Int32.ofNat N)), .val (.int (Int32.ofNat mm)), .val (.int (Int32.ofNat (mm - N))), .unset] [])) _
      refine XS.iloadN X4.here hx rfl (hb hby own_d_jdk_68_method_10_code_18) rfl ?_
      show Steps p.tables e below (T4.setTop (mkF m 19 #[.val (.ref b), .val (.int (Int32.ofNat mm)), .val (.int (Int32.ofNat N)), .val (.int (Int32.ofNat mm)), .val (.int (Int32.ofNat (mm - N))), .unset] [(.int (Int32.ofNat N))])) _
      refine XS.iload X4.here hx rfl (hb hby own_d_jdk_68_method_10_code_19) rfl ?_
      show Steps p.tables e below (T4.setTop (mkF m 21 #[.val (.ref b), .val (.int (Int32.ofNat mm)), .val (.int (Int32.ofNat N)), .val (.int (Int32.ofNat mm)), .val (.int (Int32.ofNat (mm - N))), .unset] [(.int (Int32.ofNat (mm - N))), (.int (Int32.ofNat N))])) _
      refine XS.iloadN X4.here hx rfl (hb hby own_d_jdk_68_method_10_code_21) rfl ?_
      show Steps p.tables e below (T4.setTop (mkF m 22 #[.val (.ref b), .val (.int (Int32.ofNat mm)), .val (.int (Int32.ofNat N)), .val (.int (Int32.ofNat mm)), .val (.int (Int32.ofNat (mm - N))), .unset] [(.int (Int32.ofNat N)), (.int (Int32.ofNat (mm - N))), (.int (Int32.ofNat N))])) _
      refine XS.iconst X4.here hx rfl (hb hby own_d_jdk_68_method_10_code_22) ?_
      show Steps p.tables e below (T4.setTop (mkF m 23 #[.val (.ref b), .val (.int (Int32.ofNat mm)), .val (.int (Int32.ofNat N)), .val (.int (Int32.ofNat mm)), .val (.int (Int32.ofNat (mm - N))), .unset] [(.int (2 : Int32)), (.int (Int32.ofNat N)), (.int (Int32.ofNat (mm - N))), (.int (Int32.ofNat N))])) _
      refine XS.aloadN X4.here hx rfl (hb hby own_d_jdk_68_method_10_code_23) rfl rfl ?_
      show Steps p.tables e below (T4.setTop (mkF m 24 #[.val (.ref b), .val (.int (Int32.ofNat mm)), .val (.int (Int32.ofNat N)), .val (.int (Int32.ofNat mm)), .val (.int (Int32.ofNat (mm - N))), .unset] [(.ref b), (.int (2 : Int32)), (.int (Int32.ofNat N)), (.int (Int32.ofNat (mm - N))), (.int (Int32.ofNat N))])) _
      refine st9 _ ?_
      show Steps p.tables e below (T9.setTop (mkF m 27 #[.val (.ref b), .val (.int (Int32.ofNat mm)), .val (.int (Int32.ofNat N)), .val (.int (Int32.ofNat mm)), .val (.int (Int32.ofNat (mm - N))), .unset] [(.int (0 : Int32)), (.int (2 : Int32)), (.int (Int32.ofNat N)), (.int (Int32.ofNat (mm - N))), (.int (Int32.ofNat N))])) _
      refine XS.ishl X9.here hx rfl (hb hby own_d_jdk_68_method_10_code_27) rfl ?_
      show Steps p.tables e below (T9.setTop (mkF m 28 #[.val (.ref b), .val (.int (Int32.ofNat mm)), .val (.int (Int32.ofNat N)), .val (.int (Int32.ofNat mm)), .val (.int (Int32.ofNat (mm - N))), .unset] [(.int ((2 : Int32) <<< ((0 : Int32) &&& 31))), (.int (Int32.ofNat N)), (.int (Int32.ofNat (mm - N))), (.int (Int32.ofNat N))])) _
      exact kk_)
  have r11 : GoTo p.tables e below s₁ (own_F_own_newCap m b mm) T9 (mkF m 28 #[.val (.ref b), .val (.int (Int32.ofNat mm)), .val (.int (Int32.ofNat N)), .val (.int (Int32.ofNat mm)), .val (.int (Int32.ofNat (mm - N))), .unset] [(.int (2 : Int32)), (.int (Int32.ofNat N)), (.int (Int32.ofNat (mm - N))), (.int (Int32.ofNat N))]) := Eq.mp (congrArg (fun zz_ => GoTo p.tables e below s₁ (own_F_own_newCap m b mm) T9 (mkF m 28 #[.val (.ref b), .val (.int (Int32.ofNat mm)), .val (.int (Int32.ofNat N)), .val (.int (Int32.ofNat mm)), .val (.int (Int32.ofNat (mm - N))), .unset] [(.int zz_), (.int (Int32.ofNat N)), (.int (Int32.ofNat (mm - N))), (.int (Int32.ofNat N))])) (show ((2 : Int32) <<< ((0 : Int32) &&& 31)) = (2 : Int32) from own_shl0 _)) r10
  have r12 : GoTo p.tables e below s₁ (own_F_own_newCap m b mm) T9 (mkF m 29 #[.val (.ref b), .val (.int (Int32.ofNat mm)), .val (.int (Int32.ofNat N)), .val (.int (Int32.ofNat mm)), .val (.int (Int32.ofNat (mm - N))), .unset] [(.int ((Int32.ofNat N) + (2 : Int32))), (.int (Int32.ofNat (mm - N))), (.int (Int32.ofNat N))]) := fun tt_ kk_ => r11 tt_ (by
      show Steps p.tables e below (T9.setTop (mkF m 28 #[.val (.ref b), .val (.int (Int32.ofNat mm)), .val (.int (Int32.ofNat N)), .val (.int (Int32.ofNat mm)), .val (.int (Int32.ofNat (mm - N))), .unset] [(.int (2 : Int32)), (.int (Int32.ofNat N)), (.int (Int32.ofNat (mm - N))), (.int (Int32.ofNat N))])) _
      refine XS.iadd X9.here hx rfl (hb hby own_d_jdk_68_method_10_code_28) rfl ?_
      show Steps p.tables e below (T9.setTop (mkF m 29 #[.val (.ref b), .val (.int (Int32.ofNat mm)), .val (.int (Int32.ofNat N)), .val (.int (Int32.ofNat mm)), .val (.int (Int32.ofNat (mm - N))), .unset] [(.int ((Int32.ofNat N) + (2 : Int32))), (.int (Int32.ofNat (mm - N))), (.int (Int32.ofNat N))])) _
      exact kk_)
  have r13 : GoTo p.tables e below s₁ (own_F_own_newCap m b mm) T9 (mkF m 29 #[.val (.ref b), .val (.int (Int32.ofNat mm)), .val (.int (Int32.ofNat N)), .val (.int (Int32.ofNat mm)), .val (.int (Int32.ofNat (mm - N))), .unset] [(.int (Int32.ofNat (N + 2))), (.int (Int32.ofNat (mm - N))), (.int (Int32.ofNat N))]) := Eq.mp (congrArg (fun zz_ => GoTo p.tables e below s₁ (own_F_own_newCap m b mm) T9 (mkF m 29 #[.val (.ref b), .val (.int (Int32.ofNat mm)), .val (.int (Int32.ofNat N)), .val (.int (Int32.ofNat mm)), .val (.int (Int32.ofNat (mm - N))), .unset] [(.int zz_), (.int (Int32.ofNat (mm - N))), (.int (Int32.ofNat N))])) (show ((Int32.ofNat N) + (2 : Int32)) = (Int32.ofNat (N + 2)) from own_addN (a := N) (b := 2))) r12
  obtain ⟨_, _, ⟨T14, L14, k14, n14⟩, -, X14, ⟨Lc14, hQ14, l14, y14, z14⟩, st14⟩ := Jvm.LawKit.callS X9 hx (y := (⟨"jdk/internal/util/ArraysSupport", "newLength", "(III)I"⟩ : MethodName)) hown (mvT hZ (hw _ (List.mem_of_getElem? (i := 207) rfl))) (mvT hZ (hw _ (List.mem_of_getElem? (i := 208) rfl))) (mvT hZ (hw _ (List.mem_of_getElem? (i := 209) rfl))) (mvT hZ (hw _ (List.mem_of_getElem? (i := 210) rfl))) (by decide) (backOf (W := 0) (own_newLen l Z a0 hw [] (N) ((mm - N)) ((N + 2)) h0 n0 (O0.keep K0 all0) (by omega) (by omega) (by omega) (hNp)) hZ (hw _ (List.mem_of_getElem? (i := 210) rfl)) (hw _ (List.mem_of_getElem? (i := 209) rfl)) (by decide) (by decide)) (g := (mkF m 29 #[.val (.ref b), .val (.int (Int32.ofNat mm)), .val (.int (Int32.ofNat N)), .val (.int (Int32.ofNat mm)), .val (.int (Int32.ofNat (mm - N))), .unset] [(.int (Int32.ofNat (N + 2))), (.int (Int32.ofNat (mm - N))), (.int (Int32.ofNat N))])) rfl (by rw [hml]; rfl) (argsL := [(.int (Int32.ofNat N)), (.int (Int32.ofNat (mm - N))), (.int (Int32.ofNat (N + 2)))]) (rest := []) (lenOf own_pd2 rfl) rfl (by show 2 * 0 + _ ≤ _; exact Nat.le_of_eq rfl) (hb hby own_d_jdk_68_method_10_code_29) (fun _ _ => ⟨rfl, e9, (by decide : 0 + 0 ≤ _), (by decide : 0 + 0 ≤ _)⟩)
  dsimp only [Pt.U, Pt.locs, Pt.cells, Pt.slots] at X14 l14 y14 z14 st14 hQ14
  subst l14 y14 z14
  obtain ⟨rfl, Nq14, hh14⟩ := hQ14
  have N14 := Fr.app N0 Nq14
  obtain ⟨T15, X15, e15, st15⟩ := getF X14 hx hZ hown (host := "") (Or.inl (hw _ (List.mem_of_getElem? (i := 42) rfl))) Via.refl hh14 hp1 (g := (mkF m 54 #[.val (.ref b), .val (.int (Int32.ofNat mm)), .val (.int (Int32.ofNat N)), .val (.int (Int32.ofNat mm)), .val (.int (Int32.ofNat (mm - N))), .val (.int (Int32.ofNat (N + max (mm - N) (N + 2))))] [(.ref b), (.int (Int32.ofNat (N + max (mm - N) (N + 2))))])) rfl rfl (hb hby own_d_jdk_68_method_10_code_54)
  have r16 : GoTo p.tables e below s₁ (own_F_own_newCap m b mm) T15 (mkF m 58 #[.val (.ref b), .val (.int (Int32.ofNat mm)), .val (.int (Int32.ofNat N)), .val (.int (Int32.ofNat mm)), .val (.int (Int32.ofNat (mm - N))), .val (.int (Int32.ofNat (N + max (mm - N) (N + 2))))] [(.int ((Int32.ofNat (N + max (mm - N) (N + 2))) >>> ((0 : Int32) &&& 31)))]) := fun tt_ kk_ => r13 tt_ (by
      show Steps p.tables e below (T9.setTop (mkF m 29 #[.val (.ref b), .val (.int (Int32.ofNat mm)), .val (.int (Int32.ofNat N)), .val (.int (Int32.ofNat mm)), .val (.int (Int32.ofNat (mm - N))), .unset] [(.int (Int32.ofNat (N + 2))), (.int (Int32.ofNat (mm - N))), (.int (Int32.ofNat N))])) _
      refine st14 _ ?_
      show Steps p.tables e below (T14.setTop (mkF m 32 #[.val (.ref b), .val (.int (Int32.ofNat mm)), .val (.int (Int32.ofNat N)), .val (.int (Int32.ofNat mm)), .val (.int (Int32.ofNat (mm - N))), .unset] [(.int (Int32.ofNat (N + max (mm - N) (N + 2))))])) _
      refine XS.istore X14.here hx rfl (hb hby own_d_jdk_68_method_10_code_32) rfl (l' := #[.val (.ref b), .val (.int (Int32.ofNat mm)), .val (.int (Int32.ofNat N)), .val (.int (Int32.ofNat mm)), .val (.int (Int32.ofNat (mm - N))), .val (.int (Int32.ofNat (N + max (mm - N) (N + 2))))]) rfl ?_
      show Steps p.tables e below (T14.setTop (mkF m 34 #[.val (.ref b), .val (.int (Int32.ofNat mm)), .val (.int (Int32.ofNat N)), .val (.int (Int32.ofNat mm)), .val (.int (Int32.ofNat (mm - N))), .val (.int (Int32.ofNat (N + max (mm - N) (N + 2))))] [])) _
      refine XS.iload X14.here hx rfl (hb hby own_d_jdk_68_method_10_code_34) rfl ?_
      show Steps p.tables e below (T14.setTop (mkF m 36 #[.val (.ref b), .val (.int (Int32.ofNat mm)), .val (.int (Int32.ofNat N)), .val (.int (Int32.ofNat mm)), .val (.int (Int32.ofNat (mm - N))), .val (.int (Int32.ofNat (N + max (mm - N) (N + 2))))] [(.int (Int32.ofNat (N + max (mm - N) (N + 2))))])) _
      refine X14.ldcI hx hown (mvT hZ (hw _ (List.mem_of_getElem? (i := 215) rfl))) rfl (hb hby own_d_jdk_68_method_10_code_36) ?_
      show Steps p.tables e below (T14.setTop (mkF m 38 #[.val (.ref b), .val (.int (Int32.ofNat mm)), .val (.int (Int32.ofNat N)), .val (.int (Int32.ofNat mm)), .val (.int (Int32.ofNat (mm - N))), .val (.int (Int32.ofNat (N + max (mm - N) (N + 2))))] [(.int (2147483647 : Int32)), (.int (Int32.ofNat (N + max (mm - N) (N + 2))))])) _
      refine XS.icmpYes X14.here hx rfl (pc0 := 38) (pc' := 51) rfl (hb hby own_d_jdk_68_method_10_code_38) rfl (feq (fun q => absurd (congrArg Int32.toInt q) (by rw [own_nat (by omega), show (2147483647 : Int32).toInt = 2147483647 from by decide]; omega))).2 (by decide) (by decide) ?_
      show Steps p.tables e below (T14.setTop (mkF m 51 #[.val (.ref b), .val (.int (Int32.ofNat mm)), .val (.int (Int32.ofNat N)), .val (.int (Int32.ofNat mm)), .val (.int (Int32.ofNat (mm - N))), .val (.int (Int32.ofNat (N + max (mm - N) (N + 2))))] [])) _
      refine XS.iload X14.here hx rfl (hb hby own_d_jdk_68_method_10_code_51) rfl ?_
      show Steps p.tables e below (T14.setTop (mkF m 53 #[.val (.ref b), .val (.int (Int32.ofNat mm)), .val (.int (Int32.ofNat N)), .val (.int (Int32.ofNat mm)), .val (.int (Int32.ofNat (mm - N))), .val (.int (Int32.ofNat (N + max (mm - N) (N + 2))))] [(.int (Int32.ofNat (N + max (mm - N) (N + 2))))])) _
      refine XS.aloadN X14.here hx rfl (hb hby own_d_jdk_68_method_10_code_53) rfl rfl ?_
      show Steps p.tables e below (T14.setTop (mkF m 54 #[.val (.ref b), .val (.int (Int32.ofNat mm)), .val (.int (Int32.ofNat N)), .val (.int (Int32.ofNat mm)), .val (.int (Int32.ofNat (mm - N))), .val (.int (Int32.ofNat (N + max (mm - N) (N + 2))))] [(.ref b), (.int (Int32.ofNat (N + max (mm - N) (N + 2))))])) _
      refine st15 _ ?_
      show Steps p.tables e below (T15.setTop (mkF m 57 #[.val (.ref b), .val (.int (Int32.ofNat mm)), .val (.int (Int32.ofNat N)), .val (.int (Int32.ofNat mm)), .val (.int (Int32.ofNat (mm - N))), .val (.int (Int32.ofNat (N + max (mm - N) (N + 2))))] [(.int (0 : Int32)), (.int (Int32.ofNat (N + max (mm - N) (N + 2))))])) _
      refine XS.ishr X15.here hx rfl (hb hby own_d_jdk_68_method_10_code_57) rfl ?_
      show Steps p.tables e below (T15.setTop (mkF m 58 #[.val (.ref b), .val (.int (Int32.ofNat mm)), .val (.int (Int32.ofNat N)), .val (.int (Int32.ofNat mm)), .val (.int (Int32.ofNat (mm - N))), .val (.int (Int32.ofNat (N + max (mm - N) (N + 2))))] [(.int ((Int32.ofNat (N + max (mm - N) (N + 2))) >>> ((0 : Int32) &&& 31)))])) _
      exact kk_)
  have r17 : GoTo p.tables e below s₁ (own_F_own_newCap m b mm) T15 (mkF m 58 #[.val (.ref b), .val (.int (Int32.ofNat mm)), .val (.int (Int32.ofNat N)), .val (.int (Int32.ofNat mm)), .val (.int (Int32.ofNat (mm - N))), .val (.int (Int32.ofNat (N + max (mm - N) (N + 2))))] [(.int (Int32.ofNat (N + max (mm - N) (N + 2))))]) := Eq.mp (congrArg (fun zz_ => GoTo p.tables e below s₁ (own_F_own_newCap m b mm) T15 (mkF m 58 #[.val (.ref b), .val (.int (Int32.ofNat mm)), .val (.int (Int32.ofNat N)), .val (.int (Int32.ofNat mm)), .val (.int (Int32.ofNat (mm - N))), .val (.int (Int32.ofNat (N + max (mm - N) (N + 2))))] [(.int zz_)])) (show ((Int32.ofNat (N + max (mm - N) (N + 2))) >>> ((0 : Int32) &&& 31)) = (Int32.ofNat (N + max (mm - N) (N + 2))) from own_shr0 _)) r16
  obtain ⟨fs, hr, hrun, hended, hW, hsame⟩ := X15.leave (v := some (.int (Int32.ofNat (N + max (mm - N) (N + 2))))) (fun h => by rw [Bd.returns] at h; cases h)
  refine ⟨_, _, r17 _ ?_, hrun, hended, _, _, rfl, ?_, ⟨_, rfl⟩, hW, hsame.mono (by decide) (by decide)⟩
  · show Steps p.tables e below (T15.setTop (mkF m 58 #[.val (.ref b), .val (.int (Int32.ofNat mm)), .val (.int (Int32.ofNat N)), .val (.int (Int32.ofNat mm)), .val (.int (Int32.ofNat (mm - N))), .val (.int (Int32.ofNat (N + max (mm - N) (N + 2))))] [(.int (Int32.ofNat (N + max (mm - N) (N + 2))))])) _
    exact retI X15 hx Bd.returns (hb hby own_d_jdk_68_method_10_code_58) hr
  · show Q_own_newCap Z b d kd N cs mm h0 n0 _ T15.heap _
    rw [e15]
    exact ⟨rfl, N14, rfl⟩
theorem own_pn_own_copyOf : plainName "java/util/Arrays" = true := by first | (simp [plainName, overriddenIn]; done) | decide +kernel
theorem own_ef_own_copyOf (m : MethodId) (d : Addr) (mm : Nat) : entryFrame m #[(.ref d), (.int (Int32.ofNat mm))] 3 = mkF m 0 #[.val (.ref d), .val (.int (Int32.ofNat mm)), .unset] [] := by first | (simp [entryFrame, mkF, argsToLocals, own_cI, own_cJ, own_cR, own_cN]; done) | rfl
abbrev own_F_own_copyOf (m : MethodId) (d : Addr) (mm : Nat) : JFrame := entryFrame m #[(.ref d), (.int (Int32.ofNat mm))] 3
def Q_own_copyOf (Z : State) (d : Addr) (kd : ClassId) (N : Nat) (cs : List Int32) (mm : Nat) (h0 : Heap) (n0 : Nat) (v : Option Value) (h : Heap) (L : List Loc) : Prop := ∃ (b2 : Addr), ∃ (k2 : ClassId), v = some (.ref b2) ∧ Fr n0 L ∧ Keep h0 h [] ∧ (h0.size ≤ b2) ∧ (n0 ≤ b2) ∧ (own_By Z h b2 k2 mm cs)
set_option maxRecDepth 65536 in
set_option maxHeartbeats 40000000 in
theorem own_copyOf (l : Launch) (Z : State) (a0 : Array Value) (hw : ∀ d ∈ tables_1, d.before a0 Z = true) (ws : List Jvm.Cond) (d : Addr) (kd : ClassId) (N : Nat) (cs : List Int32) (mm : Nat) (h0 : Heap) (n0 : Nat) (O0 : Old Z n0 h0) (hp0 : own_By Z h0 d kd N cs) (hmm : mm ≤ 200) (hNm : N < mm) :
    MetFree l (⟨"java/util/Arrays", "copyOf", "([BI)[B"⟩ : MethodName) (head1 (Jvm.Cond.code (⟨"java/util/Arrays", "copyOf", "([BI)[B"⟩ : MethodName) jdk_65_method_121_code 3 (some (.array .byte)) :: ws) ({ frames := 1, cells := 1, slots := 200, locals := 18 } : Room)) (fun aa_ U_ => aa_ = #[(.ref d), (.int (Int32.ofNat mm))] ∧ Z.Warmed39 U_.vm ∧ U_.heap = h0) (fun _ _ _ _ _ => True) (fun _ U_ o_ V_ => ∃ v_ L_, o_ = .returned v_ ∧ Q_own_copyOf Z d kd N cs mm h0 n0 v_ V_.heap L_ ∧ FrameEnd U_ o_ V_ L_ ({ frames := 1, cells := 1, slots := 200, locals := 18 } : Room).cells ({ frames := 1, cells := 1, slots := 200, locals := 18 } : Room).slots) := by
  refine MetFree.of_bodySF (plainFor_of_name own_pn_own_copyOf) hisR ?_
  intro p e s m args below meth c s₁ Bd hml0 hP hK
  obtain ⟨rfl, hZ, hh⟩ := hP
  have hx := Bd.exec
  have hby := Bd.bytes
  have hml : c.maxLocals = 3 := hml0
  have hown : s.vm.findClass "java/util/Arrays" = some m.cls := findClass_of_methodNamed Bd.named
  have hnm := (name_of_methodNamed Bd.named Bd.method).1
  have X0 : Stand p l e ({ frames := 1, cells := 1, slots := 200, locals := 18 } : Room) s m #[(.ref d), (.int (Int32.ofNat mm))] below meth c s₁ [] 0 0 := Stand.of_body Bd
  have e0 : s₁.heap = h0 := by rw [← hh, Bd.state]; rfl
  have N0 := Fr.nil n0
  have K0 : Keep h0 h0 [] := Keep.refl _ _
  have r0 : GoTo p.tables e below s₁ (own_F_own_copyOf m d mm) s₁ (mkF m 0 #[.val (.ref d), .val (.int (Int32.ofNat mm)), .unset] []) := fun tt_ kk_ => castTop (own_ef_own_copyOf m d mm) kk_
  obtain ⟨vs1, hvl1, hva1, hvc1⟩ := own_By.arv hp0
  obtain ⟨cl2, Ar2, q2, S2, NN2, H2, G2⟩ := id hva1
  obtain ⟨T3, h3, k3, X3, e3, E3, A3, Ex3, st3⟩ := newPE X0 hx hZ (hw _ (List.mem_of_getElem? (i := 39) rfl)) e0 (g := (mkF m 15 #[.val (.ref d), .val (.int (Int32.ofNat mm)), .unset] [(.int (Int32.ofNat mm))])) rfl (hb hby own_d_jdk_65_method_121_code_15) rfl (own_negN (by omega)) (cap := 200) (by rw [own_clamp (by omega)]; exact hmm) (by decide) (by decide) (by decide) (ad := "[B") (by decide)
  obtain ⟨b3, gg3⟩ : ∃ z, z = h0.size := ⟨_, rfl⟩
  rw [← gg3] at A3 Ex3 st3
  have ne4 : d ≠ b3 := Nat.ne_of_lt (Nat.lt_of_lt_of_le hp0.lt (Nat.le_of_eq gg3.symm))
  have g5 : n0 ≤ b3 := Nat.le_trans (Nat.le_trans (own_le O0) K0.1) (Nat.le_of_eq gg3.symm)
  have b6 : h0.size ≤ b3 := Nat.le_trans K0.1 (Nat.le_of_eq gg3.symm)
  have K7 : Keep h0 h3 [] := K0.ext E3
  have V3 : Arv Z h3 b3 k3 .byte (Int32.ofNat mm) [] (.int (0 : Int32)) := Arv.new A3 (own_negN (by omega))
  have Vp : Arv Z h3 b3 k3 .byte (Int32.ofNat mm) (List.replicate mm (Value.int 0)) (.int 0) := V3.pad (fun i => by rw [own_getD_rep]; simp)
  have f8 : Arv Z h3 d kd .byte (Int32.ofNat N) vs1 (.int (0 : Int32)) := (hva1.ext E3)
  obtain ⟨cl9, Ar9, q9, S9, NN9, H9, G9⟩ := id f8
  obtain ⟨_, _, ⟨T10, L10, k10, n10⟩, -, X10, ⟨Lc10, hQ10, l10, y10, z10⟩, st10⟩ := Jvm.LawKit.callS X3 hx (y := (⟨"java/lang/Math", "min", "(II)I"⟩ : MethodName)) hown (mvT hZ (hw _ (List.mem_of_getElem? (i := 160) rfl))) (mvT hZ (hw _ (List.mem_of_getElem? (i := 161) rfl))) (mvT hZ (hw _ (List.mem_of_getElem? (i := 162) rfl))) (mvT hZ (hw _ (List.mem_of_getElem? (i := 163) rfl))) (by decide) (backOf (W := 4) (own_minN l Z a0 hw [] (N) (mm) h3 n0 (O0.keep K7 all0) (by omega) (by omega)) hZ (hw _ (List.mem_of_getElem? (i := 163) rfl)) (hw _ (List.mem_of_getElem? (i := 162) rfl)) (by decide) (by decide)) (g := (mkF m 25 #[.val (.ref d), .val (.int (Int32.ofNat mm)), .val (.ref b3)] [(.int (Int32.ofNat mm)), (.int (Int32.ofNat N)), (.int (0 : Int32)), (.ref b3), (.int (0 : Int32)), (.ref d)])) rfl (by rw [hml]; rfl) (argsL := [(.int (Int32.ofNat N)), (.int (Int32.ofNat mm))]) (rest := [(.int (0 : Int32)), (.ref b3), (.int (0 : Int32)), (.ref d)]) (lenOf own_pd1 rfl) rfl (by show 2 * 0 + _ ≤ _; exact Nat.le_of_eq rfl) (hb hby own_d_jdk_65_method_121_code_25) (fun _ _ => ⟨rfl, e3, (by decide : 1 + 0 ≤ _), (by decide : 200 + 0 ≤ _)⟩)
  dsimp only [Pt.U, Pt.locs, Pt.cells, Pt.slots] at X10 l10 y10 z10 st10 hQ10
  subst l10 y10 z10
  obtain ⟨rfl, Nq10, hh10⟩ := hQ10
  have N10 := Fr.app N0 Nq10
  have r11 : GoTo p.tables e below s₁ (own_F_own_copyOf m d mm) T10 (mkF m 28 #[.val (.ref d), .val (.int (Int32.ofNat mm)), .val (.ref b3)] [(.int (Int32.ofNat (min N mm))), (.int (0 : Int32)), (.ref b3), (.int (0 : Int32)), (.ref d)]) := fun tt_ kk_ => r0 tt_ (by
      show Steps p.tables e below (s₁.setTop (mkF m 0 #[.val (.ref d), .val (.int (Int32.ofNat mm)), .unset] [])) _
      refine XS.iloadN X0.here hx rfl (hb hby own_d_jdk_65_method_121_code_0) rfl ?_
      show Steps p.tables e below (s₁.setTop (mkF m 1 #[.val (.ref d), .val (.int (Int32.ofNat mm)), .unset] [(.int (Int32.ofNat mm))])) _
      refine XS.aloadN X0.here hx rfl (hb hby own_d_jdk_65_method_121_code_1) rfl rfl ?_
      show Steps p.tables e below (s₁.setTop (mkF m 2 #[.val (.ref d), .val (.int (Int32.ofNat mm)), .unset] [(.ref d), (.int (Int32.ofNat mm))])) _
      refine X0.arraylength hx (by rw [e0]; exact Ar2.1) (State.isArrayOf_alike hZ.alike Ar2.2.1) (g := (mkF m 2 #[.val (.ref d), .val (.int (Int32.ofNat mm)), .unset] [(.ref d), (.int (Int32.ofNat mm))])) rfl rfl (hb hby own_d_jdk_65_method_121_code_2) _ ?_
      rw [len_of S2 NN2]
      show Steps p.tables e below (s₁.setTop (mkF m 3 #[.val (.ref d), .val (.int (Int32.ofNat mm)), .unset] [(.int (Int32.ofNat N)), (.int (Int32.ofNat mm))])) _
      refine XS.icmpYes X0.here hx rfl (pc0 := 3) (pc' := 14) rfl (hb hby own_d_jdk_65_method_121_code_3) rfl (feq (fun q => absurd ((own_eqN (by omega) (by omega)).mp q) (by omega))).2 (by decide) (by decide) ?_
      show Steps p.tables e below (s₁.setTop (mkF m 14 #[.val (.ref d), .val (.int (Int32.ofNat mm)), .unset] [])) _
      refine XS.iloadN X0.here hx rfl (hb hby own_d_jdk_65_method_121_code_14) rfl ?_
      show Steps p.tables e below (s₁.setTop (mkF m 15 #[.val (.ref d), .val (.int (Int32.ofNat mm)), .unset] [(.int (Int32.ofNat mm))])) _
      refine st3 _ ?_
      show Steps p.tables e below (T3.setTop (mkF m 17 #[.val (.ref d), .val (.int (Int32.ofNat mm)), .unset] [(.ref b3)])) _
      refine XS.astoreN X3.here hx rfl (hb hby own_d_jdk_65_method_121_code_17) rfl rfl (l' := #[.val (.ref d), .val (.int (Int32.ofNat mm)), .val (.ref b3)]) rfl ?_
      show Steps p.tables e below (T3.setTop (mkF m 18 #[.val (.ref d), .val (.int (Int32.ofNat mm)), .val (.ref b3)] [])) _
      refine XS.aloadN X3.here hx rfl (hb hby own_d_jdk_65_method_121_code_18) rfl rfl ?_
      show Steps p.tables e below (T3.setTop (mkF m 19 #[.val (.ref d), .val (.int (Int32.ofNat mm)), .val (.ref b3)] [(.ref d)])) _
      refine XS.iconst X3.here hx rfl (hb hby own_d_jdk_65_method_121_code_19) ?_
      show Steps p.tables e below (T3.setTop (mkF m 20 #[.val (.ref d), .val (.int (Int32.ofNat mm)), .val (.ref b3)] [(.int (0 : Int32)), (.ref d)])) _
      refine XS.aloadN X3.here hx rfl (hb hby own_d_jdk_65_method_121_code_20) rfl rfl ?_
      show Steps p.tables e below (T3.setTop (mkF m 21 #[.val (.ref d), .val (.int (Int32.ofNat mm)), .val (.ref b3)] [(.ref b3), (.int (0 : Int32)), (.ref d)])) _
      refine XS.iconst X3.here hx rfl (hb hby own_d_jdk_65_method_121_code_21) ?_
      show Steps p.tables e below (T3.setTop (mkF m 22 #[.val (.ref d), .val (.int (Int32.ofNat mm)), .val (.ref b3)] [(.int (0 : Int32)), (.ref b3), (.int (0 : Int32)), (.ref d)])) _
      refine XS.aloadN X3.here hx rfl (hb hby own_d_jdk_65_method_121_code_22) rfl rfl ?_
      show Steps p.tables e below (T3.setTop (mkF m 23 #[.val (.ref d), .val (.int (Int32.ofNat mm)), .val (.ref b3)] [(.ref d), (.int (0 : Int32)), (.ref b3), (.int (0 : Int32)), (.ref d)])) _
      refine X3.arraylength hx (by rw [e3]; exact Ar9.1) (State.isArrayOf_alike hZ.alike Ar9.2.1) (g := (mkF m 23 #[.val (.ref d), .val (.int (Int32.ofNat mm)), .val (.ref b3)] [(.ref d), (.int (0 : Int32)), (.ref b3), (.int (0 : Int32)), (.ref d)])) rfl rfl (hb hby own_d_jdk_65_method_121_code_23) _ ?_
      rw [len_of S9 NN9]
      show Steps p.tables e below (T3.setTop (mkF m 24 #[.val (.ref d), .val (.int (Int32.ofNat mm)), .val (.ref b3)] [(.int (Int32.ofNat N)), (.int (0 : Int32)), (.ref b3), (.int (0 : Int32)), (.ref d)])) _
      refine XS.iloadN X3.here hx rfl (hb hby own_d_jdk_65_method_121_code_24) rfl ?_
      show Steps p.tables e below (T3.setTop (mkF m 25 #[.val (.ref d), .val (.int (Int32.ofNat mm)), .val (.ref b3)] [(.int (Int32.ofNat mm)), (.int (Int32.ofNat N)), (.int (0 : Int32)), (.ref b3), (.int (0 : Int32)), (.ref d)])) _
      refine st10 _ ?_
      show Steps p.tables e below (T10.setTop (mkF m 28 #[.val (.ref d), .val (.int (Int32.ofNat mm)), .val (.ref b3)] [(.int (Int32.ofNat (min N mm))), (.int (0 : Int32)), (.ref b3), (.int (0 : Int32)), (.ref d)])) _
      exact kk_)
  have r12 : GoTo p.tables e below s₁ (own_F_own_copyOf m d mm) T10 (mkF m 28 #[.val (.ref d), .val (.int (Int32.ofNat mm)), .val (.ref b3)] [(.int (Int32.ofNat N)), (.int (0 : Int32)), (.ref b3), (.int (0 : Int32)), (.ref d)]) := Eq.mp (congrArg (fun zz_ => GoTo p.tables e below s₁ (own_F_own_copyOf m d mm) T10 (mkF m 28 #[.val (.ref d), .val (.int (Int32.ofNat mm)), .val (.ref b3)] [(.int zz_), (.int (0 : Int32)), (.ref b3), (.int (0 : Int32)), (.ref d)])) (show (Int32.ofNat (min N mm)) = (Int32.ofNat N) from by rw [Nat.min_eq_left (Nat.le_of_lt hNm)])) r11
  have hN6 : N ≤ 1000000 := by omega
  have hm6 : mm ≤ 1000000 := by omega
  obtain ⟨us13, hus13⟩ : ∃ us : List Value, us = (List.range N).map fun i => (vs1).getD (0 + i) (.int 0) := ⟨_, rfl⟩
  obtain ⟨T13, h13, L13, X13, e13, N13, Kc13, V13, st13⟩ := cpA X10 hx hZ hown (hw _ (List.mem_of_getElem? (i := 164) rfl)) (hw _ (List.mem_of_getElem? (i := 121) rfl)) (hw _ (List.mem_of_getElem? (i := 119) rfl)) (hw _ (List.mem_of_getElem? (i := 120) rfl)) hh10 (us := us13) f8 Vp (Or.inl ⟨rfl, rfl⟩) (own_negN (by decide : (0 : Nat) ≤ 1000000)) (own_negN (by decide : (0 : Nat) ≤ 1000000)) (own_negN hN6) (by have q0 : (Int32.ofNat 0).toNatClampNeg = 0 := rfl; have q0' : (0 : Int32).toNatClampNeg = 0 := rfl; have q1 := own_clamp hN6; (try simp only [List.length_replicate]); omega) (by have q0 : (Int32.ofNat 0).toNatClampNeg = 0 := rfl; have q0' : (0 : Int32).toNatClampNeg = 0 := rfl; have q1 := own_clamp hN6; have q2 := own_clamp hm6; (try simp only [List.length_replicate]); omega) (by rw [own_clamp hN6, own_clamp (by decide : (0 : Nat) ≤ 1000000)]; exact hus13) (by have q0 : (Int32.ofNat 0).toNatClampNeg = 0 := rfl; have q0' : (0 : Int32).toNatClampNeg = 0 := rfl; have q1 := own_clamp hN6; (try simp only [List.length_replicate]); omega) N10 g5 (g := (mkF m 28 #[.val (.ref d), .val (.int (Int32.ofNat mm)), .val (.ref b3)] [(.int (Int32.ofNat N)), (.int (0 : Int32)), (.ref b3), (.int (0 : Int32)), (.ref d)])) rfl (by rw [hml]; rfl) rfl (hb hby own_d_jdk_65_method_121_code_28) (by decide) (W := 0) (by show 2 * 0 + _ ≤ _; exact Nat.le_of_eq rfl) (by decide)
  rw [own_clamp (by decide : (0 : Nat) ≤ 1000000), own_clamp hN6] at V13
  have K14 : Keep h0 h13 [] := K7.trans Kc13 (allS (Or.inr b6) all0)
  have f15 : Exa Z h13 b3 "[B" := (Ex3.keep Kc13)
  obtain ⟨fs, hr, hrun, hended, hW, hsame⟩ := X13.leave (v := some (.ref b3)) (fun h => by rw [Bd.returns] at h; cases h)
  refine ⟨_, _, r12 _ ?_, hrun, hended, _, _, rfl, ?_, ⟨_, rfl⟩, hW, hsame.mono (by decide) (by decide)⟩
  · show Steps p.tables e below (T10.setTop (mkF m 28 #[.val (.ref d), .val (.int (Int32.ofNat mm)), .val (.ref b3)] [(.int (Int32.ofNat N)), (.int (0 : Int32)), (.ref b3), (.int (0 : Int32)), (.ref d)])) _
    refine st13 _ ?_
    show Steps p.tables e below (T13.setTop (mkF m 31 #[.val (.ref d), .val (.int (Int32.ofNat mm)), .val (.ref b3)] [])) _
    refine XS.aloadN X13.here hx rfl (hb hby own_d_jdk_65_method_121_code_31) rfl rfl ?_
    show Steps p.tables e below (T13.setTop (mkF m 32 #[.val (.ref d), .val (.int (Int32.ofNat mm)), .val (.ref b3)] [(.ref b3)])) _
    exact retOut X13 hx (t := (.array .byte)) Bd.returns rfl (Or.inr (Or.inr (Or.inr (Or.inr ⟨rfl, rfl, rfl⟩)))) (hb hby own_d_jdk_65_method_121_code_32) hr
  · show Q_own_copyOf Z d kd N cs mm h0 n0 _ T13.heap _
    rw [e13]
    exact ⟨b3, k3, rfl, N13, K14, b6, g5, own_By.cp f15 hm6 (hp0.2.1) (Nat.le_of_lt hNm) hus13 hvc1 V13⟩
theorem own_pn_own_ens : plainName "java/lang/AbstractStringBuilder" = true := by first | (simp [plainName, overriddenIn]; done) | decide +kernel
theorem own_ef_own_ens (m : MethodId) (b : Addr) (mm : Nat) : entryFrame m #[(.ref b), (.int (Int32.ofNat mm))] 3 = mkF m 0 #[.val (.ref b), .val (.int (Int32.ofNat mm)), .unset] [] := by first | (simp [entryFrame, mkF, argsToLocals, own_cI, own_cJ, own_cR, own_cN]; done) | rfl
abbrev own_F_own_ens (m : MethodId) (b : Addr) (mm : Nat) : JFrame := entryFrame m #[(.ref b), (.int (Int32.ofNat mm))] 3
def Q_own_ens (Z : State) (b : Addr) (d : Addr) (kd : ClassId) (N : Nat) (cs : List Int32) (mm : Nat) (h0 : Heap) (n0 : Nat) (v : Option Value) (h : Heap) (L : List Loc) : Prop := ∃ (d2 : Addr), ∃ (k2 : ClassId), ∃ (N2 : Nat), v = none ∧ Fr n0 L ∧ Keep h0 h [b] ∧ (d2 = d ∨ h0.size ≤ d2) ∧ (n0 ≤ d2) ∧ (own_SB Z h b d2 k2 N2 cs) ∧ (mm ≤ N2 ∧ N ≤ N2 ∧ (N2 = N ∨ N2 ≤ 200))
set_option maxRecDepth 65536 in
set_option maxHeartbeats 40000000 in
theorem own_ens (l : Launch) (Z : State) (a0 : Array Value) (hw : ∀ d ∈ tables_1, d.before a0 Z = true) (ws : List Jvm.Cond) (b : Addr) (d : Addr) (kd : ClassId) (N : Nat) (cs : List Int32) (mm : Nat) (h0 : Heap) (n0 : Nat) (O0 : Old Z n0 h0) (hp0 : own_SB Z h0 b d kd N cs) (hp1 : n0 ≤ b) (hp2 : n0 ≤ d) (hmm : mm ≤ 200000) (hNp : 0 < N) (hcap : N < mm → N + max (mm - N) (N + 2) ≤ 200) (hNb : N ≤ 100000) :
    MetFree l (⟨"java/lang/AbstractStringBuilder", "ensureCapacityInternal", "(I)V"⟩ : MethodName) (head1 (Jvm.Cond.code (⟨"java/lang/AbstractStringBuilder", "ensureCapacityInternal", "(I)V"⟩ : MethodName) jdk_68_method_9_code 3 none :: ws) ({ frames := 3, cells := 1, slots := 200, locals := 48 } : Room)) (fun aa_ U_ => aa_ = #[(.ref b), (.int (Int32.ofNat mm))] ∧ Z.Warmed39 U_.vm ∧ U_.heap = h0) (fun _ _ _ _ _ => True) (fun _ U_ o_ V_ => ∃ v_ L_, o_ = .returned v_ ∧ Q_own_ens Z b d kd N cs mm h0 n0 v_ V_.heap L_ ∧ FrameEnd U_ o_ V_ L_ ({ frames := 3, cells := 1, slots := 200, locals := 48 } : Room).cells ({ frames := 3, cells := 1, slots := 200, locals := 48 } : Room).slots) := by
  refine MetFree.of_bodySF (plainFor_of_name own_pn_own_ens) hisR ?_
  intro p e s m args below meth c s₁ Bd hml0 hP hK
  obtain ⟨rfl, hZ, hh⟩ := hP
  have hx := Bd.exec
  have hby := Bd.bytes
  have hml : c.maxLocals = 3 := hml0
  have hown : s.vm.findClass "java/lang/AbstractStringBuilder" = some m.cls := findClass_of_methodNamed Bd.named
  have hnm := (name_of_methodNamed Bd.named Bd.method).1
  have X0 : Stand p l e ({ frames := 3, cells := 1, slots := 200, locals := 48 } : Room) s m #[(.ref b), (.int (Int32.ofNat mm))] below meth c s₁ [] 0 0 := Stand.of_body Bd
  have e0 : s₁.heap = h0 := by rw [← hh, Bd.state]; rfl
  have N0 := Fr.nil n0
  have K0 : Keep h0 h0 [b] := Keep.refl _ _
  have r0 : GoTo p.tables e below s₁ (own_F_own_ens m b mm) s₁ (mkF m 0 #[.val (.ref b), .val (.int (Int32.ofNat mm)), .unset] []) := fun tt_ kk_ => castTop (own_ef_own_ens m b mm) kk_
  obtain ⟨vs1, hvl1, hva1, hvc1⟩ := own_By.arv hp0.2.2.2.2.1
  have hNs : N ≤ 1000000 := hp0.2.2.2.2.1.2.2.1
  obtain ⟨T2, X2, e2, st2⟩ := getF X0 hx hZ hown (host := "") (Or.inl (hw _ (List.mem_of_getElem? (i := 40) rfl))) Via.refl e0 hp0.2.1 (g := (mkF m 1 #[.val (.ref b), .val (.int (Int32.ofNat mm)), .unset] [(.ref b)])) rfl rfl (hb hby own_d_jdk_68_method_9_code_1)
  obtain ⟨cl3, Ar3, q3, S3, NN3, H3, G3⟩ := id hva1
  obtain ⟨T4, X4, e4, st4⟩ := getF X2 hx hZ hown (host := "") (Or.inl (hw _ (List.mem_of_getElem? (i := 42) rfl))) Via.refl e2 hp0.2.2.1 (g := (mkF m 6 #[.val (.ref b), .val (.int (Int32.ofNat mm)), .unset] [(.ref b), (.int (Int32.ofNat N))])) rfl rfl (hb hby own_d_jdk_68_method_9_code_6)
  have r5 : GoTo p.tables e below s₁ (own_F_own_ens m b mm) T4 (mkF m 10 #[.val (.ref b), .val (.int (Int32.ofNat mm)), .unset] [(.int ((Int32.ofNat N) >>> ((0 : Int32) &&& 31)))]) := fun tt_ kk_ => r0 tt_ (by
      show Steps p.tables e below (s₁.setTop (mkF m 0 #[.val (.ref b), .val (.int (Int32.ofNat mm)), .unset] [])) _
      refine XS.aloadN X0.here hx rfl (hb hby own_d_jdk_68_method_9_code_0) rfl rfl ?_
      show Steps p.tables e below (s₁.setTop (mkF m 1 #[.val (.ref b), .val (.int (Int32.ofNat mm)), .unset] [(.ref b)])) _
      refine st2 _ ?_
      show Steps p.tables e below (T2.setTop (mkF m 4 #[.val (.ref b), .val (.int (Int32.ofNat mm)), .unset] [(.ref d)])) _
      refine X2.arraylength hx (by rw [e2]; exact Ar3.1) (State.isArrayOf_alike hZ.alike Ar3.2.1) (g := (mkF m 4 #[.val (.ref b), .val (.int (Int32.ofNat mm)), .unset] [(.ref d)])) rfl rfl (hb hby own_d_jdk_68_method_9_code_4) _ ?_
      rw [len_of S3 NN3]
      show Steps p.tables e below (T2.setTop (mkF m 5 #[.val (.ref b), .val (.int (Int32.ofNat mm)), .unset] [(.int (Int32.ofNat N))])) _
      refine XS.aloadN X2.here hx rfl (hb hby own_d_jdk_68_method_9_code_5) rfl rfl ?_
      show Steps p.tables e below (T2.setTop (mkF m 6 #[.val (.ref b), .val (.int (Int32.ofNat mm)), .unset] [(.ref b), (.int (Int32.ofNat N))])) _
      refine st4 _ ?_
      show Steps p.tables e below (T4.setTop (mkF m 9 #[.val (.ref b), .val (.int (Int32.ofNat mm)), .unset] [(.int (0 : Int32)), (.int (Int32.ofNat N))])) _
      refine XS.ishr X4.here hx rfl (hb hby own_d_jdk_68_method_9_code_9) rfl ?_
      show Steps p.tables e below (T4.setTop (mkF m 10 #[.val (.ref b), .val (.int (Int32.ofNat mm)), .unset] [(.int ((Int32.ofNat N) >>> ((0 : Int32) &&& 31)))])) _
      exact kk_)
  have r6 : GoTo p.tables e below s₁ (own_F_own_ens m b mm) T4 (mkF m 10 #[.val (.ref b), .val (.int (Int32.ofNat mm)), .unset] [(.int (Int32.ofNat N))]) := Eq.mp (congrArg (fun zz_ => GoTo p.tables e below s₁ (own_F_own_ens m b mm) T4 (mkF m 10 #[.val (.ref b), .val (.int (Int32.ofNat mm)), .unset] [(.int zz_)])) (show ((Int32.ofNat N) >>> ((0 : Int32) &&& 31)) = (Int32.ofNat N) from own_shr0 _)) r5
  have r7 : GoTo p.tables e below s₁ (own_F_own_ens m b mm) T4 (mkF m 14 #[.val (.ref b), .val (.int (Int32.ofNat mm)), .val (.int (Int32.ofNat N))] [(.int ((Int32.ofNat mm) - (Int32.ofNat N)))]) := fun tt_ kk_ => r6 tt_ (by
      show Steps p.tables e below (T4.setTop (mkF m 10 #[.val (.ref b), .val (.int (Int32.ofNat mm)), .unset] [(.int (Int32.ofNat N))])) _
      refine XS.istoreN X4.here hx rfl (hb hby own_d_jdk_68_method_9_code_10) rfl (l' := #[.val (.ref b), .val (.int (Int32.ofNat mm)), .val (.int (Int32.ofNat N))]) rfl ?_
      show Steps p.tables e below (T4.setTop (mkF m 11 #[.val (.ref b), .val (.int (Int32.ofNat mm)), .val (.int (Int32.ofNat N))] [])) _
      refine XS.iloadN X4.here hx rfl (hb hby own_d_jdk_68_method_9_code_11) rfl ?_
      show Steps p.tables e below (T4.setTop (mkF m 12 #[.val (.ref b), .val (.int (Int32.ofNat mm)), .val (.int (Int32.ofNat N))] [(.int (Int32.ofNat mm))])) _
      refine XS.iloadN X4.here hx rfl (hb hby own_d_jdk_68_method_9_code_12) rfl ?_
      show Steps p.tables e below (T4.setTop (mkF m 13 #[.val (.ref b), .val (.int (Int32.ofNat mm)), .val (.int (Int32.ofNat N))] [(.int (Int32.ofNat N)), (.int (Int32.ofNat mm))])) _
      refine XS.isub X4.here hx rfl (hb hby own_d_jdk_68_method_9_code_13) rfl ?_
      show Steps p.tables e below (T4.setTop (mkF m 14 #[.val (.ref b), .val (.int (Int32.ofNat mm)), .val (.int (Int32.ofNat N))] [(.int ((Int32.ofNat mm) - (Int32.ofNat N)))])) _
      exact kk_)
  by_cases hmN : N < mm
  · obtain ⟨T8, X8, e8, st8⟩ := getF X4 hx hZ hown (host := "") (Or.inl (hw _ (List.mem_of_getElem? (i := 40) rfl))) Via.refl e4 hp0.2.1 (g := (mkF m 19 #[.val (.ref b), .val (.int (Int32.ofNat mm)), .val (.int (Int32.ofNat N))] [(.ref b), (.ref b)])) rfl rfl (hb hby own_d_jdk_68_method_9_code_19)
    obtain ⟨cq9, qa9, qb9⟩ := hp0.1.cell
    obtain ⟨_, _, ⟨T9, L9, k9, n9⟩, -, X9, ⟨Lc9, hQ9, l9, y9, z9⟩, st9⟩ := X8.privateBack hx (y := (⟨"java/lang/AbstractStringBuilder", "newCapacity", "(I)I"⟩ : MethodName)) hown (mvT hZ (hw _ (List.mem_of_getElem? (i := 202) rfl))) (mvT hZ (hw _ (List.mem_of_getElem? (i := 203) rfl))) (own_selfSel (mvT hZ (hw _ (List.mem_of_getElem? (i := 205) rfl))) (Cond.privateMethod_at (mvP hZ (hw _ (List.mem_of_getElem? (i := 204) rfl)) (args := #[]))) (mvT hZ (hw _ (List.mem_of_getElem? (i := 203) rfl))) (by decide)) (Cond.privateMethod_at (mvP hZ (hw _ (List.mem_of_getElem? (i := 204) rfl)) (args := #[]))) (mvT hZ (hw _ (List.mem_of_getElem? (i := 206) rfl))) (by decide) (backOf (W := 2) (own_newCap l Z a0 hw [] (b) (d) (kd) (N) (cs) (mm) h0 n0 (O0.keep K0 (allS hp1 all0)) (hp0.2.1) (hp0.2.2.1) (hp0.2.2.2.2.1) (hmm) (hNb) (hNp) (Nat.le_of_lt hmN)) hZ (hw _ (List.mem_of_getElem? (i := 206) rfl)) (hw _ (List.mem_of_getElem? (i := 34) rfl)) (by decide) (by decide)) (g := (mkF m 24 #[.val (.ref b), .val (.int (Int32.ofNat mm)), .val (.int (Int32.ofNat N))] [(.int (Int32.ofNat mm)), (.ref b), (.ref d), (.ref b)])) rfl (by rw [hml]; rfl) (Steps.refl _) (a := b) (by rw [e8]; exact qa9) qb9 (argsL := [(.int (Int32.ofNat mm))]) (rest := [(.ref d), (.ref b)]) (lenOf own_pd3 rfl) rfl (by show 2 * 0 + _ ≤ _; exact Nat.le_of_eq rfl) (hb hby own_d_jdk_68_method_9_code_24) (fun _ _ => ⟨rfl, e8, (by decide : 0 + 0 ≤ _), (by decide : 0 + 0 ≤ _)⟩)
    dsimp only [Pt.U, Pt.locs, Pt.cells, Pt.slots] at X9 l9 y9 z9 st9 hQ9
    subst l9 y9 z9
    obtain ⟨rfl, Nq9, hh9⟩ := hQ9
    have N9 := Fr.app N0 Nq9
    obtain ⟨T10, X10, e10, st10⟩ := getF X9 hx hZ hown (host := "") (Or.inl (hw _ (List.mem_of_getElem? (i := 42) rfl))) Via.refl hh9 hp0.2.2.1 (g := (mkF m 28 #[.val (.ref b), .val (.int (Int32.ofNat mm)), .val (.int (Int32.ofNat N))] [(.ref b), (.int (Int32.ofNat (N + max (mm - N) (N + 2)))), (.ref d), (.ref b)])) rfl rfl (hb hby own_d_jdk_68_method_9_code_28)
    have r11 : GoTo p.tables e below s₁ (own_F_own_ens m b mm) T10 (mkF m 32 #[.val (.ref b), .val (.int (Int32.ofNat mm)), .val (.int (Int32.ofNat N))] [(.int ((Int32.ofNat (N + max (mm - N) (N + 2))) <<< ((0 : Int32) &&& 31))), (.ref d), (.ref b)]) := fun tt_ kk_ => r7 tt_ (by
        show Steps p.tables e below (T4.setTop (mkF m 14 #[.val (.ref b), .val (.int (Int32.ofNat mm)), .val (.int (Int32.ofNat N))] [(.int ((Int32.ofNat mm) - (Int32.ofNat N)))])) _
        refine XS.ifNo X4.here hx rfl (hb hby own_d_jdk_68_method_9_code_14) rfl ((if0 _ _).trans (tlt ((own_posN (by omega) hNs).mpr hmN)).2.2.2) ?_
        show Steps p.tables e below (T4.setTop (mkF m 17 #[.val (.ref b), .val (.int (Int32.ofNat mm)), .val (.int (Int32.ofNat N))] [])) _
        refine XS.aloadN X4.here hx rfl (hb hby own_d_jdk_68_method_9_code_17) rfl rfl ?_
        show Steps p.tables e below (T4.setTop (mkF m 18 #[.val (.ref b), .val (.int (Int32.ofNat mm)), .val (.int (Int32.ofNat N))] [(.ref b)])) _
        refine XS.aloadN X4.here hx rfl (hb hby own_d_jdk_68_method_9_code_18) rfl rfl ?_
        show Steps p.tables e below (T4.setTop (mkF m 19 #[.val (.ref b), .val (.int (Int32.ofNat mm)), .val (.int (Int32.ofNat N))] [(.ref b), (.ref b)])) _
        refine st8 _ ?_
        show Steps p.tables e below (T8.setTop (mkF m 22 #[.val (.ref b), .val (.int (Int32.ofNat mm)), .val (.int (Int32.ofNat N))] [(.ref d), (.ref b)])) _
        refine XS.aloadN X8.here hx rfl (hb hby own_d_jdk_68_method_9_code_22) rfl rfl ?_
        show Steps p.tables e below (T8.setTop (mkF m 23 #[.val (.ref b), .val (.int (Int32.ofNat mm)), .val (.int (Int32.ofNat N))] [(.ref b), (.ref d), (.ref b)])) _
        refine XS.iloadN X8.here hx rfl (hb hby own_d_jdk_68_method_9_code_23) rfl ?_
        show Steps p.tables e below (T8.setTop (mkF m 24 #[.val (.ref b), .val (.int (Int32.ofNat mm)), .val (.int (Int32.ofNat N))] [(.int (Int32.ofNat mm)), (.ref b), (.ref d), (.ref b)])) _
        refine st9.trans ?_
        show Steps p.tables e below (T9.setTop (mkF m 27 #[.val (.ref b), .val (.int (Int32.ofNat mm)), .val (.int (Int32.ofNat N))] [(.int (Int32.ofNat (N + max (mm - N) (N + 2)))), (.ref d), (.ref b)])) _
        refine XS.aloadN X9.here hx rfl (hb hby own_d_jdk_68_method_9_code_27) rfl rfl ?_
        show Steps p.tables e below (T9.setTop (mkF m 28 #[.val (.ref b), .val (.int (Int32.ofNat mm)), .val (.int (Int32.ofNat N))] [(.ref b), (.int (Int32.ofNat (N + max (mm - N) (N + 2)))), (.ref d), (.ref b)])) _
        refine st10 _ ?_
        show Steps p.tables e below (T10.setTop (mkF m 31 #[.val (.ref b), .val (.int (Int32.ofNat mm)), .val (.int (Int32.ofNat N))] [(.int (0 : Int32)), (.int (Int32.ofNat (N + max (mm - N) (N + 2)))), (.ref d), (.ref b)])) _
        refine XS.ishl X10.here hx rfl (hb hby own_d_jdk_68_method_9_code_31) rfl ?_
        show Steps p.tables e below (T10.setTop (mkF m 32 #[.val (.ref b), .val (.int (Int32.ofNat mm)), .val (.int (Int32.ofNat N))] [(.int ((Int32.ofNat (N + max (mm - N) (N + 2))) <<< ((0 : Int32) &&& 31))), (.ref d), (.ref b)])) _
        exact kk_)
    have r12 : GoTo p.tables e below s₁ (own_F_own_ens m b mm) T10 (mkF m 32 #[.val (.ref b), .val (.int (Int32.ofNat mm)), .val (.int (Int32.ofNat N))] [(.int (Int32.ofNat (N + max (mm - N) (N + 2)))), (.ref d), (.ref b)]) := Eq.mp (congrArg (fun zz_ => GoTo p.tables e below s₁ (own_F_own_ens m b mm) T10 (mkF m 32 #[.val (.ref b), .val (.int (Int32.ofNat mm)), .val (.int (Int32.ofNat N))] [(.int zz_), (.ref d), (.ref b)])) (show ((Int32.ofNat (N + max (mm - N) (N + 2))) <<< ((0 : Int32) &&& 31)) = (Int32.ofNat (N + max (mm - N) (N + 2))) from own_shl0 _)) r11
    obtain ⟨_, _, ⟨T13, L13, k13, n13⟩, -, X13, ⟨Lc13, hQ13, l13, y13, z13⟩, st13⟩ := Jvm.LawKit.callS X10 hx (y := (⟨"java/util/Arrays", "copyOf", "([BI)[B"⟩ : MethodName)) hown (mvT hZ (hw _ (List.mem_of_getElem? (i := 216) rfl))) (mvT hZ (hw _ (List.mem_of_getElem? (i := 217) rfl))) (mvT hZ (hw _ (List.mem_of_getElem? (i := 152) rfl))) (mvT hZ (hw _ (List.mem_of_getElem? (i := 218) rfl))) (by decide) (backOf (W := 1) (own_copyOf l Z a0 hw [] (d) (kd) (N) (cs) ((N + max (mm - N) (N + 2))) h0 n0 (O0.keep K0 (allS hp1 all0)) (hp0.2.2.2.2.1) (hcap hmN) (by omega)) hZ (hw _ (List.mem_of_getElem? (i := 218) rfl)) (hw _ (List.mem_of_getElem? (i := 152) rfl)) (by decide) (by decide)) (g := (mkF m 32 #[.val (.ref b), .val (.int (Int32.ofNat mm)), .val (.int (Int32.ofNat N))] [(.int (Int32.ofNat (N + max (mm - N) (N + 2)))), (.ref d), (.ref b)])) rfl (by rw [hml]; rfl) (argsL := [(.ref d), (.int (Int32.ofNat (N + max (mm - N) (N + 2))))]) (rest := [(.ref b)]) (lenOf own_pd4 rfl) rfl (by show 2 * 0 + _ ≤ _; exact Nat.le_of_eq rfl) (hb hby own_d_jdk_68_method_9_code_32) (fun _ _ => ⟨rfl, e10, (by decide : 0 + 1 ≤ _), (by decide : 0 + 200 ≤ _)⟩)
    dsimp only [Pt.U, Pt.locs, Pt.cells, Pt.slots] at X13 l13 y13 z13 st13 hQ13
    subst l13 y13 z13
    obtain ⟨b2_13, k2_13, rfl, Nq13, Kq13, po13_0, po13_1, po13_2⟩ := hQ13
    have N13 := Fr.app N9 Nq13
    have ne14 : b ≠ b2_13 := Nat.ne_of_lt (Nat.lt_of_lt_of_le hp0.1.lt po13_0)
    have ne15 : d ≠ b2_13 := Nat.ne_of_lt (Nat.lt_of_lt_of_le hp0.2.2.2.2.1.lt po13_0)
    have g16 : n0 ≤ b2_13 := Nat.le_trans (Nat.le_trans (own_le O0) K0.1) po13_0
    have b17 : h0.size ≤ b2_13 := Nat.le_trans K0.1 po13_0
    have K18 : Keep h0 T13.heap [b] := K0.trans Kq13 all0
    have f19 : Fld Z T13.heap b "java/lang/AbstractStringBuilder" "value" "[B" (.ref d) := (hp0.2.1.keep Kq13 nin0)
    have f20 : Exa Z T13.heap b "java/lang/StringBuilder" := (hp0.1.keep Kq13)
    obtain ⟨T21, h21, X21, e21, W21, st21⟩ := putF X13 hx hZ hown (host := "") (Or.inl (hw _ (List.mem_of_getElem? (i := 40) rfl))) Via.refl rfl f19 f20 (Or.inl (hw _ (List.mem_of_getElem? (i := 41) rfl))) (hw _ (List.mem_of_getElem? (i := 25) rfl)) (ty := (.array .byte)) (by decide) rfl rfl (g := (mkF m 35 #[.val (.ref b), .val (.int (Int32.ofNat mm)), .val (.int (Int32.ofNat N))] [(.ref b2_13), (.ref b)])) rfl rfl (hb hby own_d_jdk_68_method_9_code_35)
    have K22 : Keep h0 h21 [b] := K18.wr W21 (Or.inl (List.mem_of_getElem? (i := 0) rfl))
    have Fw21 : Fld Z h21 b "java/lang/AbstractStringBuilder" "value" "[B" (.ref b2_13) := f19.same W21
    have N21 := Fr.snoc X21 N13 hp1
    have f23 : own_By Z h21 b2_13 k2_13 (N + max (mm - N) (N + 2)) cs := (po13_2.other W21 (Ne.symm ne14))
    have f24 : Exa Z h21 b "java/lang/StringBuilder" := (f20.wr W21)
    have f25 : Fld Z h21 b "java/lang/AbstractStringBuilder" "coder" "B" (.int (0 : Int32)) := ((hp0.2.2.1.keep Kq13 nin0).other W21 (Or.inr (Jvm.RoadKit.slot_ne (Or.inl (hw _ (List.mem_of_getElem? (i := 43) rfl))) (Or.inl (hw _ (List.mem_of_getElem? (i := 41) rfl))) (by decide) (t := .byte) (t' := (.array .byte)) (by decide) (by decide))))
    have f26 : Fld Z h21 b "java/lang/AbstractStringBuilder" "count" "I" (.int (Int32.ofNat cs.length)) := ((hp0.2.2.2.1.keep Kq13 nin0).other W21 (Or.inr (Jvm.RoadKit.slot_ne (Or.inl (hw _ (List.mem_of_getElem? (i := 55) rfl))) (Or.inl (hw _ (List.mem_of_getElem? (i := 41) rfl))) (by decide) (t := .int) (t' := (.array .byte)) (by decide) (by decide))))
    obtain ⟨fs, hr, hrun, hended, hW, hsame⟩ := X21.leave (v := none) (fun _ => rfl)
    refine ⟨_, _, r12 _ ?_, hrun, hended, _, _, rfl, ?_, ⟨_, rfl⟩, hW, hsame.mono (by decide) (by decide)⟩
    · show Steps p.tables e below (T10.setTop (mkF m 32 #[.val (.ref b), .val (.int (Int32.ofNat mm)), .val (.int (Int32.ofNat N))] [(.int (Int32.ofNat (N + max (mm - N) (N + 2)))), (.ref d), (.ref b)])) _
      refine st13 _ ?_
      show Steps p.tables e below (T13.setTop (mkF m 35 #[.val (.ref b), .val (.int (Int32.ofNat mm)), .val (.int (Int32.ofNat N))] [(.ref b2_13), (.ref b)])) _
      refine st21 _ ?_
      show Steps p.tables e below (T21.setTop (mkF m 38 #[.val (.ref b), .val (.int (Int32.ofNat mm)), .val (.int (Int32.ofNat N))] [])) _
      exact X21.returnOut hx Bd.returns (hb hby own_d_jdk_68_method_9_code_38) hr
    · show Q_own_ens Z b d kd N cs mm h0 n0 _ T21.heap _
      rw [e21]
      exact ⟨b2_13, k2_13, (N + max (mm - N) (N + 2)), rfl, N21, K22, Or.inr b17, po13_1, ⟨f24, Fw21, f25, f26, f23, hp0.2.2.2.2.2⟩, ⟨by omega, by omega, Or.inr (hcap hmN)⟩⟩
  · obtain ⟨fs, hr, hrun, hended, hW, hsame⟩ := X4.leave (v := none) (fun _ => rfl)
    refine ⟨_, _, r7 _ ?_, hrun, hended, _, _, rfl, ?_, ⟨_, rfl⟩, hW, hsame.mono (by decide) (by decide)⟩
    · show Steps p.tables e below (T4.setTop (mkF m 14 #[.val (.ref b), .val (.int (Int32.ofNat mm)), .val (.int (Int32.ofNat N))] [(.int ((Int32.ofNat mm) - (Int32.ofNat N)))])) _
      refine XS.ifYes X4.here hx rfl (pc0 := 14) (pc' := 38) rfl (hb hby own_d_jdk_68_method_9_code_14) rfl ((if0 _ _).trans (flt (fun q => hmN ((own_posN (by omega) hNs).mp q))).2.2.2) (by decide) (by decide) ?_
      show Steps p.tables e below (T4.setTop (mkF m 38 #[.val (.ref b), .val (.int (Int32.ofNat mm)), .val (.int (Int32.ofNat N))] [])) _
      exact X4.returnOut hx Bd.returns (hb hby own_d_jdk_68_method_9_code_38) hr
    · show Q_own_ens Z b d kd N cs mm h0 n0 _ T4.heap _
      rw [e4]
      exact ⟨d, kd, N, rfl, N0, K0, Or.inl rfl, hp2, hp0, ⟨by omega, Nat.le_refl _, Or.inl rfl⟩⟩
theorem own_pn_own_aappI : plainName "java/lang/AbstractStringBuilder" = true := by first | (simp [plainName, overriddenIn]; done) | decide +kernel
theorem own_ef_own_aappI (m : MethodId) (b : Addr) (vv : Int32) : entryFrame m #[(.ref b), (.int vv)] 4 = mkF m 0 #[.val (.ref b), .val (.int vv), .unset, .unset] [] := by first | (simp [entryFrame, mkF, argsToLocals, own_cI, own_cJ, own_cR, own_cN]; done) | rfl
abbrev own_F_own_aappI (m : MethodId) (b : Addr) (vv : Int32) : JFrame := entryFrame m #[(.ref b), (.int vv)] 4
def Q_own_aappI (Z : State) (b : Addr) (d : Addr) (kd : ClassId) (N : Nat) (cs : List Int32) (vv : Int32) (nn : Nat) (gCS : Int32) (ist : Addr) (dt1 : Addr) (dt2 : Addr) (cD1 : Cell) (cD2 : Cell) (h0 : Heap) (n0 : Nat) (v : Option Value) (h : Heap) (L : List Loc) : Prop := ∃ (d2 : Addr), ∃ (k2 : ClassId), ∃ (N2 : Nat), v = some (.ref b) ∧ Fr n0 L ∧ Keep h0 h [b, d] ∧ (d2 = d ∨ h0.size ≤ d2) ∧ (n0 ≤ d2) ∧ (own_SB Z h b d2 k2 N2 (cs ++ own_dec nn)) ∧ (N ≤ N2 ∧ (N2 = N ∨ N2 ≤ 200))
set_option maxRecDepth 65536 in
set_option maxHeartbeats 40000000 in
theorem own_aappI (l : Launch) (Z : State) (a0 : Array Value) (hw : ∀ d ∈ tables_1, d.before a0 Z = true) (ws : List Jvm.Cond) (b : Addr) (d : Addr) (kd : ClassId) (N : Nat) (cs : List Int32) (vv : Int32) (nn : Nat) (gCS : Int32) (ist : Addr) (dt1 : Addr) (dt2 : Addr) (cD1 : Cell) (cD2 : Cell) (h0 : Heap) (n0 : Nat) (O0 : Old Z n0 h0) (hp0 : own_SB Z h0 b d kd N cs) (hp1 : n0 ≤ b) (hp2 : n0 ≤ d) (hvn : vv.toInt = nn) (hNp : 0 < N) (hcap : N < cs.length + Jvm.Free.SBG.digits nn → N + max (cs.length + Jvm.Free.SBG.digits nn - N) (N + 2) ≤ 200) (hNb : N ≤ 100000) (hp7 : Sta Z Z.heap "java/lang/String" "COMPACT_STRINGS" "Z" (.int gCS)) (hG1 : ¬ gCS = (0 : Int32)) (hT1 : Jvm.Free.SBG.Tbl Z "DigitOnes" ist dt1 cD1) (hT2 : Jvm.Free.SBG.Tbl Z "DigitTens" ist dt2 cD2) (hO1 : Jvm.Free.SBG.Ones cD1) (hO2 : Jvm.Free.SBG.Tens cD2) (hp13 : ist < n0) (hp14 : dt1 < n0) (hp15 : dt2 < n0) (hD1 : Z.heap[dt1]? = some cD1) (hD2 : Z.heap[dt2]? = some cD2) :
    MetFree l (⟨"java/lang/AbstractStringBuilder", "append", "(I)Ljava/lang/AbstractStringBuilder;"⟩ : MethodName) (head1 (Jvm.Cond.code (⟨"java/lang/AbstractStringBuilder", "append", "(I)Ljava/lang/AbstractStringBuilder;"⟩ : MethodName) jdk_68_method_32_code 4 (some (.object "java/lang/AbstractStringBuilder")) :: ws) ({ frames := 4, cells := 1, slots := 200, locals := 78 } : Room)) (fun aa_ U_ => aa_ = #[(.ref b), (.int vv)] ∧ Z.Warmed39 U_.vm ∧ U_.heap = h0) (fun _ _ _ _ _ => True) (fun _ U_ o_ V_ => ∃ v_ L_, o_ = .returned v_ ∧ Q_own_aappI Z b d kd N cs vv nn gCS ist dt1 dt2 cD1 cD2 h0 n0 v_ V_.heap L_ ∧ FrameEnd U_ o_ V_ L_ ({ frames := 4, cells := 1, slots := 200, locals := 78 } : Room).cells ({ frames := 4, cells := 1, slots := 200, locals := 78 } : Room).slots) := by
  refine MetFree.of_bodySF (plainFor_of_name own_pn_own_aappI) hisR ?_
  intro p e s m args below meth c s₁ Bd hml0 hP hK
  obtain ⟨rfl, hZ, hh⟩ := hP
  have hx := Bd.exec
  have hby := Bd.bytes
  have hml : c.maxLocals = 4 := hml0
  have hown : s.vm.findClass "java/lang/AbstractStringBuilder" = some m.cls := findClass_of_methodNamed Bd.named
  have hnm := (name_of_methodNamed Bd.named Bd.method).1
  have X0 : Stand p l e ({ frames := 4, cells := 1, slots := 200, locals := 78 } : Room) s m #[(.ref b), (.int vv)] below meth c s₁ [] 0 0 := Stand.of_body Bd
  have e0 : s₁.heap = h0 := by rw [← hh, Bd.state]; rfl
  have N0 := Fr.nil n0
  have K0 : Keep h0 h0 [b, d] := Keep.refl _ _
  have r0 : GoTo p.tables e below s₁ (own_F_own_aappI m b vv) s₁ (mkF m 0 #[.val (.ref b), .val (.int vv), .unset, .unset] []) := fun tt_ kk_ => castTop (own_ef_own_aappI m b vv) kk_
  have hvl : nn < 2 ^ 31 := by have := vv.toInt_lt; omega
  have hv0 : ¬ vv < 0 := by rw [Int32.lt_iff_toInt_lt, hvn, show (0 : Int32).toInt = 0 from rfl]; omega
  have hneg : (if vv < 0 then vv else -vv) = Jvm.Free.SBG.negI nn := by rw [if_neg hv0]; apply Int32.toInt_inj.mp; rw [Int32.toInt_neg, hvn, Jvm.Free.SBG.negI_toInt (by omega), Int.bmod_eq_of_le (by omega) (by omega)]
  have hsg : Jvm.Free.SBG.GetChars.sgn vv = 0 := if_neg hv0
  have hdg := Jvm.Free.SBG.digits_pos nn
  have hcl := hp0.2.2.2.2.1.2.1
  obtain ⟨T1, X1, e1, st1⟩ := getF X0 hx hZ hown (host := "") (Or.inl (hw _ (List.mem_of_getElem? (i := 54) rfl))) Via.refl e0 hp0.2.2.2.1 (g := (mkF m 1 #[.val (.ref b), .val (.int vv), .unset, .unset] [(.ref b)])) rfl rfl (hb hby own_d_jdk_68_method_32_code_1)
  obtain ⟨_, _, ⟨T2, L2, k2, n2⟩, -, X2, ⟨⟨hh2, l2, y2, z2⟩, hv2⟩, st2⟩ := Jvm.LawKit.callS X1 hx (y := (⟨"java/lang/Integer", "stringSize", "(I)I"⟩ : MethodName)) hown (mvT hZ (hw _ (List.mem_of_getElem? (i := 56) rfl))) (mvT hZ (hw _ (List.mem_of_getElem? (i := 57) rfl))) (mvT hZ (hw _ (List.mem_of_getElem? (i := 58) rfl))) (mvT hZ (hw _ (List.mem_of_getElem? (i := 59) rfl))) (by decide) (Jvm.Free.SBG.StrSize.pays (W := 1) (by decide) (by decide) (mvT hZ (hw _ (List.mem_of_getElem? (i := 59) rfl))) (mvT hZ (hw _ (List.mem_of_getElem? (i := 58) rfl)))) (g := (mkF m 7 #[.val (.ref b), .val (.int vv), .val (.int (Int32.ofNat cs.length)), .unset] [(.int vv), (.int (Int32.ofNat cs.length))])) rfl (by rw [hml]; rfl) (argsL := [(.int vv)]) (rest := [(.int (Int32.ofNat cs.length))]) (lenOf own_pd3 rfl) rfl (by show 2 * 0 + _ ≤ _; exact Nat.le_of_eq rfl) (hb hby own_d_jdk_68_method_32_code_7) (fun _ _ => ⟨(Nat.le_of_ble_eq_true rfl), (Nat.le_of_ble_eq_true rfl), vv, rfl⟩)
  dsimp only [Pt.U, Pt.locs, Pt.cells, Pt.slots] at X2 l2 y2 z2 st2 hh2
  subst l2 y2 z2
  obtain rfl := hv2 vv rfl
  have e2 : T2.heap = h0 := hh2.trans e1
  have r3 : GoTo p.tables e below s₁ (own_F_own_aappI m b vv) T2 (mkF m 10 #[.val (.ref b), .val (.int vv), .val (.int (Int32.ofNat cs.length)), .unset] [(.int (Jvm.Free.SBG.strSizeOf vv)), (.int (Int32.ofNat cs.length))]) := fun tt_ kk_ => r0 tt_ (by
      show Steps p.tables e below (s₁.setTop (mkF m 0 #[.val (.ref b), .val (.int vv), .unset, .unset] [])) _
      refine XS.aloadN X0.here hx rfl (hb hby own_d_jdk_68_method_32_code_0) rfl rfl ?_
      show Steps p.tables e below (s₁.setTop (mkF m 1 #[.val (.ref b), .val (.int vv), .unset, .unset] [(.ref b)])) _
      refine st1 _ ?_
      show Steps p.tables e below (T1.setTop (mkF m 4 #[.val (.ref b), .val (.int vv), .unset, .unset] [(.int (Int32.ofNat cs.length))])) _
      refine XS.istoreN X1.here hx rfl (hb hby own_d_jdk_68_method_32_code_4) rfl (l' := #[.val (.ref b), .val (.int vv), .val (.int (Int32.ofNat cs.length)), .unset]) rfl ?_
      show Steps p.tables e below (T1.setTop (mkF m 5 #[.val (.ref b), .val (.int vv), .val (.int (Int32.ofNat cs.length)), .unset] [])) _
      refine XS.iloadN X1.here hx rfl (hb hby own_d_jdk_68_method_32_code_5) rfl ?_
      show Steps p.tables e below (T1.setTop (mkF m 6 #[.val (.ref b), .val (.int vv), .val (.int (Int32.ofNat cs.length)), .unset] [(.int (Int32.ofNat cs.length))])) _
      refine XS.iloadN X1.here hx rfl (hb hby own_d_jdk_68_method_32_code_6) rfl ?_
      show Steps p.tables e below (T1.setTop (mkF m 7 #[.val (.ref b), .val (.int vv), .val (.int (Int32.ofNat cs.length)), .unset] [(.int vv), (.int (Int32.ofNat cs.length))])) _
      refine st2 _ ?_
      show Steps p.tables e below (T2.setTop (mkF m 10 #[.val (.ref b), .val (.int vv), .val (.int (Int32.ofNat cs.length)), .unset] [(.int (Jvm.Free.SBG.strSizeOf vv)), (.int (Int32.ofNat cs.length))])) _
      exact kk_)
  have r4 : GoTo p.tables e below s₁ (own_F_own_aappI m b vv) T2 (mkF m 10 #[.val (.ref b), .val (.int vv), .val (.int (Int32.ofNat cs.length)), .unset] [(.int (Int32.ofNat (Jvm.Free.SBG.digits nn))), (.int (Int32.ofNat cs.length))]) := Eq.mp (congrArg (fun zz_ => GoTo p.tables e below s₁ (own_F_own_aappI m b vv) T2 (mkF m 10 #[.val (.ref b), .val (.int vv), .val (.int (Int32.ofNat cs.length)), .unset] [(.int zz_), (.int (Int32.ofNat cs.length))])) (show (Jvm.Free.SBG.strSizeOf vv) = (Int32.ofNat (Jvm.Free.SBG.digits nn)) from (by rw [Jvm.Free.SBG.strSizeOf_eq (by omega) hneg, hsg, Nat.add_zero]))) r3
  have r5 : GoTo p.tables e below s₁ (own_F_own_aappI m b vv) T2 (mkF m 11 #[.val (.ref b), .val (.int vv), .val (.int (Int32.ofNat cs.length)), .unset] [(.int ((Int32.ofNat cs.length) + (Int32.ofNat (Jvm.Free.SBG.digits nn))))]) := fun tt_ kk_ => r4 tt_ (by
      show Steps p.tables e below (T2.setTop (mkF m 10 #[.val (.ref b), .val (.int vv), .val (.int (Int32.ofNat cs.length)), .unset] [(.int (Int32.ofNat (Jvm.Free.SBG.digits nn))), (.int (Int32.ofNat cs.length))])) _
      refine XS.iadd X2.here hx rfl (hb hby own_d_jdk_68_method_32_code_10) rfl ?_
      show Steps p.tables e below (T2.setTop (mkF m 11 #[.val (.ref b), .val (.int vv), .val (.int (Int32.ofNat cs.length)), .unset] [(.int ((Int32.ofNat cs.length) + (Int32.ofNat (Jvm.Free.SBG.digits nn))))])) _
      exact kk_)
  have r6 : GoTo p.tables e below s₁ (own_F_own_aappI m b vv) T2 (mkF m 11 #[.val (.ref b), .val (.int vv), .val (.int (Int32.ofNat cs.length)), .unset] [(.int (Int32.ofNat (cs.length + Jvm.Free.SBG.digits nn)))]) := Eq.mp (congrArg (fun zz_ => GoTo p.tables e below s₁ (own_F_own_aappI m b vv) T2 (mkF m 11 #[.val (.ref b), .val (.int vv), .val (.int (Int32.ofNat cs.length)), .unset] [(.int zz_)])) (show ((Int32.ofNat cs.length) + (Int32.ofNat (Jvm.Free.SBG.digits nn))) = (Int32.ofNat (cs.length + Jvm.Free.SBG.digits nn)) from own_addN)) r5
  obtain ⟨cq7, qa7, qb7⟩ := hp0.1.cell
  obtain ⟨_, _, ⟨T7, L7, k7, n7⟩, -, X7, ⟨Lc7, hQ7, l7, y7, z7⟩, st7⟩ := X2.privateBack hx (y := (⟨"java/lang/AbstractStringBuilder", "ensureCapacityInternal", "(I)V"⟩ : MethodName)) hown (mvT hZ (hw _ (List.mem_of_getElem? (i := 60) rfl))) (mvT hZ (hw _ (List.mem_of_getElem? (i := 61) rfl))) (own_selfSel (mvT hZ (hw _ (List.mem_of_getElem? (i := 63) rfl))) (Cond.privateMethod_at (mvP hZ (hw _ (List.mem_of_getElem? (i := 62) rfl)) (args := #[]))) (mvT hZ (hw _ (List.mem_of_getElem? (i := 61) rfl))) (by decide)) (Cond.privateMethod_at (mvP hZ (hw _ (List.mem_of_getElem? (i := 62) rfl)) (args := #[]))) (mvT hZ (hw _ (List.mem_of_getElem? (i := 64) rfl))) (by decide) (backOf (W := 0) (own_ens l Z a0 hw [] (b) (d) (kd) (N) (cs) ((cs.length + Jvm.Free.SBG.digits nn)) h0 n0 (O0.keep K0 (allS hp1 (allS hp2 all0))) (hp0) (hp1) (hp2) (by omega) (hNp) (hcap) (hNb)) hZ (hw _ (List.mem_of_getElem? (i := 64) rfl)) (hw _ (List.mem_of_getElem? (i := 34) rfl)) (by decide) (by decide)) (g := (mkF m 14 #[.val (.ref b), .val (.int vv), .val (.int (Int32.ofNat cs.length)), .val (.int (Int32.ofNat (cs.length + Jvm.Free.SBG.digits nn)))] [(.int (Int32.ofNat (cs.length + Jvm.Free.SBG.digits nn))), (.ref b)])) rfl (by rw [hml]; rfl) (Steps.refl _) (a := b) (by rw [e2]; exact qa7) qb7 (argsL := [(.int (Int32.ofNat (cs.length + Jvm.Free.SBG.digits nn)))]) (rest := []) (lenOf own_pd0 rfl) rfl (by show 2 * 0 + _ ≤ _; exact Nat.le_of_eq rfl) (hb hby own_d_jdk_68_method_32_code_14) (fun _ _ => ⟨rfl, e2, (by decide : 0 + 1 ≤ _), (by decide : 0 + 200 ≤ _)⟩)
  dsimp only [Pt.U, Pt.locs, Pt.cells, Pt.slots] at X7 l7 y7 z7 st7 hQ7
  subst l7 y7 z7
  obtain ⟨d2_7, k2_7, N2_7, rfl, Nq7, Kq7, po7_0, po7_1, po7_2, po7_3⟩ := hQ7
  have N7 := Fr.app N0 Nq7
  have ne8 : b ≠ d2_7 := own_orne po7_0 (ne_exa hp0.1 hp0.2.2.2.2.1.1 (by decide)) hp0.1.lt
  have g9 : n0 ≤ d2_7 := own_orle po7_0 hp2 (Nat.le_trans (own_le O0) K0.1)
  have K10 : Keep h0 T7.heap [b, d] := K0.trans Kq7 (allS (Or.inl (List.mem_of_getElem? (i := 0) rfl)) all0)
  obtain ⟨hm1, hm2, hm3⟩ := po7_3
  obtain ⟨cq11, kq11, qa11, qb11, qc11⟩ := isOf hZ rfl po7_2.1
  obtain ⟨_, _, ⟨T11, L11, k11, n11⟩, -, X11, ⟨Lc11, hQ11, l11, y11, z11⟩, st11⟩ := X7.virtualBack hx (y := (⟨"java/lang/AbstractStringBuilder", "isLatin1", "()Z"⟩ : MethodName)) (z := (⟨"java/lang/AbstractStringBuilder", "isLatin1", "()Z"⟩ : MethodName)) hown (mvT hZ (hw _ (List.mem_of_getElem? (i := 65) rfl))) (mvT hZ (hw _ (List.mem_of_getElem? (i := 66) rfl))) (notFace_of_selects (args := #[]) (mvT hZ (hw _ (List.mem_of_getElem? (i := 68) rfl)))) (mvT hZ (hw _ (List.mem_of_getElem? (i := 68) rfl))) (mvT hZ (hw _ (List.mem_of_getElem? (i := 67) rfl))) (by decide) (backOf (W := 0) (own_isL l Z a0 hw [] (b) (gCS) T7.heap n0 (O0.keep K10 (allS hp1 (allS hp2 all0))) (po7_2.2.2.1) (hp7) (hG1)) hZ (hw _ (List.mem_of_getElem? (i := 69) rfl)) (hw _ (List.mem_of_getElem? (i := 34) rfl)) (by decide) (by decide)) qa11 qc11 (g := (mkF m 18 #[.val (.ref b), .val (.int vv), .val (.int (Int32.ofNat cs.length)), .val (.int (Int32.ofNat (cs.length + Jvm.Free.SBG.digits nn)))] [(.ref b)])) rfl (by rw [hml]; rfl) (Steps.refl _) (argsL := []) (rest := []) (lenOf own_pd5 rfl) rfl (by show 2 * 0 + _ ≤ _; exact Nat.le_of_eq rfl) (hb hby own_d_jdk_68_method_32_code_18) (fun _ _ => ⟨rfl, rfl, (by decide : 1 + 0 ≤ _), (by decide : 200 + 0 ≤ _)⟩)
  dsimp only [Pt.U, Pt.locs, Pt.cells, Pt.slots] at X11 l11 y11 z11 st11 hQ11
  subst l11 y11 z11
  obtain ⟨rfl, Nq11, hh11⟩ := hQ11
  have N11 := Fr.app N7 Nq11
  obtain ⟨T12, X12, e12, st12⟩ := getF X11 hx hZ hown (host := "") (Or.inl (hw _ (List.mem_of_getElem? (i := 40) rfl))) Via.refl hh11 po7_2.2.1 (g := (mkF m 27 #[.val (.ref b), .val (.int vv), .val (.int (Int32.ofNat cs.length)), .val (.int (Int32.ofNat (cs.length + Jvm.Free.SBG.digits nn)))] [(.ref b), (.int (Int32.ofNat (cs.length + Jvm.Free.SBG.digits nn))), (.int vv)])) rfl rfl (hb hby own_d_jdk_68_method_32_code_27)
  obtain ⟨vs13, hvl13, ⟨cl13, Ar13, q13, S13, NN13, H13, G13⟩, hvc13⟩ := own_By.arv po7_2.2.2.2.2.1
  have hN26 := (po7_2.2.2.2.2.1).2.2.1
  rw [own_clamp hN26] at S13
  have hOld : Old Z n0 T7.heap := (O0.keep K10 (allS hp1 (allS hp2 all0)))
  have hTh : T12.heap = T7.heap := e12
  obtain ⟨_, _, ⟨T14, L14, k14, n14⟩, -, X14, ⟨hv14, hda14, y14, z14, hsz14, hko14, Lc14, l14, hbs14⟩, st14⟩ := Jvm.LawKit.callS X12 hx (y := (⟨"java/lang/Integer", "getChars", "(II[B)I"⟩ : MethodName)) hown (mvT hZ (hw _ (List.mem_of_getElem? (i := 70) rfl))) (mvT hZ (hw _ (List.mem_of_getElem? (i := 71) rfl))) (mvT hZ (hw _ (List.mem_of_getElem? (i := 58) rfl))) (mvT hZ (hw _ (List.mem_of_getElem? (i := 72) rfl))) (by decide) (Jvm.Free.SBG.GetChars.pays (⟨vv, nn, cs.length + Jvm.Free.SBG.digits nn, d2_7, cl13, ist, dt1, cD1, dt2, cD2⟩ : Jvm.Free.SBG.GetChars.G) 0 (by simp only [Jvm.Free.SBG.GetChars.tab, Cond.before_and, Bool.and_eq_true]; exact ⟨mvT hZ (hw _ (List.mem_of_getElem? (i := 72) rfl)), mvT hZ (hw _ (List.mem_of_getElem? (i := 73) rfl)), mvT hZ (hw _ (List.mem_of_getElem? (i := 201) rfl))⟩) (mvT hZ (hw _ (List.mem_of_getElem? (i := 58) rfl))) (by decide) (by decide)) (g := (mkF m 30 #[.val (.ref b), .val (.int vv), .val (.int (Int32.ofNat cs.length)), .val (.int (Int32.ofNat (cs.length + Jvm.Free.SBG.digits nn)))] [(.ref d2_7), (.int (Int32.ofNat (cs.length + Jvm.Free.SBG.digits nn))), (.int vv)])) rfl (by rw [hml]; rfl) (argsL := [(.int vv), (.int (Int32.ofNat (cs.length + Jvm.Free.SBG.digits nn))), (.ref d2_7)]) (rest := []) (lenOf own_pd6 rfl) rfl (by show 2 * 0 + _ ≤ _; exact Nat.le_of_eq rfl) (hb hby own_d_jdk_68_method_32_code_30) (fun vm1 hW1 => ⟨rfl, (Nat.le_of_ble_eq_true rfl), (Nat.le_of_ble_eq_true rfl), rfl, (by show T12.heap[d2_7]? = some cl13; rw [hTh]; exact Ar13.1), State.isArrayOf_alike (hZ.alike.trans hW1.alike) Ar13.2.1, Ar13.2.2, (by show cl13.slots.size < 2 ^ 31; omega), (by show cs.length + Jvm.Free.SBG.digits nn ≤ cl13.slots.size; omega), (by show Jvm.Free.SBG.digits nn + Jvm.Free.SBG.GetChars.sgn vv ≤ cs.length + Jvm.Free.SBG.digits nn; omega), (by show nn ≤ 2 ^ 31; omega), hneg, (Jvm.Free.SBG.Tbl.move (hZ.alike.trans hW1.alike) (fun c hc => by show T12.heap[ist]? = some c; rw [hTh]; exact hOld.2.2 _ _ hc) (by show T12.heap[dt1]? = some cD1; rw [hTh]; exact hOld.2.2 _ _ hD1) hT1), (Jvm.Free.SBG.Tbl.move (hZ.alike.trans hW1.alike) (fun c hc => by show T12.heap[ist]? = some c; rw [hTh]; exact hOld.2.2 _ _ hc) (by show T12.heap[dt2]? = some cD2; rw [hTh]; exact hOld.2.2 _ _ hD2) hT2), (Ne.symm (Nat.ne_of_lt (Nat.lt_of_lt_of_le hp13 po7_1))), (Ne.symm (Nat.ne_of_lt (Nat.lt_of_lt_of_le hp14 po7_1))), (Ne.symm (Nat.ne_of_lt (Nat.lt_of_lt_of_le hp15 po7_1)))⟩)
  dsimp only [Pt.U, Pt.locs, Pt.cells, Pt.slots] at X14 l14 y14 z14 st14 hda14 hsz14 hko14
  subst l14 y14 z14
  obtain rfl := hv14
  obtain ⟨Kg14, Bg14⟩ := own_gc (v := vv) (nn := nn) (h := T7.heap) (h' := T14.heap) po7_2.2.2.2.2.1 Ar13.1 hO1 hO2 hv0 (by omega) (by omega) hda14 (by rw [hsz14]; show T12.heap.size = _; rw [hTh]) (fun y cy hy hc => hko14 y cy hy (by show T12.heap[y]? = some cy; rw [hTh]; exact hc))
  have N14 := Fr.app N11 (fun y hy => by rw [hbs14 y hy]; exact po7_1)
  have K15 : Keep h0 T14.heap [b, d] := K10.trans Kg14 (allS ((po7_0).elim (fun q => Or.inl (q ▸ List.mem_of_getElem? (i := 1) rfl)) (fun q => Or.inr (Nat.le_trans K0.1 q))) all0)
  have f16 : Fld Z T14.heap b "java/lang/AbstractStringBuilder" "count" "I" (.int (Int32.ofNat cs.length)) := (po7_2.2.2.2.1.keep Kg14 (ninS (ne_exa po7_2.1 po7_2.2.2.2.2.1.1 (by decide)) nin0))
  have f17 : Exa Z T14.heap b "java/lang/StringBuilder" := (po7_2.1.keep Kg14)
  obtain ⟨T18, h18, X18, e18, W18, st18⟩ := putF X14 hx hZ hown (host := "") (Or.inl (hw _ (List.mem_of_getElem? (i := 54) rfl))) Via.refl rfl f16 f17 (Or.inl (hw _ (List.mem_of_getElem? (i := 55) rfl))) (hw _ (List.mem_of_getElem? (i := 25) rfl)) (ty := .int) (by decide) rfl rfl (g := (mkF m 50 #[.val (.ref b), .val (.int vv), .val (.int (Int32.ofNat cs.length)), .val (.int (Int32.ofNat (cs.length + Jvm.Free.SBG.digits nn)))] [(.int (Int32.ofNat (cs.length + Jvm.Free.SBG.digits nn))), (.ref b)])) rfl rfl (hb hby own_d_jdk_68_method_32_code_50)
  have K19 : Keep h0 h18 [b, d] := K15.wr W18 (Or.inl (List.mem_of_getElem? (i := 0) rfl))
  have Fw18 : Fld Z h18 b "java/lang/AbstractStringBuilder" "count" "I" (.int (Int32.ofNat (cs.length + Jvm.Free.SBG.digits nn))) := f16.same W18
  have N18 := Fr.snoc X18 N14 hp1
  have f20 : Fld Z h18 b "java/lang/AbstractStringBuilder" "count" "I" (.int (Int32.ofNat (cs ++ own_dec nn).length)) := by rw [show (Int32.ofNat (cs.length + Jvm.Free.SBG.digits nn)) = (Int32.ofNat (cs ++ own_dec nn).length) from (by rw [List.length_append, own_dec_len])] at Fw18; exact Fw18
  have f21 : own_By Z h18 d2_7 k2_7 N2_7 (cs ++ own_dec nn) := (Bg14.other W18 (Ne.symm (ne_exa po7_2.1 po7_2.2.2.2.2.1.1 (by decide))))
  have f22 : Exa Z h18 b "java/lang/StringBuilder" := (f17.wr W18)
  have f23 : Fld Z h18 b "java/lang/AbstractStringBuilder" "value" "[B" (.ref d2_7) := ((po7_2.2.1.keep Kg14 (ninS (ne_exa po7_2.1 po7_2.2.2.2.2.1.1 (by decide)) nin0)).other W18 (Or.inr (Jvm.RoadKit.slot_ne (Or.inl (hw _ (List.mem_of_getElem? (i := 41) rfl))) (Or.inl (hw _ (List.mem_of_getElem? (i := 55) rfl))) (by decide) (t := (.array .byte)) (t' := .int) (by decide) (by decide))))
  have f24 : Fld Z h18 b "java/lang/AbstractStringBuilder" "coder" "B" (.int (0 : Int32)) := ((po7_2.2.2.1.keep Kg14 (ninS (ne_exa po7_2.1 po7_2.2.2.2.2.1.1 (by decide)) nin0)).other W18 (Or.inr (Jvm.RoadKit.slot_ne (Or.inl (hw _ (List.mem_of_getElem? (i := 43) rfl))) (Or.inl (hw _ (List.mem_of_getElem? (i := 55) rfl))) (by decide) (t := .byte) (t' := .int) (by decide) (by decide))))
  obtain ⟨fs, hr, hrun, hended, hW, hsame⟩ := X18.leave (v := some (.ref b)) (fun h => by rw [Bd.returns] at h; cases h)
  refine ⟨_, _, r6 _ ?_, hrun, hended, _, _, rfl, ?_, ⟨_, rfl⟩, hW, hsame.mono (by decide) (by decide)⟩
  · show Steps p.tables e below (T2.setTop (mkF m 11 #[.val (.ref b), .val (.int vv), .val (.int (Int32.ofNat cs.length)), .unset] [(.int (Int32.ofNat (cs.length + Jvm.Free.SBG.digits nn)))])) _
    refine XS.istoreN X2.here hx rfl (hb hby own_d_jdk_68_method_32_code_11) rfl (l' := #[.val (.ref b), .val (.int vv), .val (.int (Int32.ofNat cs.length)), .val (.int (Int32.ofNat (cs.length + Jvm.Free.SBG.digits nn)))]) rfl ?_
    show Steps p.tables e below (T2.setTop (mkF m 12 #[.val (.ref b), .val (.int vv), .val (.int (Int32.ofNat cs.length)), .val (.int (Int32.ofNat (cs.length + Jvm.Free.SBG.digits nn)))] [])) _
    refine XS.aloadN X2.here hx rfl (hb hby own_d_jdk_68_method_32_code_12) rfl rfl ?_
    show Steps p.tables e below (T2.setTop (mkF m 13 #[.val (.ref b), .val (.int vv), .val (.int (Int32.ofNat cs.length)), .val (.int (Int32.ofNat (cs.length + Jvm.Free.SBG.digits nn)))] [(.ref b)])) _
    refine XS.iloadN X2.here hx rfl (hb hby own_d_jdk_68_method_32_code_13) rfl ?_
    show Steps p.tables e below (T2.setTop (mkF m 14 #[.val (.ref b), .val (.int vv), .val (.int (Int32.ofNat cs.length)), .val (.int (Int32.ofNat (cs.length + Jvm.Free.SBG.digits nn)))] [(.int (Int32.ofNat (cs.length + Jvm.Free.SBG.digits nn))), (.ref b)])) _
    refine st7.trans ?_
    show Steps p.tables e below (T7.setTop (mkF m 17 #[.val (.ref b), .val (.int vv), .val (.int (Int32.ofNat cs.length)), .val (.int (Int32.ofNat (cs.length + Jvm.Free.SBG.digits nn)))] [])) _
    refine XS.aloadN X7.here hx rfl (hb hby own_d_jdk_68_method_32_code_17) rfl rfl ?_
    show Steps p.tables e below (T7.setTop (mkF m 18 #[.val (.ref b), .val (.int vv), .val (.int (Int32.ofNat cs.length)), .val (.int (Int32.ofNat (cs.length + Jvm.Free.SBG.digits nn)))] [(.ref b)])) _
    refine st11.trans ?_
    show Steps p.tables e below (T11.setTop (mkF m 21 #[.val (.ref b), .val (.int vv), .val (.int (Int32.ofNat cs.length)), .val (.int (Int32.ofNat (cs.length + Jvm.Free.SBG.digits nn)))] [(.int (1 : Int32))])) _
    refine XS.ifNo X11.here hx rfl (hb hby own_d_jdk_68_method_32_code_21) rfl ((if0 _ _).trans (feq (by decide)).1) ?_
    show Steps p.tables e below (T11.setTop (mkF m 24 #[.val (.ref b), .val (.int vv), .val (.int (Int32.ofNat cs.length)), .val (.int (Int32.ofNat (cs.length + Jvm.Free.SBG.digits nn)))] [])) _
    refine XS.iloadN X11.here hx rfl (hb hby own_d_jdk_68_method_32_code_24) rfl ?_
    show Steps p.tables e below (T11.setTop (mkF m 25 #[.val (.ref b), .val (.int vv), .val (.int (Int32.ofNat cs.length)), .val (.int (Int32.ofNat (cs.length + Jvm.Free.SBG.digits nn)))] [(.int vv)])) _
    refine XS.iloadN X11.here hx rfl (hb hby own_d_jdk_68_method_32_code_25) rfl ?_
    show Steps p.tables e below (T11.setTop (mkF m 26 #[.val (.ref b), .val (.int vv), .val (.int (Int32.ofNat cs.length)), .val (.int (Int32.ofNat (cs.length + Jvm.Free.SBG.digits nn)))] [(.int (Int32.ofNat (cs.length + Jvm.Free.SBG.digits nn))), (.int vv)])) _
    refine XS.aloadN X11.here hx rfl (hb hby own_d_jdk_68_method_32_code_26) rfl rfl ?_
    show Steps p.tables e below (T11.setTop (mkF m 27 #[.val (.ref b), .val (.int vv), .val (.int (Int32.ofNat cs.length)), .val (.int (Int32.ofNat (cs.length + Jvm.Free.SBG.digits nn)))] [(.ref b), (.int (Int32.ofNat (cs.length + Jvm.Free.SBG.digits nn))), (.int vv)])) _
    refine st12 _ ?_
    show Steps p.tables e below (T12.setTop (mkF m 30 #[.val (.ref b), .val (.int vv), .val (.int (Int32.ofNat cs.length)), .val (.int (Int32.ofNat (cs.length + Jvm.Free.SBG.digits nn)))] [(.ref d2_7), (.int (Int32.ofNat (cs.length + Jvm.Free.SBG.digits nn))), (.int vv)])) _
    refine st14 _ ?_
    show Steps p.tables e below (T14.setTop (mkF m 33 #[.val (.ref b), .val (.int vv), .val (.int (Int32.ofNat cs.length)), .val (.int (Int32.ofNat (cs.length + Jvm.Free.SBG.digits nn)))] [(.int (Int32.ofNat (cs.length + Jvm.Free.SBG.digits nn - (Jvm.Free.SBG.digits nn + Jvm.Free.SBG.GetChars.sgn vv))))])) _
    refine XS.pop X14.here hx rfl (hb hby own_d_jdk_68_method_32_code_33) rfl rfl ?_
    show Steps p.tables e below (T14.setTop (mkF m 34 #[.val (.ref b), .val (.int vv), .val (.int (Int32.ofNat cs.length)), .val (.int (Int32.ofNat (cs.length + Jvm.Free.SBG.digits nn)))] [])) _
    refine XS.goto X14.here hx rfl (pc0 := 34) (pc' := 48) rfl (hb hby own_d_jdk_68_method_32_code_34) (by decide) (by decide) ?_
    show Steps p.tables e below (T14.setTop (mkF m 48 #[.val (.ref b), .val (.int vv), .val (.int (Int32.ofNat cs.length)), .val (.int (Int32.ofNat (cs.length + Jvm.Free.SBG.digits nn)))] [])) _
    refine XS.aloadN X14.here hx rfl (hb hby own_d_jdk_68_method_32_code_48) rfl rfl ?_
    show Steps p.tables e below (T14.setTop (mkF m 49 #[.val (.ref b), .val (.int vv), .val (.int (Int32.ofNat cs.length)), .val (.int (Int32.ofNat (cs.length + Jvm.Free.SBG.digits nn)))] [(.ref b)])) _
    refine XS.iloadN X14.here hx rfl (hb hby own_d_jdk_68_method_32_code_49) rfl ?_
    show Steps p.tables e below (T14.setTop (mkF m 50 #[.val (.ref b), .val (.int vv), .val (.int (Int32.ofNat cs.length)), .val (.int (Int32.ofNat (cs.length + Jvm.Free.SBG.digits nn)))] [(.int (Int32.ofNat (cs.length + Jvm.Free.SBG.digits nn))), (.ref b)])) _
    refine st18 _ ?_
    show Steps p.tables e below (T18.setTop (mkF m 53 #[.val (.ref b), .val (.int vv), .val (.int (Int32.ofNat cs.length)), .val (.int (Int32.ofNat (cs.length + Jvm.Free.SBG.digits nn)))] [])) _
    refine XS.aloadN X18.here hx rfl (hb hby own_d_jdk_68_method_32_code_53) rfl rfl ?_
    show Steps p.tables e below (T18.setTop (mkF m 54 #[.val (.ref b), .val (.int vv), .val (.int (Int32.ofNat cs.length)), .val (.int (Int32.ofNat (cs.length + Jvm.Free.SBG.digits nn)))] [(.ref b)])) _
    exact retOut X18 hx (t := (.object "java/lang/AbstractStringBuilder")) Bd.returns rfl (Or.inr (Or.inr (Or.inr (Or.inr ⟨rfl, rfl, rfl⟩)))) (hb hby own_d_jdk_68_method_32_code_54) hr
  · show Q_own_aappI Z b d kd N cs vv nn gCS ist dt1 dt2 cD1 cD2 h0 n0 _ T18.heap _
    rw [e18]
    exact ⟨d2_7, k2_7, N2_7, rfl, N18, K19, (po7_0.imp id (fun q => Nat.le_trans K0.1 q)), po7_1, ⟨f22, f23, f24, f20, f21, (own_rngApp hp0.2.2.2.2.2 (own_dec_rng nn))⟩, ⟨hm2, hm3⟩⟩
theorem own_pn_own_appI : plainName "java/lang/StringBuilder" = true := by first | (simp [plainName, overriddenIn]; done) | decide +kernel
theorem own_ef_own_appI (m : MethodId) (b : Addr) (vv : Int32) : entryFrame m #[(.ref b), (.int vv)] 2 = mkF m 0 #[.val (.ref b), .val (.int vv)] [] := by first | (simp [entryFrame, mkF, argsToLocals, own_cI, own_cJ, own_cR, own_cN]; done) | rfl
abbrev own_F_own_appI (m : MethodId) (b : Addr) (vv : Int32) : JFrame := entryFrame m #[(.ref b), (.int vv)] 2
def Q_own_appI (Z : State) (b : Addr) (d : Addr) (kd : ClassId) (N : Nat) (cs : List Int32) (vv : Int32) (nn : Nat) (gCS : Int32) (ist : Addr) (dt1 : Addr) (dt2 : Addr) (cD1 : Cell) (cD2 : Cell) (h0 : Heap) (n0 : Nat) (v : Option Value) (h : Heap) (L : List Loc) : Prop := ∃ (d2 : Addr), ∃ (k2 : ClassId), ∃ (N2 : Nat), v = some (.ref b) ∧ Fr n0 L ∧ Keep h0 h [b, d] ∧ (d2 = d ∨ h0.size ≤ d2) ∧ (n0 ≤ d2) ∧ (own_SB Z h b d2 k2 N2 (cs ++ own_dec nn)) ∧ (N ≤ N2 ∧ (N2 = N ∨ N2 ≤ 200))
set_option maxRecDepth 65536 in
set_option maxHeartbeats 40000000 in
theorem own_appI (l : Launch) (Z : State) (a0 : Array Value) (hw : ∀ d ∈ tables_1, d.before a0 Z = true) (ws : List Jvm.Cond) (b : Addr) (d : Addr) (kd : ClassId) (N : Nat) (cs : List Int32) (vv : Int32) (nn : Nat) (gCS : Int32) (ist : Addr) (dt1 : Addr) (dt2 : Addr) (cD1 : Cell) (cD2 : Cell) (h0 : Heap) (n0 : Nat) (O0 : Old Z n0 h0) (hp0 : own_SB Z h0 b d kd N cs) (hp1 : n0 ≤ b) (hp2 : n0 ≤ d) (hvn : vv.toInt = nn) (hNp : 0 < N) (hcap : N < cs.length + Jvm.Free.SBG.digits nn → N + max (cs.length + Jvm.Free.SBG.digits nn - N) (N + 2) ≤ 200) (hNb : N ≤ 100000) (hp7 : Sta Z Z.heap "java/lang/String" "COMPACT_STRINGS" "Z" (.int gCS)) (hG1 : ¬ gCS = (0 : Int32)) (hT1 : Jvm.Free.SBG.Tbl Z "DigitOnes" ist dt1 cD1) (hT2 : Jvm.Free.SBG.Tbl Z "DigitTens" ist dt2 cD2) (hO1 : Jvm.Free.SBG.Ones cD1) (hO2 : Jvm.Free.SBG.Tens cD2) (hp13 : ist < n0) (hp14 : dt1 < n0) (hp15 : dt2 < n0) (hD1 : Z.heap[dt1]? = some cD1) (hD2 : Z.heap[dt2]? = some cD2) :
    MetFree l (⟨"java/lang/StringBuilder", "append", "(I)Ljava/lang/StringBuilder;"⟩ : MethodName) (head1 (Jvm.Cond.code (⟨"java/lang/StringBuilder", "append", "(I)Ljava/lang/StringBuilder;"⟩ : MethodName) jdk_67_method_15_code 2 (some (.object "java/lang/StringBuilder")) :: ws) ({ frames := 5, cells := 1, slots := 200, locals := 93 } : Room)) (fun aa_ U_ => aa_ = #[(.ref b), (.int vv)] ∧ Z.Warmed39 U_.vm ∧ U_.heap = h0) (fun _ _ _ _ _ => True) (fun _ U_ o_ V_ => ∃ v_ L_, o_ = .returned v_ ∧ Q_own_appI Z b d kd N cs vv nn gCS ist dt1 dt2 cD1 cD2 h0 n0 v_ V_.heap L_ ∧ FrameEnd U_ o_ V_ L_ ({ frames := 5, cells := 1, slots := 200, locals := 93 } : Room).cells ({ frames := 5, cells := 1, slots := 200, locals := 93 } : Room).slots) := by
  refine MetFree.of_bodySF (plainFor_of_name own_pn_own_appI) hisR ?_
  intro p e s m args below meth c s₁ Bd hml0 hP hK
  obtain ⟨rfl, hZ, hh⟩ := hP
  have hx := Bd.exec
  have hby := Bd.bytes
  have hml : c.maxLocals = 2 := hml0
  have hown : s.vm.findClass "java/lang/StringBuilder" = some m.cls := findClass_of_methodNamed Bd.named
  have hnm := (name_of_methodNamed Bd.named Bd.method).1
  have X0 : Stand p l e ({ frames := 5, cells := 1, slots := 200, locals := 93 } : Room) s m #[(.ref b), (.int vv)] below meth c s₁ [] 0 0 := Stand.of_body Bd
  have e0 : s₁.heap = h0 := by rw [← hh, Bd.state]; rfl
  have N0 := Fr.nil n0
  have K0 : Keep h0 h0 [b, d] := Keep.refl _ _
  have r0 : GoTo p.tables e below s₁ (own_F_own_appI m b vv) s₁ (mkF m 0 #[.val (.ref b), .val (.int vv)] []) := fun tt_ kk_ => castTop (own_ef_own_appI m b vv) kk_
  obtain ⟨_, _, ⟨T1, L1, k1, n1⟩, -, X1, ⟨Lc1, hQ1, l1, y1, z1⟩, st1⟩ := superBack X0 hx hZ (y := (⟨"java/lang/AbstractStringBuilder", "append", "(I)Ljava/lang/AbstractStringBuilder;"⟩ : MethodName)) hown (hw _ (List.mem_of_getElem? (i := 49) rfl)) (own_sameSelf (y := (⟨"java/lang/AbstractStringBuilder", "append", "(I)Ljava/lang/AbstractStringBuilder;"⟩ : MethodName)) (hw _ (List.mem_of_getElem? (i := 63) rfl)) rfl (hw _ (List.mem_of_getElem? (i := 50) rfl)) (by decide)) (hw _ (List.mem_of_getElem? (i := 50) rfl)) (hw _ (List.mem_of_getElem? (i := 51) rfl)) (by decide) (backOf (W := 0) (own_aappI l Z a0 hw [] (b) (d) (kd) (N) (cs) (vv) (nn) (gCS) (ist) (dt1) (dt2) (cD1) (cD2) h0 n0 (O0.keep K0 (allS hp1 (allS hp2 all0))) (hp0) (hp1) (hp2) (hvn) (hNp) (hcap) (hNb) (hp7) (hG1) (hT1) (hT2) (hO1) (hO2) (hp13) (hp14) (hp15) (hD1) (hD2)) hZ (hw _ (List.mem_of_getElem? (i := 53) rfl)) (hw _ (List.mem_of_getElem? (i := 34) rfl)) (by decide) (by decide)) e0 (Ins.self hp0.1) (g := (mkF m 2 #[.val (.ref b), .val (.int vv)] [(.int vv), (.ref b)])) rfl (by rw [hml]; rfl) (hw _ (List.mem_of_getElem? (i := 53) rfl)) (argsL := [(.int vv)]) (rest := []) (lenOf own_pd7 rfl) rfl (by show 2 * 0 + _ ≤ _; exact Nat.le_of_eq rfl) (hb hby own_d_jdk_67_method_15_code_2) (fun _ _ => ⟨rfl, e0, (by decide : 0 + 1 ≤ _), (by decide : 0 + 200 ≤ _)⟩)
  dsimp only [Pt.U, Pt.locs, Pt.cells, Pt.slots] at X1 l1 y1 z1 st1 hQ1
  subst l1 y1 z1
  obtain ⟨d2_1, k2_1, N2_1, rfl, Nq1, Kq1, po1_0, po1_1, po1_2, po1_3⟩ := hQ1
  have N1 := Fr.app N0 Nq1
  have g2 : n0 ≤ d2_1 := own_orle po1_0 hp2 (Nat.le_trans (own_le O0) K0.1)
  have K3 : Keep h0 T1.heap [b, d] := K0.trans Kq1 (allS (Or.inl (List.mem_of_getElem? (i := 0) rfl)) (allS (Or.inl (List.mem_of_getElem? (i := 1) rfl)) all0))
  obtain ⟨fs, hr, hrun, hended, hW, hsame⟩ := X1.leave (v := some (.ref b)) (fun h => by rw [Bd.returns] at h; cases h)
  refine ⟨_, _, r0 _ ?_, hrun, hended, _, _, rfl, ?_, ⟨_, rfl⟩, hW, hsame.mono (by decide) (by decide)⟩
  · show Steps p.tables e below (s₁.setTop (mkF m 0 #[.val (.ref b), .val (.int vv)] [])) _
    refine XS.aloadN X0.here hx rfl (hb hby own_d_jdk_67_method_15_code_0) rfl rfl ?_
    show Steps p.tables e below (s₁.setTop (mkF m 1 #[.val (.ref b), .val (.int vv)] [(.ref b)])) _
    refine XS.iloadN X0.here hx rfl (hb hby own_d_jdk_67_method_15_code_1) rfl ?_
    show Steps p.tables e below (s₁.setTop (mkF m 2 #[.val (.ref b), .val (.int vv)] [(.int vv), (.ref b)])) _
    refine st1.trans ?_
    show Steps p.tables e below (T1.setTop (mkF m 5 #[.val (.ref b), .val (.int vv)] [(.ref b)])) _
    refine XS.pop X1.here hx rfl (hb hby own_d_jdk_67_method_15_code_5) rfl rfl ?_
    show Steps p.tables e below (T1.setTop (mkF m 6 #[.val (.ref b), .val (.int vv)] [])) _
    refine XS.aloadN X1.here hx rfl (hb hby own_d_jdk_67_method_15_code_6) rfl rfl ?_
    show Steps p.tables e below (T1.setTop (mkF m 7 #[.val (.ref b), .val (.int vv)] [(.ref b)])) _
    exact retOut X1 hx (t := (.object "java/lang/StringBuilder")) Bd.returns rfl (Or.inr (Or.inr (Or.inr (Or.inr ⟨rfl, rfl, rfl⟩)))) (hb hby own_d_jdk_67_method_15_code_7) hr
  · show Q_own_appI Z b d kd N cs vv nn gCS ist dt1 dt2 cD1 cD2 h0 n0 _ T1.heap _
    exact ⟨d2_1, k2_1, N2_1, rfl, N1, K3, (po1_0.imp id (fun q => Nat.le_trans K0.1 q)), po1_1, po1_2, po1_3⟩
theorem own_pn_own_coder : plainName "java/lang/String" = true := by first | (simp [plainName, overriddenIn]; done) | decide +kernel
theorem own_ef_own_coder (m : MethodId) (y : Addr) : entryFrame m #[(.ref y)] 1 = mkF m 0 #[.val (.ref y)] [] := by first | (simp [entryFrame, mkF, argsToLocals, own_cI, own_cJ, own_cR, own_cN]; done) | rfl
abbrev own_F_own_coder (m : MethodId) (y : Addr) : JFrame := entryFrame m #[(.ref y)] 1
def Q_own_coder (Z : State) (y : Addr) (gCS : Int32) (h0 : Heap) (n0 : Nat) (v : Option Value) (h : Heap) (L : List Loc) : Prop := v = some (.int (0 : Int32)) ∧ Fr n0 L ∧ h = h0
set_option maxRecDepth 65536 in
set_option maxHeartbeats 40000000 in
theorem own_coder (l : Launch) (Z : State) (a0 : Array Value) (hw : ∀ d ∈ tables_1, d.before a0 Z = true) (ws : List Jvm.Cond) (y : Addr) (gCS : Int32) (h0 : Heap) (n0 : Nat) (O0 : Old Z n0 h0) (hp0 : Fld Z h0 y "java/lang/String" "coder" "B" (.int (0 : Int32))) (hp1 : Sta Z Z.heap "java/lang/String" "COMPACT_STRINGS" "Z" (.int gCS)) (hG1 : ¬ gCS = (0 : Int32)) :
    MetFree l (⟨"java/lang/String", "coder", "()B"⟩ : MethodName) (head1 (Jvm.Cond.code (⟨"java/lang/String", "coder", "()B"⟩ : MethodName) jdk_42_method_152_code 1 (some .byte) :: ws) ({ frames := 0, cells := 0, slots := 0, locals := 0 } : Room)) (fun aa_ U_ => aa_ = #[(.ref y)] ∧ Z.Warmed39 U_.vm ∧ U_.heap = h0) (fun _ _ _ _ _ => True) (fun _ U_ o_ V_ => ∃ v_ L_, o_ = .returned v_ ∧ Q_own_coder Z y gCS h0 n0 v_ V_.heap L_ ∧ FrameEnd U_ o_ V_ L_ ({ frames := 0, cells := 0, slots := 0, locals := 0 } : Room).cells ({ frames := 0, cells := 0, slots := 0, locals := 0 } : Room).slots) := by
  refine MetFree.of_bodySF (plainFor_of_name own_pn_own_coder) hisR ?_
  intro p e s m args below meth c s₁ Bd hml0 hP hK
  obtain ⟨rfl, hZ, hh⟩ := hP
  have hx := Bd.exec
  have hby := Bd.bytes
  have hml : c.maxLocals = 1 := hml0
  have hown : s.vm.findClass "java/lang/String" = some m.cls := findClass_of_methodNamed Bd.named
  have hnm := (name_of_methodNamed Bd.named Bd.method).1
  have X0 : Stand p l e ({ frames := 0, cells := 0, slots := 0, locals := 0 } : Room) s m #[(.ref y)] below meth c s₁ [] 0 0 := Stand.of_body Bd
  have e0 : s₁.heap = h0 := by rw [← hh, Bd.state]; rfl
  have N0 := Fr.nil n0
  have K0 : Keep h0 h0 [] := Keep.refl _ _
  have r0 : GoTo p.tables e below s₁ (own_F_own_coder m y) s₁ (mkF m 0 #[.val (.ref y)] []) := fun tt_ kk_ => castTop (own_ef_own_coder m y) kk_
  obtain ⟨T1, X1, e1, st1⟩ := getS2 X0 hx hZ hown (host := "") (Or.inl (hw _ (List.mem_of_getElem? (i := 100) rfl))) Via.refl e0 (hp1.ext (O0.keep K0 all0).2) (g := (mkF m 0 #[.val (.ref y)] [])) rfl (hb hby own_d_jdk_42_method_152_code_0)
  obtain ⟨T2, X2, e2, st2⟩ := getF X1 hx hZ hown (host := "") (Or.inl (hw _ (List.mem_of_getElem? (i := 101) rfl))) Via.refl e1 hp0 (g := (mkF m 7 #[.val (.ref y)] [(.ref y)])) rfl rfl (hb hby own_d_jdk_42_method_152_code_7)
  obtain ⟨fs, hr, hrun, hended, hW, hsame⟩ := X2.leave (v := some (.int (nar .byte (0 : Int32)))) (fun h => by rw [Bd.returns] at h; cases h)
  refine ⟨_, _, r0 _ ?_, hrun, hended, _, _, rfl, ?_, ⟨_, rfl⟩, hW, hsame.mono (by decide) (by decide)⟩
  · show Steps p.tables e below (s₁.setTop (mkF m 0 #[.val (.ref y)] [])) _
    refine st1 _ ?_
    show Steps p.tables e below (T1.setTop (mkF m 3 #[.val (.ref y)] [(.int gCS)])) _
    refine XS.ifNo X1.here hx rfl (hb hby own_d_jdk_42_method_152_code_3) rfl ((if0 _ _).trans (feq hG1).1) ?_
    show Steps p.tables e below (T1.setTop (mkF m 6 #[.val (.ref y)] [])) _
    refine XS.aloadN X1.here hx rfl (hb hby own_d_jdk_42_method_152_code_6) rfl rfl ?_
    show Steps p.tables e below (T1.setTop (mkF m 7 #[.val (.ref y)] [(.ref y)])) _
    refine st2 _ ?_
    show Steps p.tables e below (T2.setTop (mkF m 10 #[.val (.ref y)] [(.int (0 : Int32))])) _
    refine XS.goto X2.here hx rfl (pc0 := 10) (pc' := 14) rfl (hb hby own_d_jdk_42_method_152_code_10) (by decide) (by decide) ?_
    show Steps p.tables e below (T2.setTop (mkF m 14 #[.val (.ref y)] [(.int (0 : Int32))])) _
    exact retN X2 hx (t := .byte) Bd.returns (by simp) (hb hby own_d_jdk_42_method_152_code_14) hr
  · show Q_own_coder Z y gCS h0 n0 _ T2.heap _
    rw [e2]
    exact ⟨rfl, N0, rfl⟩
theorem own_pn_own_strlen : plainName "java/lang/String" = true := by first | (simp [plainName, overriddenIn]; done) | decide +kernel
theorem own_ef_own_strlen (m : MethodId) (y : Addr) : entryFrame m #[(.ref y)] 1 = mkF m 0 #[.val (.ref y)] [] := by first | (simp [entryFrame, mkF, argsToLocals, own_cI, own_cJ, own_cR, own_cN]; done) | rfl
abbrev own_F_own_strlen (m : MethodId) (y : Addr) : JFrame := entryFrame m #[(.ref y)] 1
def Q_own_strlen (Z : State) (y : Addr) (ty : Addr) (ky : ClassId) (ds : List Int32) (gCS : Int32) (h0 : Heap) (n0 : Nat) (v : Option Value) (h : Heap) (L : List Loc) : Prop := v = some (.int (Int32.ofNat ds.length)) ∧ Fr n0 L ∧ h = h0
set_option maxRecDepth 65536 in
set_option maxHeartbeats 40000000 in
theorem own_strlen (l : Launch) (Z : State) (a0 : Array Value) (hw : ∀ d ∈ tables_1, d.before a0 Z = true) (ws : List Jvm.Cond) (y : Addr) (ty : Addr) (ky : ClassId) (ds : List Int32) (gCS : Int32) (h0 : Heap) (n0 : Nat) (O0 : Old Z n0 h0) (hp0 : own_Str Z h0 y ty ky ds) (hp1 : Sta Z Z.heap "java/lang/String" "COMPACT_STRINGS" "Z" (.int gCS)) (hG1 : ¬ gCS = (0 : Int32)) :
    MetFree l (⟨"java/lang/String", "length", "()I"⟩ : MethodName) (head1 (Jvm.Cond.code (⟨"java/lang/String", "length", "()I"⟩ : MethodName) jdk_42_method_54_code 1 (some .int) :: ws) ({ frames := 1, cells := 0, slots := 0, locals := 13 } : Room)) (fun aa_ U_ => aa_ = #[(.ref y)] ∧ Z.Warmed39 U_.vm ∧ U_.heap = h0) (fun _ _ _ _ _ => True) (fun _ U_ o_ V_ => ∃ v_ L_, o_ = .returned v_ ∧ Q_own_strlen Z y ty ky ds gCS h0 n0 v_ V_.heap L_ ∧ FrameEnd U_ o_ V_ L_ ({ frames := 1, cells := 0, slots := 0, locals := 13 } : Room).cells ({ frames := 1, cells := 0, slots := 0, locals := 13 } : Room).slots) := by
  refine MetFree.of_bodySF (plainFor_of_name own_pn_own_strlen) hisR ?_
  intro p e s m args below meth c s₁ Bd hml0 hP hK
  obtain ⟨rfl, hZ, hh⟩ := hP
  have hx := Bd.exec
  have hby := Bd.bytes
  have hml : c.maxLocals = 1 := hml0
  have hown : s.vm.findClass "java/lang/String" = some m.cls := findClass_of_methodNamed Bd.named
  have hnm := (name_of_methodNamed Bd.named Bd.method).1
  have X0 : Stand p l e ({ frames := 1, cells := 0, slots := 0, locals := 13 } : Room) s m #[(.ref y)] below meth c s₁ [] 0 0 := Stand.of_body Bd
  have e0 : s₁.heap = h0 := by rw [← hh, Bd.state]; rfl
  have N0 := Fr.nil n0
  have K0 : Keep h0 h0 [] := Keep.refl _ _
  have r0 : GoTo p.tables e below s₁ (own_F_own_strlen m y) s₁ (mkF m 0 #[.val (.ref y)] []) := fun tt_ kk_ => castTop (own_ef_own_strlen m y) kk_
  have hd4 := hp0.2.2.2.2.2
  obtain ⟨T1, X1, e1, st1⟩ := getF X0 hx hZ hown (host := "") (Or.inl (hw _ (List.mem_of_getElem? (i := 94) rfl))) Via.refl e0 hp0.2.1 (g := (mkF m 1 #[.val (.ref y)] [(.ref y)])) rfl rfl (hb hby own_d_jdk_42_method_54_code_1)
  obtain ⟨cl2, Ar2, q2, S2, NN2, H2, G2⟩ := id hp0.2.2.2.1
  obtain ⟨cq3, kq3, qa3, qb3, qc3⟩ := isOf hZ e1 hp0.1
  obtain ⟨_, _, ⟨T3, L3, k3, n3⟩, -, X3, ⟨Lc3, hQ3, l3, y3, z3⟩, st3⟩ := X1.virtualBack hx (y := (⟨"java/lang/String", "coder", "()B"⟩ : MethodName)) (z := (⟨"java/lang/String", "coder", "()B"⟩ : MethodName)) hown (mvT hZ (hw _ (List.mem_of_getElem? (i := 95) rfl))) (mvT hZ (hw _ (List.mem_of_getElem? (i := 96) rfl))) (notFace_of_selects (args := #[]) (mvT hZ (hw _ (List.mem_of_getElem? (i := 98) rfl)))) (mvT hZ (hw _ (List.mem_of_getElem? (i := 98) rfl))) (mvT hZ (hw _ (List.mem_of_getElem? (i := 97) rfl))) (by decide) (backOf (W := 1) (own_coder l Z a0 hw [] (y) (gCS) h0 n0 (O0.keep K0 all0) (hp0.2.2.1) (hp1) (hG1)) hZ (hw _ (List.mem_of_getElem? (i := 99) rfl)) (hw _ (List.mem_of_getElem? (i := 38) rfl)) (by decide) (by decide)) qa3 qc3 (g := (mkF m 6 #[.val (.ref y)] [(.ref y), (.int (Int32.ofNat ds.length))])) rfl (by rw [hml]; rfl) (Steps.refl _) (argsL := []) (rest := [(.int (Int32.ofNat ds.length))]) (lenOf own_pd8 rfl) rfl (by show 2 * 0 + _ ≤ _; exact Nat.le_of_eq rfl) (hb hby own_d_jdk_42_method_54_code_6) (fun _ _ => ⟨rfl, e1, (by decide : 0 + 0 ≤ _), (by decide : 0 + 0 ≤ _)⟩)
  dsimp only [Pt.U, Pt.locs, Pt.cells, Pt.slots] at X3 l3 y3 z3 st3 hQ3
  subst l3 y3 z3
  obtain ⟨rfl, Nq3, hh3⟩ := hQ3
  have N3 := Fr.app N0 Nq3
  have r4 : GoTo p.tables e below s₁ (own_F_own_strlen m y) T3 (mkF m 10 #[.val (.ref y)] [(.int ((Int32.ofNat ds.length) >>> ((0 : Int32) &&& 31)))]) := fun tt_ kk_ => r0 tt_ (by
      show Steps p.tables e below (s₁.setTop (mkF m 0 #[.val (.ref y)] [])) _
      refine XS.aloadN X0.here hx rfl (hb hby own_d_jdk_42_method_54_code_0) rfl rfl ?_
      show Steps p.tables e below (s₁.setTop (mkF m 1 #[.val (.ref y)] [(.ref y)])) _
      refine st1 _ ?_
      show Steps p.tables e below (T1.setTop (mkF m 4 #[.val (.ref y)] [(.ref ty)])) _
      refine X1.arraylength hx (by rw [e1]; exact Ar2.1) (State.isArrayOf_alike hZ.alike Ar2.2.1) (g := (mkF m 4 #[.val (.ref y)] [(.ref ty)])) rfl rfl (hb hby own_d_jdk_42_method_54_code_4) _ ?_
      rw [len_of S2 NN2]
      show Steps p.tables e below (T1.setTop (mkF m 5 #[.val (.ref y)] [(.int (Int32.ofNat ds.length))])) _
      refine XS.aloadN X1.here hx rfl (hb hby own_d_jdk_42_method_54_code_5) rfl rfl ?_
      show Steps p.tables e below (T1.setTop (mkF m 6 #[.val (.ref y)] [(.ref y), (.int (Int32.ofNat ds.length))])) _
      refine st3.trans ?_
      show Steps p.tables e below (T3.setTop (mkF m 9 #[.val (.ref y)] [(.int (0 : Int32)), (.int (Int32.ofNat ds.length))])) _
      refine XS.ishr X3.here hx rfl (hb hby own_d_jdk_42_method_54_code_9) rfl ?_
      show Steps p.tables e below (T3.setTop (mkF m 10 #[.val (.ref y)] [(.int ((Int32.ofNat ds.length) >>> ((0 : Int32) &&& 31)))])) _
      exact kk_)
  have r5 : GoTo p.tables e below s₁ (own_F_own_strlen m y) T3 (mkF m 10 #[.val (.ref y)] [(.int (Int32.ofNat ds.length))]) := Eq.mp (congrArg (fun zz_ => GoTo p.tables e below s₁ (own_F_own_strlen m y) T3 (mkF m 10 #[.val (.ref y)] [(.int zz_)])) (show ((Int32.ofNat ds.length) >>> ((0 : Int32) &&& 31)) = (Int32.ofNat ds.length) from own_shr0 _)) r4
  obtain ⟨fs, hr, hrun, hended, hW, hsame⟩ := X3.leave (v := some (.int (Int32.ofNat ds.length))) (fun h => by rw [Bd.returns] at h; cases h)
  refine ⟨_, _, r5 _ ?_, hrun, hended, _, _, rfl, ?_, ⟨_, rfl⟩, hW, hsame.mono (by decide) (by decide)⟩
  · show Steps p.tables e below (T3.setTop (mkF m 10 #[.val (.ref y)] [(.int (Int32.ofNat ds.length))])) _
    exact retI X3 hx Bd.returns (hb hby own_d_jdk_42_method_54_code_10) hr
  · show Q_own_strlen Z y ty ky ds gCS h0 n0 _ T3.heap _
    rw [hh3]
    exact ⟨rfl, N3, rfl⟩
theorem own_pn_own_sisL : plainName "java/lang/String" = true := by first | (simp [plainName, overriddenIn]; done) | decide +kernel
theorem own_ef_own_sisL (m : MethodId) (y : Addr) : entryFrame m #[(.ref y)] 1 = mkF m 0 #[.val (.ref y)] [] := by first | (simp [entryFrame, mkF, argsToLocals, own_cI, own_cJ, own_cR, own_cN]; done) | rfl
abbrev own_F_own_sisL (m : MethodId) (y : Addr) : JFrame := entryFrame m #[(.ref y)] 1
def Q_own_sisL (Z : State) (y : Addr) (gCS : Int32) (h0 : Heap) (n0 : Nat) (v : Option Value) (h : Heap) (L : List Loc) : Prop := v = some (.int (1 : Int32)) ∧ Fr n0 L ∧ h = h0
set_option maxRecDepth 65536 in
set_option maxHeartbeats 40000000 in
theorem own_sisL (l : Launch) (Z : State) (a0 : Array Value) (hw : ∀ d ∈ tables_1, d.before a0 Z = true) (ws : List Jvm.Cond) (y : Addr) (gCS : Int32) (h0 : Heap) (n0 : Nat) (O0 : Old Z n0 h0) (hp0 : Fld Z h0 y "java/lang/String" "coder" "B" (.int (0 : Int32))) (hp1 : Sta Z Z.heap "java/lang/String" "COMPACT_STRINGS" "Z" (.int gCS)) (hG1 : ¬ gCS = (0 : Int32)) :
    MetFree l (⟨"java/lang/String", "isLatin1", "()Z"⟩ : MethodName) (head1 (Jvm.Cond.code (⟨"java/lang/String", "isLatin1", "()Z"⟩ : MethodName) jdk_42_method_154_code 1 (some .boolean) :: ws) ({ frames := 0, cells := 0, slots := 0, locals := 0 } : Room)) (fun aa_ U_ => aa_ = #[(.ref y)] ∧ Z.Warmed39 U_.vm ∧ U_.heap = h0) (fun _ _ _ _ _ => True) (fun _ U_ o_ V_ => ∃ v_ L_, o_ = .returned v_ ∧ Q_own_sisL Z y gCS h0 n0 v_ V_.heap L_ ∧ FrameEnd U_ o_ V_ L_ ({ frames := 0, cells := 0, slots := 0, locals := 0 } : Room).cells ({ frames := 0, cells := 0, slots := 0, locals := 0 } : Room).slots) := by
  refine MetFree.of_bodySF (plainFor_of_name own_pn_own_sisL) hisR ?_
  intro p e s m args below meth c s₁ Bd hml0 hP hK
  obtain ⟨rfl, hZ, hh⟩ := hP
  have hx := Bd.exec
  have hby := Bd.bytes
  have hml : c.maxLocals = 1 := hml0
  have hown : s.vm.findClass "java/lang/String" = some m.cls := findClass_of_methodNamed Bd.named
  have hnm := (name_of_methodNamed Bd.named Bd.method).1
  have X0 : Stand p l e ({ frames := 0, cells := 0, slots := 0, locals := 0 } : Room) s m #[(.ref y)] below meth c s₁ [] 0 0 := Stand.of_body Bd
  have e0 : s₁.heap = h0 := by rw [← hh, Bd.state]; rfl
  have N0 := Fr.nil n0
  have K0 : Keep h0 h0 [] := Keep.refl _ _
  have r0 : GoTo p.tables e below s₁ (own_F_own_sisL m y) s₁ (mkF m 0 #[.val (.ref y)] []) := fun tt_ kk_ => castTop (own_ef_own_sisL m y) kk_
  obtain ⟨T1, X1, e1, st1⟩ := getS2 X0 hx hZ hown (host := "") (Or.inl (hw _ (List.mem_of_getElem? (i := 100) rfl))) Via.refl e0 (hp1.ext (O0.keep K0 all0).2) (g := (mkF m 0 #[.val (.ref y)] [])) rfl (hb hby own_d_jdk_42_method_154_code_0)
  obtain ⟨T2, X2, e2, st2⟩ := getF X1 hx hZ hown (host := "") (Or.inl (hw _ (List.mem_of_getElem? (i := 101) rfl))) Via.refl e1 hp0 (g := (mkF m 7 #[.val (.ref y)] [(.ref y)])) rfl rfl (hb hby own_d_jdk_42_method_154_code_7)
  obtain ⟨fs, hr, hrun, hended, hW, hsame⟩ := X2.leave (v := some (.int (nar .boolean (1 : Int32)))) (fun h => by rw [Bd.returns] at h; cases h)
  refine ⟨_, _, r0 _ ?_, hrun, hended, _, _, rfl, ?_, ⟨_, rfl⟩, hW, hsame.mono (by decide) (by decide)⟩
  · show Steps p.tables e below (s₁.setTop (mkF m 0 #[.val (.ref y)] [])) _
    refine st1 _ ?_
    show Steps p.tables e below (T1.setTop (mkF m 3 #[.val (.ref y)] [(.int gCS)])) _
    refine XS.ifNo X1.here hx rfl (hb hby own_d_jdk_42_method_154_code_3) rfl ((if0 _ _).trans (feq hG1).1) ?_
    show Steps p.tables e below (T1.setTop (mkF m 6 #[.val (.ref y)] [])) _
    refine XS.aloadN X1.here hx rfl (hb hby own_d_jdk_42_method_154_code_6) rfl rfl ?_
    show Steps p.tables e below (T1.setTop (mkF m 7 #[.val (.ref y)] [(.ref y)])) _
    refine st2 _ ?_
    show Steps p.tables e below (T2.setTop (mkF m 10 #[.val (.ref y)] [(.int (0 : Int32))])) _
    refine XS.ifNo X2.here hx rfl (hb hby own_d_jdk_42_method_154_code_10) rfl ((if0 _ _).trans (teq rfl).2) ?_
    show Steps p.tables e below (T2.setTop (mkF m 13 #[.val (.ref y)] [])) _
    refine XS.iconst X2.here hx rfl (hb hby own_d_jdk_42_method_154_code_13) ?_
    show Steps p.tables e below (T2.setTop (mkF m 14 #[.val (.ref y)] [(.int (1 : Int32))])) _
    refine XS.goto X2.here hx rfl (pc0 := 14) (pc' := 18) rfl (hb hby own_d_jdk_42_method_154_code_14) (by decide) (by decide) ?_
    show Steps p.tables e below (T2.setTop (mkF m 18 #[.val (.ref y)] [(.int (1 : Int32))])) _
    exact retN X2 hx (t := .boolean) Bd.returns (by simp) (hb hby own_d_jdk_42_method_154_code_18) hr
  · show Q_own_sisL Z y gCS h0 n0 _ T2.heap _
    rw [e2]
    exact ⟨rfl, N0, rfl⟩
theorem own_pn_own_pchk : plainName "jdk/internal/util/Preconditions" = true := by first | (simp [plainName, overriddenIn]; done) | decide +kernel
theorem own_ef_own_pchk (m : MethodId) (i : Nat) (n : Nat) (gFM : Value) (hcv0 : gFM.category = 1) : entryFrame m #[(.int (Int32.ofNat i)), (.int (Int32.ofNat n)), gFM] 3 = mkF m 0 #[.val (.int (Int32.ofNat i)), .val (.int (Int32.ofNat n)), .val gFM] [] := by first | (simp [entryFrame, mkF, argsToLocals, own_cI, own_cJ, own_cR, own_cN, hcv0]; done) | rfl
abbrev own_F_own_pchk (m : MethodId) (i : Nat) (n : Nat) (gFM : Value) : JFrame := entryFrame m #[(.int (Int32.ofNat i)), (.int (Int32.ofNat n)), gFM] 3
def Q_own_pchk (Z : State) (i : Nat) (n : Nat) (gFM : Value) (h0 : Heap) (n0 : Nat) (v : Option Value) (h : Heap) (L : List Loc) : Prop := v = some (.int (Int32.ofNat i)) ∧ Fr n0 L ∧ h = h0
set_option maxRecDepth 65536 in
set_option maxHeartbeats 40000000 in
theorem own_pchk (l : Launch) (Z : State) (a0 : Array Value) (hw : ∀ d ∈ tables_1, d.before a0 Z = true) (ws : List Jvm.Cond) (i : Nat) (n : Nat) (gFM : Value) (h0 : Heap) (n0 : Nat) (O0 : Old Z n0 h0) (hG3 : gFM.isRef = true) (hin : i < n) (hn6 : n ≤ 1000000) :
    MetFree l (⟨"jdk/internal/util/Preconditions", "checkIndex", "(IILjava/util/function/BiFunction;)I"⟩ : MethodName) (head1 (Jvm.Cond.code (⟨"jdk/internal/util/Preconditions", "checkIndex", "(IILjava/util/function/BiFunction;)I"⟩ : MethodName) jdk_41_method_11_code 3 (some .int) :: ws) ({ frames := 0, cells := 0, slots := 0, locals := 0 } : Room)) (fun aa_ U_ => aa_ = #[(.int (Int32.ofNat i)), (.int (Int32.ofNat n)), gFM] ∧ Z.Warmed39 U_.vm ∧ U_.heap = h0) (fun _ _ _ _ _ => True) (fun _ U_ o_ V_ => ∃ v_ L_, o_ = .returned v_ ∧ Q_own_pchk Z i n gFM h0 n0 v_ V_.heap L_ ∧ FrameEnd U_ o_ V_ L_ ({ frames := 0, cells := 0, slots := 0, locals := 0 } : Room).cells ({ frames := 0, cells := 0, slots := 0, locals := 0 } : Room).slots) := by
  refine MetFree.of_bodySF (plainFor_of_name own_pn_own_pchk) hisR ?_
  intro p e s m args below meth c s₁ Bd hml0 hP hK
  obtain ⟨rfl, hZ, hh⟩ := hP
  have hx := Bd.exec
  have hby := Bd.bytes
  have hml : c.maxLocals = 3 := hml0
  have hown : s.vm.findClass "jdk/internal/util/Preconditions" = some m.cls := findClass_of_methodNamed Bd.named
  have hnm := (name_of_methodNamed Bd.named Bd.method).1
  have X0 : Stand p l e ({ frames := 0, cells := 0, slots := 0, locals := 0 } : Room) s m #[(.int (Int32.ofNat i)), (.int (Int32.ofNat n)), gFM] below meth c s₁ [] 0 0 := Stand.of_body Bd
  have e0 : s₁.heap = h0 := by rw [← hh, Bd.state]; rfl
  have N0 := Fr.nil n0
  have K0 : Keep h0 h0 [] := Keep.refl _ _
  have r0 : GoTo p.tables e below s₁ (own_F_own_pchk m i n gFM) s₁ (mkF m 0 #[.val (.int (Int32.ofNat i)), .val (.int (Int32.ofNat n)), .val gFM] []) := fun tt_ kk_ => castTop (own_ef_own_pchk m i n gFM (own_cat hG3)) kk_
  obtain ⟨fs, hr, hrun, hended, hW, hsame⟩ := X0.leave (v := some (.int (Int32.ofNat i))) (fun h => by rw [Bd.returns] at h; cases h)
  refine ⟨_, _, r0 _ ?_, hrun, hended, _, _, rfl, ?_, ⟨_, rfl⟩, hW, hsame.mono (by decide) (by decide)⟩
  · show Steps p.tables e below (s₁.setTop (mkF m 0 #[.val (.int (Int32.ofNat i)), .val (.int (Int32.ofNat n)), .val gFM] [])) _
    refine XS.iloadN X0.here hx rfl (hb hby own_d_jdk_41_method_11_code_0) rfl ?_
    show Steps p.tables e below (s₁.setTop (mkF m 1 #[.val (.int (Int32.ofNat i)), .val (.int (Int32.ofNat n)), .val gFM] [(.int (Int32.ofNat i))])) _
    refine XS.ifNo X0.here hx rfl (hb hby own_d_jdk_41_method_11_code_1) rfl ((if0 _ _).trans (flt (own_negN (by omega))).1) ?_
    show Steps p.tables e below (s₁.setTop (mkF m 4 #[.val (.int (Int32.ofNat i)), .val (.int (Int32.ofNat n)), .val gFM] [])) _
    refine XS.iloadN X0.here hx rfl (hb hby own_d_jdk_41_method_11_code_4) rfl ?_
    show Steps p.tables e below (s₁.setTop (mkF m 5 #[.val (.int (Int32.ofNat i)), .val (.int (Int32.ofNat n)), .val gFM] [(.int (Int32.ofNat i))])) _
    refine XS.iloadN X0.here hx rfl (hb hby own_d_jdk_41_method_11_code_5) rfl ?_
    show Steps p.tables e below (s₁.setTop (mkF m 6 #[.val (.int (Int32.ofNat i)), .val (.int (Int32.ofNat n)), .val gFM] [(.int (Int32.ofNat n)), (.int (Int32.ofNat i))])) _
    refine XS.icmpYes X0.here hx rfl (pc0 := 6) (pc' := 16) rfl (hb hby own_d_jdk_41_method_11_code_6) rfl (tlt ((own_ltN (by omega) hn6).mpr hin)).1 (by decide) (by decide) ?_
    show Steps p.tables e below (s₁.setTop (mkF m 16 #[.val (.int (Int32.ofNat i)), .val (.int (Int32.ofNat n)), .val gFM] [])) _
    refine XS.iloadN X0.here hx rfl (hb hby own_d_jdk_41_method_11_code_16) rfl ?_
    show Steps p.tables e below (s₁.setTop (mkF m 17 #[.val (.int (Int32.ofNat i)), .val (.int (Int32.ofNat n)), .val gFM] [(.int (Int32.ofNat i))])) _
    exact retI X0 hx Bd.returns (hb hby own_d_jdk_41_method_11_code_17) hr
  · show Q_own_pchk Z i n gFM h0 n0 _ s₁.heap _
    rw [e0]
    exact ⟨rfl, N0, rfl⟩
theorem own_pn_own_schk : plainName "java/lang/String" = true := by first | (simp [plainName, overriddenIn]; done) | decide +kernel
theorem own_ef_own_schk (m : MethodId) (i : Nat) (n : Nat) : entryFrame m #[(.int (Int32.ofNat i)), (.int (Int32.ofNat n))] 2 = mkF m 0 #[.val (.int (Int32.ofNat i)), .val (.int (Int32.ofNat n))] [] := by first | (simp [entryFrame, mkF, argsToLocals, own_cI, own_cJ, own_cR, own_cN]; done) | rfl
abbrev own_F_own_schk (m : MethodId) (i : Nat) (n : Nat) : JFrame := entryFrame m #[(.int (Int32.ofNat i)), (.int (Int32.ofNat n))] 2
def Q_own_schk (Z : State) (i : Nat) (n : Nat) (gFM : Value) (h0 : Heap) (n0 : Nat) (v : Option Value) (h : Heap) (L : List Loc) : Prop := v = none ∧ Fr n0 L ∧ h = h0
set_option maxRecDepth 65536 in
set_option maxHeartbeats 40000000 in
theorem own_schk (l : Launch) (Z : State) (a0 : Array Value) (hw : ∀ d ∈ tables_1, d.before a0 Z = true) (ws : List Jvm.Cond) (i : Nat) (n : Nat) (gFM : Value) (h0 : Heap) (n0 : Nat) (O0 : Old Z n0 h0) (hp0 : Sta Z Z.heap "jdk/internal/util/Preconditions" "SIOOBE_FORMATTER" "Ljava/util/function/BiFunction;" gFM) (hG3 : gFM.isRef = true) (hin : i < n) (hn6 : n ≤ 1000000) :
    MetFree l (⟨"java/lang/String", "checkIndex", "(II)V"⟩ : MethodName) (head1 (Jvm.Cond.code (⟨"java/lang/String", "checkIndex", "(II)V"⟩ : MethodName) jdk_42_method_155_code 2 none :: ws) ({ frames := 1, cells := 0, slots := 0, locals := 14 } : Room)) (fun aa_ U_ => aa_ = #[(.int (Int32.ofNat i)), (.int (Int32.ofNat n))] ∧ Z.Warmed39 U_.vm ∧ U_.heap = h0) (fun _ _ _ _ _ => True) (fun _ U_ o_ V_ => ∃ v_ L_, o_ = .returned v_ ∧ Q_own_schk Z i n gFM h0 n0 v_ V_.heap L_ ∧ FrameEnd U_ o_ V_ L_ ({ frames := 1, cells := 0, slots := 0, locals := 14 } : Room).cells ({ frames := 1, cells := 0, slots := 0, locals := 14 } : Room).slots) := by
  refine MetFree.of_bodySF (plainFor_of_name own_pn_own_schk) hisR ?_
  intro p e s m args below meth c s₁ Bd hml0 hP hK
  obtain ⟨rfl, hZ, hh⟩ := hP
  have hx := Bd.exec
  have hby := Bd.bytes
  have hml : c.maxLocals = 2 := hml0
  have hown : s.vm.findClass "java/lang/String" = some m.cls := findClass_of_methodNamed Bd.named
  have hnm := (name_of_methodNamed Bd.named Bd.method).1
  have X0 : Stand p l e ({ frames := 1, cells := 0, slots := 0, locals := 14 } : Room) s m #[(.int (Int32.ofNat i)), (.int (Int32.ofNat n))] below meth c s₁ [] 0 0 := Stand.of_body Bd
  have e0 : s₁.heap = h0 := by rw [← hh, Bd.state]; rfl
  have N0 := Fr.nil n0
  have K0 : Keep h0 h0 [] := Keep.refl _ _
  have r0 : GoTo p.tables e below s₁ (own_F_own_schk m i n) s₁ (mkF m 0 #[.val (.int (Int32.ofNat i)), .val (.int (Int32.ofNat n))] []) := fun tt_ kk_ => castTop (own_ef_own_schk m i n) kk_
  obtain ⟨T1, X1, e1, st1⟩ := getS2 X0 hx hZ hown (host := "") (Or.inl (hw _ (List.mem_of_getElem? (i := 187) rfl))) Via.refl e0 (hp0.ext (O0.keep K0 all0).2) (g := (mkF m 2 #[.val (.int (Int32.ofNat i)), .val (.int (Int32.ofNat n))] [(.int (Int32.ofNat n)), (.int (Int32.ofNat i))])) rfl (hb hby own_d_jdk_42_method_155_code_2)
  obtain ⟨_, _, ⟨T2, L2, k2, n2⟩, -, X2, ⟨Lc2, hQ2, l2, y2, z2⟩, st2⟩ := Jvm.LawKit.callS X1 hx (y := (⟨"jdk/internal/util/Preconditions", "checkIndex", "(IILjava/util/function/BiFunction;)I"⟩ : MethodName)) hown (mvT hZ (hw _ (List.mem_of_getElem? (i := 189) rfl))) (mvT hZ (hw _ (List.mem_of_getElem? (i := 190) rfl))) (mvT hZ (hw _ (List.mem_of_getElem? (i := 188) rfl))) (mvT hZ (hw _ (List.mem_of_getElem? (i := 191) rfl))) (by decide) (backOf (W := 0) (own_pchk l Z a0 hw [] (i) (n) (gFM) h0 n0 (O0.keep K0 all0) (hG3) (hin) (hn6)) hZ (hw _ (List.mem_of_getElem? (i := 191) rfl)) (hw _ (List.mem_of_getElem? (i := 188) rfl)) (by decide) (by decide)) (g := (mkF m 5 #[.val (.int (Int32.ofNat i)), .val (.int (Int32.ofNat n))] [gFM, (.int (Int32.ofNat n)), (.int (Int32.ofNat i))])) rfl (by rw [hml]; rfl) (argsL := [(.int (Int32.ofNat i)), (.int (Int32.ofNat n)), gFM]) (rest := []) (lenOf own_pd9 rfl) rfl (by show 2 * 0 + _ ≤ _; exact Nat.le_of_eq rfl) (hb hby own_d_jdk_42_method_155_code_5) (fun _ _ => ⟨rfl, e1, (by decide : 0 + 0 ≤ _), (by decide : 0 + 0 ≤ _)⟩)
  dsimp only [Pt.U, Pt.locs, Pt.cells, Pt.slots] at X2 l2 y2 z2 st2 hQ2
  subst l2 y2 z2
  obtain ⟨rfl, Nq2, hh2⟩ := hQ2
  have N2 := Fr.app N0 Nq2
  obtain ⟨fs, hr, hrun, hended, hW, hsame⟩ := X2.leave (v := none) (fun _ => rfl)
  refine ⟨_, _, r0 _ ?_, hrun, hended, _, _, rfl, ?_, ⟨_, rfl⟩, hW, hsame.mono (by decide) (by decide)⟩
  · show Steps p.tables e below (s₁.setTop (mkF m 0 #[.val (.int (Int32.ofNat i)), .val (.int (Int32.ofNat n))] [])) _
    refine XS.iloadN X0.here hx rfl (hb hby own_d_jdk_42_method_155_code_0) rfl ?_
    show Steps p.tables e below (s₁.setTop (mkF m 1 #[.val (.int (Int32.ofNat i)), .val (.int (Int32.ofNat n))] [(.int (Int32.ofNat i))])) _
    refine XS.iloadN X0.here hx rfl (hb hby own_d_jdk_42_method_155_code_1) rfl ?_
    show Steps p.tables e below (s₁.setTop (mkF m 2 #[.val (.int (Int32.ofNat i)), .val (.int (Int32.ofNat n))] [(.int (Int32.ofNat n)), (.int (Int32.ofNat i))])) _
    refine st1 _ ?_
    show Steps p.tables e below (T1.setTop (mkF m 5 #[.val (.int (Int32.ofNat i)), .val (.int (Int32.ofNat n))] [gFM, (.int (Int32.ofNat n)), (.int (Int32.ofNat i))])) _
    refine st2 _ ?_
    show Steps p.tables e below (T2.setTop (mkF m 8 #[.val (.int (Int32.ofNat i)), .val (.int (Int32.ofNat n))] [(.int (Int32.ofNat i))])) _
    refine XS.pop X2.here hx rfl (hb hby own_d_jdk_42_method_155_code_8) rfl rfl ?_
    show Steps p.tables e below (T2.setTop (mkF m 9 #[.val (.int (Int32.ofNat i)), .val (.int (Int32.ofNat n))] [])) _
    exact X2.returnOut hx Bd.returns (hb hby own_d_jdk_42_method_155_code_9) hr
  · show Q_own_schk Z i n gFM h0 n0 _ T2.heap _
    rw [hh2]
    exact ⟨rfl, N2, rfl⟩
theorem own_pn_own_l1ch : plainName "java/lang/StringLatin1" = true := by first | (simp [plainName, overriddenIn]; done) | decide +kernel
theorem own_ef_own_l1ch (m : MethodId) (ty : Addr) (i : Nat) : entryFrame m #[(.ref ty), (.int (Int32.ofNat i))] 2 = mkF m 0 #[.val (.ref ty), .val (.int (Int32.ofNat i))] [] := by first | (simp [entryFrame, mkF, argsToLocals, own_cI, own_cJ, own_cR, own_cN]; done) | rfl
abbrev own_F_own_l1ch (m : MethodId) (ty : Addr) (i : Nat) : JFrame := entryFrame m #[(.ref ty), (.int (Int32.ofNat i))] 2
def Q_own_l1ch (Z : State) (ty : Addr) (ky : ClassId) (ds : List Int32) (i : Nat) (gFM : Value) (h0 : Heap) (n0 : Nat) (v : Option Value) (h : Heap) (L : List Loc) : Prop := v = some (.int (ds.getD i 0)) ∧ Fr n0 L ∧ h = h0
set_option maxRecDepth 65536 in
set_option maxHeartbeats 40000000 in
theorem own_l1ch (l : Launch) (Z : State) (a0 : Array Value) (hw : ∀ d ∈ tables_1, d.before a0 Z = true) (ws : List Jvm.Cond) (ty : Addr) (ky : ClassId) (ds : List Int32) (i : Nat) (gFM : Value) (h0 : Heap) (n0 : Nat) (O0 : Old Z n0 h0) (hp0 : Arv Z h0 ty ky .byte (Int32.ofNat ds.length) ((ds.map fun c => c.toInt8.toInt32).map Value.int) (.int (0 : Int32))) (hrg : ∀ c ∈ ds, ¬ c < 0 ∧ ¬ (255 : Int32) < c) (hin : i < ds.length) (hn4 : ds.length ≤ 4000) (hp4 : Sta Z Z.heap "jdk/internal/util/Preconditions" "SIOOBE_FORMATTER" "Ljava/util/function/BiFunction;" gFM) (hG3 : gFM.isRef = true) :
    MetFree l (⟨"java/lang/StringLatin1", "charAt", "([BI)C"⟩ : MethodName) (head1 (Jvm.Cond.code (⟨"java/lang/StringLatin1", "charAt", "([BI)C"⟩ : MethodName) jdk_43_method_2_code 2 (some .char) :: ws) ({ frames := 2, cells := 0, slots := 0, locals := 27 } : Room)) (fun aa_ U_ => aa_ = #[(.ref ty), (.int (Int32.ofNat i))] ∧ Z.Warmed39 U_.vm ∧ U_.heap = h0) (fun _ _ _ _ _ => True) (fun _ U_ o_ V_ => ∃ v_ L_, o_ = .returned v_ ∧ Q_own_l1ch Z ty ky ds i gFM h0 n0 v_ V_.heap L_ ∧ FrameEnd U_ o_ V_ L_ ({ frames := 2, cells := 0, slots := 0, locals := 27 } : Room).cells ({ frames := 2, cells := 0, slots := 0, locals := 27 } : Room).slots) := by
  refine MetFree.of_bodySF (plainFor_of_name own_pn_own_l1ch) hisR ?_
  intro p e s m args below meth c s₁ Bd hml0 hP hK
  obtain ⟨rfl, hZ, hh⟩ := hP
  have hx := Bd.exec
  have hby := Bd.bytes
  have hml : c.maxLocals = 2 := hml0
  have hown : s.vm.findClass "java/lang/StringLatin1" = some m.cls := findClass_of_methodNamed Bd.named
  have hnm := (name_of_methodNamed Bd.named Bd.method).1
  have X0 : Stand p l e ({ frames := 2, cells := 0, slots := 0, locals := 27 } : Room) s m #[(.ref ty), (.int (Int32.ofNat i))] below meth c s₁ [] 0 0 := Stand.of_body Bd
  have e0 : s₁.heap = h0 := by rw [← hh, Bd.state]; rfl
  have N0 := Fr.nil n0
  have K0 : Keep h0 h0 [] := Keep.refl _ _
  have r0 : GoTo p.tables e below s₁ (own_F_own_l1ch m ty i) s₁ (mkF m 0 #[.val (.ref ty), .val (.int (Int32.ofNat i))] []) := fun tt_ kk_ => castTop (own_ef_own_l1ch m ty i) kk_
  obtain ⟨cl1, Ar1, q1, S1, NN1, H1, G1⟩ := id hp0
  obtain ⟨_, _, ⟨T2, L2, k2, n2⟩, -, X2, ⟨Lc2, hQ2, l2, y2, z2⟩, st2⟩ := Jvm.LawKit.callS X0 hx (y := (⟨"java/lang/String", "checkIndex", "(II)V"⟩ : MethodName)) hown (mvT hZ (hw _ (List.mem_of_getElem? (i := 184) rfl))) (mvT hZ (hw _ (List.mem_of_getElem? (i := 185) rfl))) (mvT hZ (hw _ (List.mem_of_getElem? (i := 38) rfl))) (mvT hZ (hw _ (List.mem_of_getElem? (i := 186) rfl))) (by decide) (backOf (W := 0) (own_schk l Z a0 hw [] (i) (ds.length) (gFM) h0 n0 (O0.keep K0 all0) (hp4) (hG3) (hin) (by omega)) hZ (hw _ (List.mem_of_getElem? (i := 186) rfl)) (hw _ (List.mem_of_getElem? (i := 38) rfl)) (by decide) (by decide)) (g := (mkF m 3 #[.val (.ref ty), .val (.int (Int32.ofNat i))] [(.int (Int32.ofNat ds.length)), (.int (Int32.ofNat i))])) rfl (by rw [hml]; rfl) (argsL := [(.int (Int32.ofNat i)), (.int (Int32.ofNat ds.length))]) (rest := []) (lenOf own_pd10 rfl) rfl (by show 2 * 0 + _ ≤ _; exact Nat.le_of_eq rfl) (hb hby own_d_jdk_43_method_2_code_3) (fun _ _ => ⟨rfl, e0, (by decide : 0 + 0 ≤ _), (by decide : 0 + 0 ≤ _)⟩)
  dsimp only [Pt.U, Pt.locs, Pt.cells, Pt.slots] at X2 l2 y2 z2 st2 hQ2
  subst l2 y2 z2
  obtain ⟨rfl, Nq2, hh2⟩ := hQ2
  have N2 := Fr.app N0 Nq2
  obtain ⟨cl3, Ar3, q3, S3, NN3, H3, G3⟩ := id hp0
  have hin3 : ¬ ((Int32.ofNat i) < 0 ∨ cl3.slots.size ≤ ((Int32.ofNat i)).toNatClampNeg) := inb_of S3 ⟨own_negN (by omega), (own_ltN (by omega) (by omega)).mpr hin⟩
  obtain ⟨fs, hr, hrun, hended, hW, hsame⟩ := X2.leave (v := some (.int (nar .char ((((ds.getD i 0).toInt8.toInt32) &&& (255 : Int32)).toUInt32.toUInt16.toUInt32.toInt32)))) (fun h => by rw [Bd.returns] at h; cases h)
  refine ⟨_, _, r0 _ ?_, hrun, hended, _, _, rfl, ?_, ⟨_, rfl⟩, hW, hsame.mono (by decide) (by decide)⟩
  · show Steps p.tables e below (s₁.setTop (mkF m 0 #[.val (.ref ty), .val (.int (Int32.ofNat i))] [])) _
    refine XS.iloadN X0.here hx rfl (hb hby own_d_jdk_43_method_2_code_0) rfl ?_
    show Steps p.tables e below (s₁.setTop (mkF m 1 #[.val (.ref ty), .val (.int (Int32.ofNat i))] [(.int (Int32.ofNat i))])) _
    refine XS.aloadN X0.here hx rfl (hb hby own_d_jdk_43_method_2_code_1) rfl rfl ?_
    show Steps p.tables e below (s₁.setTop (mkF m 2 #[.val (.ref ty), .val (.int (Int32.ofNat i))] [(.ref ty), (.int (Int32.ofNat i))])) _
    refine X0.arraylength hx (by rw [e0]; exact Ar1.1) (State.isArrayOf_alike hZ.alike Ar1.2.1) (g := (mkF m 2 #[.val (.ref ty), .val (.int (Int32.ofNat i))] [(.ref ty), (.int (Int32.ofNat i))])) rfl rfl (hb hby own_d_jdk_43_method_2_code_2) _ ?_
    rw [len_of S1 NN1]
    show Steps p.tables e below (s₁.setTop (mkF m 3 #[.val (.ref ty), .val (.int (Int32.ofNat i))] [(.int (Int32.ofNat ds.length)), (.int (Int32.ofNat i))])) _
    refine st2 _ ?_
    show Steps p.tables e below (T2.setTop (mkF m 6 #[.val (.ref ty), .val (.int (Int32.ofNat i))] [])) _
    refine XS.aloadN X2.here hx rfl (hb hby own_d_jdk_43_method_2_code_6) rfl rfl ?_
    show Steps p.tables e below (T2.setTop (mkF m 7 #[.val (.ref ty), .val (.int (Int32.ofNat i))] [(.ref ty)])) _
    refine XS.iloadN X2.here hx rfl (hb hby own_d_jdk_43_method_2_code_7) rfl ?_
    show Steps p.tables e below (T2.setTop (mkF m 8 #[.val (.ref ty), .val (.int (Int32.ofNat i))] [(.int (Int32.ofNat i)), (.ref ty)])) _
    refine X2.baloadBytes hx (j := (Int32.ofNat i)) (v := (.int ((ds.getD i 0).toInt8.toInt32))) (by rw [hh2]; exact Ar3.1) (State.isArrayOf_alike hZ.alike Ar3.2.1) Ar3.2.2 hin3 (Has.at H3 hin3 (by rw [own_clamp (by omega)]; exact own_map_getD _ _ hin)) (g := (mkF m 8 #[.val (.ref ty), .val (.int (Int32.ofNat i))] [(.int (Int32.ofNat i)), (.ref ty)])) rfl rfl (hb hby own_d_jdk_43_method_2_code_8) _ ?_
    show Steps p.tables e below (T2.setTop (mkF m 9 #[.val (.ref ty), .val (.int (Int32.ofNat i))] [(.int ((ds.getD i 0).toInt8.toInt32))])) _
    refine XS.sipush X2.here hx rfl (hb hby own_d_jdk_43_method_2_code_9) ?_
    show Steps p.tables e below (T2.setTop (mkF m 12 #[.val (.ref ty), .val (.int (Int32.ofNat i))] [(.int (255 : Int32)), (.int ((ds.getD i 0).toInt8.toInt32))])) _
    refine XS.iand X2.here hx rfl (hb hby own_d_jdk_43_method_2_code_12) rfl ?_
    show Steps p.tables e below (T2.setTop (mkF m 13 #[.val (.ref ty), .val (.int (Int32.ofNat i))] [(.int (((ds.getD i 0).toInt8.toInt32) &&& (255 : Int32)))])) _
    refine XS.i2c X2.here hx rfl (hb hby own_d_jdk_43_method_2_code_13) rfl ?_
    show Steps p.tables e below (T2.setTop (mkF m 14 #[.val (.ref ty), .val (.int (Int32.ofNat i))] [(.int ((((ds.getD i 0).toInt8.toInt32) &&& (255 : Int32)).toUInt32.toUInt16.toUInt32.toInt32))])) _
    exact retN X2 hx (t := .char) Bd.returns (by simp) (hb hby own_d_jdk_43_method_2_code_14) hr
  · show Q_own_l1ch Z ty ky ds i gFM h0 n0 _ T2.heap _
    rw [hh2]
    exact ⟨(by rw [(own_chb (own_rngAt hrg hin)).1, (own_chb (own_rngAt hrg hin)).2]), N2, rfl⟩
theorem own_pn_own_chAt : plainName "java/lang/String" = true := by first | (simp [plainName, overriddenIn]; done) | decide +kernel
theorem own_ef_own_chAt (m : MethodId) (y : Addr) (i : Nat) : entryFrame m #[(.ref y), (.int (Int32.ofNat i))] 2 = mkF m 0 #[.val (.ref y), .val (.int (Int32.ofNat i))] [] := by first | (simp [entryFrame, mkF, argsToLocals, own_cI, own_cJ, own_cR, own_cN]; done) | rfl
abbrev own_F_own_chAt (m : MethodId) (y : Addr) (i : Nat) : JFrame := entryFrame m #[(.ref y), (.int (Int32.ofNat i))] 2
def Q_own_chAt (Z : State) (y : Addr) (ty : Addr) (ky : ClassId) (ds : List Int32) (i : Nat) (gCS : Int32) (gFM : Value) (h0 : Heap) (n0 : Nat) (v : Option Value) (h : Heap) (L : List Loc) : Prop := v = some (.int (ds.getD i 0)) ∧ Fr n0 L ∧ h = h0
set_option maxRecDepth 65536 in
set_option maxHeartbeats 40000000 in
theorem own_chAt (l : Launch) (Z : State) (a0 : Array Value) (hw : ∀ d ∈ tables_1, d.before a0 Z = true) (ws : List Jvm.Cond) (y : Addr) (ty : Addr) (ky : ClassId) (ds : List Int32) (i : Nat) (gCS : Int32) (gFM : Value) (h0 : Heap) (n0 : Nat) (O0 : Old Z n0 h0) (hp0 : own_Str Z h0 y ty ky ds) (hin : i < ds.length) (hp2 : Sta Z Z.heap "java/lang/String" "COMPACT_STRINGS" "Z" (.int gCS)) (hG1 : ¬ gCS = (0 : Int32)) (hp4 : Sta Z Z.heap "jdk/internal/util/Preconditions" "SIOOBE_FORMATTER" "Ljava/util/function/BiFunction;" gFM) (hG3 : gFM.isRef = true) :
    MetFree l (⟨"java/lang/String", "charAt", "(I)C"⟩ : MethodName) (head1 (Jvm.Cond.code (⟨"java/lang/String", "charAt", "(I)C"⟩ : MethodName) jdk_42_method_56_code 2 (some .char) :: ws) ({ frames := 3, cells := 0, slots := 0, locals := 40 } : Room)) (fun aa_ U_ => aa_ = #[(.ref y), (.int (Int32.ofNat i))] ∧ Z.Warmed39 U_.vm ∧ U_.heap = h0) (fun _ _ _ _ _ => True) (fun _ U_ o_ V_ => ∃ v_ L_, o_ = .returned v_ ∧ Q_own_chAt Z y ty ky ds i gCS gFM h0 n0 v_ V_.heap L_ ∧ FrameEnd U_ o_ V_ L_ ({ frames := 3, cells := 0, slots := 0, locals := 40 } : Room).cells ({ frames := 3, cells := 0, slots := 0, locals := 40 } : Room).slots) := by
  refine MetFree.of_bodySF (plainFor_of_name own_pn_own_chAt) hisR ?_
  intro p e s m args below meth c s₁ Bd hml0 hP hK
  obtain ⟨rfl, hZ, hh⟩ := hP
  have hx := Bd.exec
  have hby := Bd.bytes
  have hml : c.maxLocals = 2 := hml0
  have hown : s.vm.findClass "java/lang/String" = some m.cls := findClass_of_methodNamed Bd.named
  have hnm := (name_of_methodNamed Bd.named Bd.method).1
  have X0 : Stand p l e ({ frames := 3, cells := 0, slots := 0, locals := 40 } : Room) s m #[(.ref y), (.int (Int32.ofNat i))] below meth c s₁ [] 0 0 := Stand.of_body Bd
  have e0 : s₁.heap = h0 := by rw [← hh, Bd.state]; rfl
  have N0 := Fr.nil n0
  have K0 : Keep h0 h0 [] := Keep.refl _ _
  have r0 : GoTo p.tables e below s₁ (own_F_own_chAt m y i) s₁ (mkF m 0 #[.val (.ref y), .val (.int (Int32.ofNat i))] []) := fun tt_ kk_ => castTop (own_ef_own_chAt m y i) kk_
  have hd4 := hp0.2.2.2.2.2
  obtain ⟨cq1, kq1, qa1, qb1, qc1⟩ := isOf hZ e0 hp0.1
  obtain ⟨_, _, ⟨T1, L1, k1, n1⟩, -, X1, ⟨Lc1, hQ1, l1, y1, z1⟩, st1⟩ := X0.virtualBack hx (y := (⟨"java/lang/String", "isLatin1", "()Z"⟩ : MethodName)) (z := (⟨"java/lang/String", "isLatin1", "()Z"⟩ : MethodName)) hown (mvT hZ (hw _ (List.mem_of_getElem? (i := 175) rfl))) (mvT hZ (hw _ (List.mem_of_getElem? (i := 176) rfl))) (notFace_of_selects (args := #[]) (mvT hZ (hw _ (List.mem_of_getElem? (i := 178) rfl)))) (mvT hZ (hw _ (List.mem_of_getElem? (i := 178) rfl))) (mvT hZ (hw _ (List.mem_of_getElem? (i := 177) rfl))) (by decide) (backOf (W := 0) (own_sisL l Z a0 hw [] (y) (gCS) h0 n0 (O0.keep K0 all0) (hp0.2.2.1) (hp2) (hG1)) hZ (hw _ (List.mem_of_getElem? (i := 179) rfl)) (hw _ (List.mem_of_getElem? (i := 38) rfl)) (by decide) (by decide)) qa1 qc1 (g := (mkF m 1 #[.val (.ref y), .val (.int (Int32.ofNat i))] [(.ref y)])) rfl (by rw [hml]; rfl) (Steps.refl _) (argsL := []) (rest := []) (lenOf own_pd5 rfl) rfl (by show 2 * 0 + _ ≤ _; exact Nat.le_of_eq rfl) (hb hby own_d_jdk_42_method_56_code_1) (fun _ _ => ⟨rfl, e0, (by decide : 0 + 0 ≤ _), (by decide : 0 + 0 ≤ _)⟩)
  dsimp only [Pt.U, Pt.locs, Pt.cells, Pt.slots] at X1 l1 y1 z1 st1 hQ1
  subst l1 y1 z1
  obtain ⟨rfl, Nq1, hh1⟩ := hQ1
  have N1 := Fr.app N0 Nq1
  obtain ⟨T2, X2, e2, st2⟩ := getF X1 hx hZ hown (host := "") (Or.inl (hw _ (List.mem_of_getElem? (i := 94) rfl))) Via.refl hh1 hp0.2.1 (g := (mkF m 8 #[.val (.ref y), .val (.int (Int32.ofNat i))] [(.ref y)])) rfl rfl (hb hby own_d_jdk_42_method_56_code_8)
  obtain ⟨_, _, ⟨T3, L3, k3, n3⟩, -, X3, ⟨Lc3, hQ3, l3, y3, z3⟩, st3⟩ := Jvm.LawKit.callS X2 hx (y := (⟨"java/lang/StringLatin1", "charAt", "([BI)C"⟩ : MethodName)) hown (mvT hZ (hw _ (List.mem_of_getElem? (i := 180) rfl))) (mvT hZ (hw _ (List.mem_of_getElem? (i := 181) rfl))) (mvT hZ (hw _ (List.mem_of_getElem? (i := 182) rfl))) (mvT hZ (hw _ (List.mem_of_getElem? (i := 183) rfl))) (by decide) (backOf (W := 0) (own_l1ch l Z a0 hw [] (ty) (ky) (ds) (i) (gFM) h0 n0 (O0.keep K0 all0) (hp0.2.2.2.1) (hp0.2.2.2.2.1) (hin) (hd4) (hp4) (hG3)) hZ (hw _ (List.mem_of_getElem? (i := 183) rfl)) (hw _ (List.mem_of_getElem? (i := 182) rfl)) (by decide) (by decide)) (g := (mkF m 12 #[.val (.ref y), .val (.int (Int32.ofNat i))] [(.int (Int32.ofNat i)), (.ref ty)])) rfl (by rw [hml]; rfl) (argsL := [(.ref ty), (.int (Int32.ofNat i))]) (rest := []) (lenOf own_pd11 rfl) rfl (by show 2 * 0 + _ ≤ _; exact Nat.le_of_eq rfl) (hb hby own_d_jdk_42_method_56_code_12) (fun _ _ => ⟨rfl, e2, (by decide : 0 + 0 ≤ _), (by decide : 0 + 0 ≤ _)⟩)
  dsimp only [Pt.U, Pt.locs, Pt.cells, Pt.slots] at X3 l3 y3 z3 st3 hQ3
  subst l3 y3 z3
  obtain ⟨rfl, Nq3, hh3⟩ := hQ3
  have N3 := Fr.app N1 Nq3
  obtain ⟨fs, hr, hrun, hended, hW, hsame⟩ := X3.leave (v := some (.int (nar .char (ds.getD i 0)))) (fun h => by rw [Bd.returns] at h; cases h)
  refine ⟨_, _, r0 _ ?_, hrun, hended, _, _, rfl, ?_, ⟨_, rfl⟩, hW, hsame.mono (by decide) (by decide)⟩
  · show Steps p.tables e below (s₁.setTop (mkF m 0 #[.val (.ref y), .val (.int (Int32.ofNat i))] [])) _
    refine XS.aloadN X0.here hx rfl (hb hby own_d_jdk_42_method_56_code_0) rfl rfl ?_
    show Steps p.tables e below (s₁.setTop (mkF m 1 #[.val (.ref y), .val (.int (Int32.ofNat i))] [(.ref y)])) _
    refine st1.trans ?_
    show Steps p.tables e below (T1.setTop (mkF m 4 #[.val (.ref y), .val (.int (Int32.ofNat i))] [(.int (1 : Int32))])) _
    refine XS.ifNo X1.here hx rfl (hb hby own_d_jdk_42_method_56_code_4) rfl ((if0 _ _).trans (feq (by decide)).1) ?_
    show Steps p.tables e below (T1.setTop (mkF m 7 #[.val (.ref y), .val (.int (Int32.ofNat i))] [])) _
    refine XS.aloadN X1.here hx rfl (hb hby own_d_jdk_42_method_56_code_7) rfl rfl ?_
    show Steps p.tables e below (T1.setTop (mkF m 8 #[.val (.ref y), .val (.int (Int32.ofNat i))] [(.ref y)])) _
    refine st2 _ ?_
    show Steps p.tables e below (T2.setTop (mkF m 11 #[.val (.ref y), .val (.int (Int32.ofNat i))] [(.ref ty)])) _
    refine XS.iloadN X2.here hx rfl (hb hby own_d_jdk_42_method_56_code_11) rfl ?_
    show Steps p.tables e below (T2.setTop (mkF m 12 #[.val (.ref y), .val (.int (Int32.ofNat i))] [(.int (Int32.ofNat i)), (.ref ty)])) _
    refine st3 _ ?_
    show Steps p.tables e below (T3.setTop (mkF m 15 #[.val (.ref y), .val (.int (Int32.ofNat i))] [(.int (ds.getD i 0))])) _
    exact retN X3 hx (t := .char) Bd.returns (by simp) (hb hby own_d_jdk_42_method_56_code_15) hr
  · show Q_own_chAt Z y ty ky ds i gCS gFM h0 n0 _ T3.heap _
    rw [hh3]
    exact ⟨(by rw [(own_chb (own_rngAt hp0.2.2.2.2.1 hin)).2]), N3, rfl⟩
theorem own_pn_own_infl : plainName "java/lang/AbstractStringBuilder" = true := by first | (simp [plainName, overriddenIn]; done) | decide +kernel
theorem own_ef_own_infl (m : MethodId) (b : Addr) (y : Addr) : entryFrame m #[(.ref b), (.ref y)] 2 = mkF m 0 #[.val (.ref b), .val (.ref y)] [] := by first | (simp [entryFrame, mkF, argsToLocals, own_cI, own_cJ, own_cR, own_cN]; done) | rfl
abbrev own_F_own_infl (m : MethodId) (b : Addr) (y : Addr) : JFrame := entryFrame m #[(.ref b), (.ref y)] 2
def Q_own_infl (Z : State) (b : Addr) (y : Addr) (gCS : Int32) (h0 : Heap) (n0 : Nat) (v : Option Value) (h : Heap) (L : List Loc) : Prop := v = none ∧ Fr n0 L ∧ h = h0
set_option maxRecDepth 65536 in
set_option maxHeartbeats 40000000 in
theorem own_infl (l : Launch) (Z : State) (a0 : Array Value) (hw : ∀ d ∈ tables_1, d.before a0 Z = true) (ws : List Jvm.Cond) (b : Addr) (y : Addr) (gCS : Int32) (h0 : Heap) (n0 : Nat) (O0 : Old Z n0 h0) (hp0 : Exa Z h0 y "java/lang/String") (hp1 : Fld Z h0 b "java/lang/AbstractStringBuilder" "coder" "B" (.int (0 : Int32))) (hp2 : Fld Z h0 y "java/lang/String" "coder" "B" (.int (0 : Int32))) (hp3 : Sta Z Z.heap "java/lang/String" "COMPACT_STRINGS" "Z" (.int gCS)) (hG1 : ¬ gCS = (0 : Int32)) :
    MetFree l (⟨"java/lang/AbstractStringBuilder", "inflateIfNeededFor", "(Ljava/lang/String;)V"⟩ : MethodName) (head1 (Jvm.Cond.code (⟨"java/lang/AbstractStringBuilder", "inflateIfNeededFor", "(Ljava/lang/String;)V"⟩ : MethodName) jdk_68_method_71_code 2 none :: ws) ({ frames := 1, cells := 0, slots := 0, locals := 13 } : Room)) (fun aa_ U_ => aa_ = #[(.ref b), (.ref y)] ∧ Z.Warmed39 U_.vm ∧ U_.heap = h0) (fun _ _ _ _ _ => True) (fun _ U_ o_ V_ => ∃ v_ L_, o_ = .returned v_ ∧ Q_own_infl Z b y gCS h0 n0 v_ V_.heap L_ ∧ FrameEnd U_ o_ V_ L_ ({ frames := 1, cells := 0, slots := 0, locals := 13 } : Room).cells ({ frames := 1, cells := 0, slots := 0, locals := 13 } : Room).slots) := by
  refine MetFree.of_bodySF (plainFor_of_name own_pn_own_infl) hisR ?_
  intro p e s m args below meth c s₁ Bd hml0 hP hK
  obtain ⟨rfl, hZ, hh⟩ := hP
  have hx := Bd.exec
  have hby := Bd.bytes
  have hml : c.maxLocals = 2 := hml0
  have hown : s.vm.findClass "java/lang/AbstractStringBuilder" = some m.cls := findClass_of_methodNamed Bd.named
  have hnm := (name_of_methodNamed Bd.named Bd.method).1
  have X0 : Stand p l e ({ frames := 1, cells := 0, slots := 0, locals := 13 } : Room) s m #[(.ref b), (.ref y)] below meth c s₁ [] 0 0 := Stand.of_body Bd
  have e0 : s₁.heap = h0 := by rw [← hh, Bd.state]; rfl
  have N0 := Fr.nil n0
  have K0 : Keep h0 h0 [] := Keep.refl _ _
  have r0 : GoTo p.tables e below s₁ (own_F_own_infl m b y) s₁ (mkF m 0 #[.val (.ref b), .val (.ref y)] []) := fun tt_ kk_ => castTop (own_ef_own_infl m b y) kk_
  obtain ⟨T1, X1, e1, st1⟩ := getS2 X0 hx hZ hown (host := "") (Or.inl (hw _ (List.mem_of_getElem? (i := 37) rfl))) Via.refl e0 (hp3.ext (O0.keep K0 all0).2) (g := (mkF m 0 #[.val (.ref b), .val (.ref y)] [])) rfl (hb hby own_d_jdk_68_method_71_code_0)
  obtain ⟨T2, X2, e2, st2⟩ := getF X1 hx hZ hown (host := "") (Or.inl (hw _ (List.mem_of_getElem? (i := 42) rfl))) Via.refl e1 hp1 (g := (mkF m 7 #[.val (.ref b), .val (.ref y)] [(.ref b)])) rfl rfl (hb hby own_d_jdk_68_method_71_code_7)
  obtain ⟨cq3, kq3, qa3, qb3, qc3⟩ := isOf hZ e2 hp0
  obtain ⟨_, _, ⟨T3, L3, k3, n3⟩, -, X3, ⟨Lc3, hQ3, l3, y3, z3⟩, st3⟩ := X2.virtualBack hx (y := (⟨"java/lang/String", "coder", "()B"⟩ : MethodName)) (z := (⟨"java/lang/String", "coder", "()B"⟩ : MethodName)) hown (mvT hZ (hw _ (List.mem_of_getElem? (i := 112) rfl))) (mvT hZ (hw _ (List.mem_of_getElem? (i := 96) rfl))) (notFace_of_selects (args := #[]) (mvT hZ (hw _ (List.mem_of_getElem? (i := 98) rfl)))) (mvT hZ (hw _ (List.mem_of_getElem? (i := 98) rfl))) (mvT hZ (hw _ (List.mem_of_getElem? (i := 97) rfl))) (by decide) (backOf (W := 1) (own_coder l Z a0 hw [] (y) (gCS) h0 n0 (O0.keep K0 all0) (hp2) (hp3) (hG1)) hZ (hw _ (List.mem_of_getElem? (i := 99) rfl)) (hw _ (List.mem_of_getElem? (i := 38) rfl)) (by decide) (by decide)) qa3 qc3 (g := (mkF m 11 #[.val (.ref b), .val (.ref y)] [(.ref y), (.int (0 : Int32))])) rfl (by rw [hml]; rfl) (Steps.refl _) (argsL := []) (rest := [(.int (0 : Int32))]) (lenOf own_pd8 rfl) rfl (by show 2 * 0 + _ ≤ _; exact Nat.le_of_eq rfl) (hb hby own_d_jdk_68_method_71_code_11) (fun _ _ => ⟨rfl, e2, (by decide : 0 + 0 ≤ _), (by decide : 0 + 0 ≤ _)⟩)
  dsimp only [Pt.U, Pt.locs, Pt.cells, Pt.slots] at X3 l3 y3 z3 st3 hQ3
  subst l3 y3 z3
  obtain ⟨rfl, Nq3, hh3⟩ := hQ3
  have N3 := Fr.app N0 Nq3
  obtain ⟨fs, hr, hrun, hended, hW, hsame⟩ := X3.leave (v := none) (fun _ => rfl)
  refine ⟨_, _, r0 _ ?_, hrun, hended, _, _, rfl, ?_, ⟨_, rfl⟩, hW, hsame.mono (by decide) (by decide)⟩
  · show Steps p.tables e below (s₁.setTop (mkF m 0 #[.val (.ref b), .val (.ref y)] [])) _
    refine st1 _ ?_
    show Steps p.tables e below (T1.setTop (mkF m 3 #[.val (.ref b), .val (.ref y)] [(.int gCS)])) _
    refine XS.ifNo X1.here hx rfl (hb hby own_d_jdk_68_method_71_code_3) rfl ((if0 _ _).trans (feq hG1).1) ?_
    show Steps p.tables e below (T1.setTop (mkF m 6 #[.val (.ref b), .val (.ref y)] [])) _
    refine XS.aloadN X1.here hx rfl (hb hby own_d_jdk_68_method_71_code_6) rfl rfl ?_
    show Steps p.tables e below (T1.setTop (mkF m 7 #[.val (.ref b), .val (.ref y)] [(.ref b)])) _
    refine st2 _ ?_
    show Steps p.tables e below (T2.setTop (mkF m 10 #[.val (.ref b), .val (.ref y)] [(.int (0 : Int32))])) _
    refine XS.aloadN X2.here hx rfl (hb hby own_d_jdk_68_method_71_code_10) rfl rfl ?_
    show Steps p.tables e below (T2.setTop (mkF m 11 #[.val (.ref b), .val (.ref y)] [(.ref y), (.int (0 : Int32))])) _
    refine st3.trans ?_
    show Steps p.tables e below (T3.setTop (mkF m 14 #[.val (.ref b), .val (.ref y)] [(.int (0 : Int32)), (.int (0 : Int32))])) _
    refine XS.icmpYes X3.here hx rfl (pc0 := 14) (pc' := 21) rfl (hb hby own_d_jdk_68_method_71_code_14) rfl (teq rfl).1 (by decide) (by decide) ?_
    show Steps p.tables e below (T3.setTop (mkF m 21 #[.val (.ref b), .val (.ref y)] [])) _
    exact X3.returnOut hx Bd.returns (hb hby own_d_jdk_68_method_71_code_21) hr
  · show Q_own_infl Z b y gCS h0 n0 _ T3.heap _
    rw [hh3]
    exact ⟨rfl, N3, rfl⟩
theorem own_pn_own_getBytes : plainName "java/lang/String" = true := by first | (simp [plainName, overriddenIn]; done) | decide +kernel
theorem own_ef_own_getBytes (m : MethodId) (y : Addr) (d : Addr) (cs : List Int32) : entryFrame m #[(.ref y), (.ref d), (.int (Int32.ofNat cs.length)), (.int (0 : Int32))] 4 = mkF m 0 #[.val (.ref y), .val (.ref d), .val (.int (Int32.ofNat cs.length)), .val (.int (0 : Int32))] [] := by first | (simp [entryFrame, mkF, argsToLocals, own_cI, own_cJ, own_cR, own_cN]; done) | rfl
abbrev own_F_own_getBytes (m : MethodId) (y : Addr) (d : Addr) (cs : List Int32) : JFrame := entryFrame m #[(.ref y), (.ref d), (.int (Int32.ofNat cs.length)), (.int (0 : Int32))] 4
def Q_own_getBytes (Z : State) (y : Addr) (ty : Addr) (ky : ClassId) (ds : List Int32) (d : Addr) (kd : ClassId) (N : Nat) (cs : List Int32) (gCS : Int32) (h0 : Heap) (n0 : Nat) (v : Option Value) (h : Heap) (L : List Loc) : Prop := v = none ∧ Fr n0 L ∧ Keep h0 h [d] ∧ (own_By Z h d kd N (cs ++ ds))
set_option maxRecDepth 65536 in
set_option maxHeartbeats 40000000 in
theorem own_getBytes (l : Launch) (Z : State) (a0 : Array Value) (hw : ∀ d ∈ tables_1, d.before a0 Z = true) (ws : List Jvm.Cond) (y : Addr) (ty : Addr) (ky : ClassId) (ds : List Int32) (d : Addr) (kd : ClassId) (N : Nat) (cs : List Int32) (gCS : Int32) (h0 : Heap) (n0 : Nat) (O0 : Old Z n0 h0) (hp0 : own_Str Z h0 y ty ky ds) (hp1 : own_By Z h0 d kd N cs) (hp2 : n0 ≤ d) (hp3 : ty ≠ d) (hfit : cs.length + ds.length ≤ N) (hp5 : Sta Z Z.heap "java/lang/String" "COMPACT_STRINGS" "Z" (.int gCS)) (hG1 : ¬ gCS = (0 : Int32)) :
    MetFree l (⟨"java/lang/String", "getBytes", "([BIB)V"⟩ : MethodName) (head1 (Jvm.Cond.code (⟨"java/lang/String", "getBytes", "([BIB)V"⟩ : MethodName) jdk_42_method_147_code 4 none :: ws) ({ frames := 1, cells := 0, slots := 0, locals := 18 } : Room)) (fun aa_ U_ => aa_ = #[(.ref y), (.ref d), (.int (Int32.ofNat cs.length)), (.int (0 : Int32))] ∧ Z.Warmed39 U_.vm ∧ U_.heap = h0) (fun _ _ _ _ _ => True) (fun _ U_ o_ V_ => ∃ v_ L_, o_ = .returned v_ ∧ Q_own_getBytes Z y ty ky ds d kd N cs gCS h0 n0 v_ V_.heap L_ ∧ FrameEnd U_ o_ V_ L_ ({ frames := 1, cells := 0, slots := 0, locals := 18 } : Room).cells ({ frames := 1, cells := 0, slots := 0, locals := 18 } : Room).slots) := by
  refine MetFree.of_bodySF (plainFor_of_name own_pn_own_getBytes) hisR ?_
  intro p e s m args below meth c s₁ Bd hml0 hP hK
  obtain ⟨rfl, hZ, hh⟩ := hP
  have hx := Bd.exec
  have hby := Bd.bytes
  have hml : c.maxLocals = 4 := hml0
  have hown : s.vm.findClass "java/lang/String" = some m.cls := findClass_of_methodNamed Bd.named
  have hnm := (name_of_methodNamed Bd.named Bd.method).1
  have X0 : Stand p l e ({ frames := 1, cells := 0, slots := 0, locals := 18 } : Room) s m #[(.ref y), (.ref d), (.int (Int32.ofNat cs.length)), (.int (0 : Int32))] below meth c s₁ [] 0 0 := Stand.of_body Bd
  have e0 : s₁.heap = h0 := by rw [← hh, Bd.state]; rfl
  have N0 := Fr.nil n0
  have K0 : Keep h0 h0 [d] := Keep.refl _ _
  have r0 : GoTo p.tables e below s₁ (own_F_own_getBytes m y d cs) s₁ (mkF m 0 #[.val (.ref y), .val (.ref d), .val (.int (Int32.ofNat cs.length)), .val (.int (0 : Int32))] []) := fun tt_ kk_ => castTop (own_ef_own_getBytes m y d cs) kk_
  obtain ⟨vs1, hvl1, hva1, hvc1⟩ := own_By.arv hp1
  have hN6 := hp1.2.2.1
  have hc6 : cs.length ≤ 1000000 := by omega
  have hd6 : ds.length ≤ 1000000 := by omega
  obtain ⟨cq2, kq2, qa2, qb2, qc2⟩ := isOf hZ e0 hp0.1
  obtain ⟨_, _, ⟨T2, L2, k2, n2⟩, -, X2, ⟨Lc2, hQ2, l2, y2, z2⟩, st2⟩ := X0.virtualBack hx (y := (⟨"java/lang/String", "coder", "()B"⟩ : MethodName)) (z := (⟨"java/lang/String", "coder", "()B"⟩ : MethodName)) hown (mvT hZ (hw _ (List.mem_of_getElem? (i := 95) rfl))) (mvT hZ (hw _ (List.mem_of_getElem? (i := 96) rfl))) (notFace_of_selects (args := #[]) (mvT hZ (hw _ (List.mem_of_getElem? (i := 98) rfl)))) (mvT hZ (hw _ (List.mem_of_getElem? (i := 98) rfl))) (mvT hZ (hw _ (List.mem_of_getElem? (i := 97) rfl))) (by decide) (backOf (W := 0) (own_coder l Z a0 hw [] (y) (gCS) h0 n0 (O0.keep K0 (allS hp2 all0)) (hp0.2.2.1) (hp5) (hG1)) hZ (hw _ (List.mem_of_getElem? (i := 99) rfl)) (hw _ (List.mem_of_getElem? (i := 38) rfl)) (by decide) (by decide)) qa2 qc2 (g := (mkF m 1 #[.val (.ref y), .val (.ref d), .val (.int (Int32.ofNat cs.length)), .val (.int (0 : Int32))] [(.ref y)])) rfl (by rw [hml]; rfl) (Steps.refl _) (argsL := []) (rest := []) (lenOf own_pd8 rfl) rfl (by show 2 * 0 + _ ≤ _; exact Nat.le_of_eq rfl) (hb hby own_d_jdk_42_method_147_code_1) (fun _ _ => ⟨rfl, e0, (by decide : 0 + 0 ≤ _), (by decide : 0 + 0 ≤ _)⟩)
  dsimp only [Pt.U, Pt.locs, Pt.cells, Pt.slots] at X2 l2 y2 z2 st2 hQ2
  subst l2 y2 z2
  obtain ⟨rfl, Nq2, hh2⟩ := hQ2
  have N2 := Fr.app N0 Nq2
  obtain ⟨T3, X3, e3, st3⟩ := getF X2 hx hZ hown (host := "") (Or.inl (hw _ (List.mem_of_getElem? (i := 94) rfl))) Via.refl hh2 hp0.2.1 (g := (mkF m 9 #[.val (.ref y), .val (.ref d), .val (.int (Int32.ofNat cs.length)), .val (.int (0 : Int32))] [(.ref y)])) rfl rfl (hb hby own_d_jdk_42_method_147_code_9)
  have r4 : GoTo p.tables e below s₁ (own_F_own_getBytes m y d cs) T3 (mkF m 17 #[.val (.ref y), .val (.ref d), .val (.int (Int32.ofNat cs.length)), .val (.int (0 : Int32))] [(.int ((Int32.ofNat cs.length) <<< ((0 : Int32) &&& 31))), (.ref d), (.int (0 : Int32)), (.ref ty)]) := fun tt_ kk_ => r0 tt_ (by
      show Steps p.tables e below (s₁.setTop (mkF m 0 #[.val (.ref y), .val (.ref d), .val (.int (Int32.ofNat cs.length)), .val (.int (0 : Int32))] [])) _
      refine XS.aloadN X0.here hx rfl (hb hby own_d_jdk_42_method_147_code_0) rfl rfl ?_
      show Steps p.tables e below (s₁.setTop (mkF m 1 #[.val (.ref y), .val (.ref d), .val (.int (Int32.ofNat cs.length)), .val (.int (0 : Int32))] [(.ref y)])) _
      refine st2.trans ?_
      show Steps p.tables e below (T2.setTop (mkF m 4 #[.val (.ref y), .val (.ref d), .val (.int (Int32.ofNat cs.length)), .val (.int (0 : Int32))] [(.int (0 : Int32))])) _
      refine XS.iloadN X2.here hx rfl (hb hby own_d_jdk_42_method_147_code_4) rfl ?_
      show Steps p.tables e below (T2.setTop (mkF m 5 #[.val (.ref y), .val (.ref d), .val (.int (Int32.ofNat cs.length)), .val (.int (0 : Int32))] [(.int (0 : Int32)), (.int (0 : Int32))])) _
      refine XS.icmpNo X2.here hx rfl (hb hby own_d_jdk_42_method_147_code_5) rfl (teq rfl).2 ?_
      show Steps p.tables e below (T2.setTop (mkF m 8 #[.val (.ref y), .val (.ref d), .val (.int (Int32.ofNat cs.length)), .val (.int (0 : Int32))] [])) _
      refine XS.aloadN X2.here hx rfl (hb hby own_d_jdk_42_method_147_code_8) rfl rfl ?_
      show Steps p.tables e below (T2.setTop (mkF m 9 #[.val (.ref y), .val (.ref d), .val (.int (Int32.ofNat cs.length)), .val (.int (0 : Int32))] [(.ref y)])) _
      refine st3 _ ?_
      show Steps p.tables e below (T3.setTop (mkF m 12 #[.val (.ref y), .val (.ref d), .val (.int (Int32.ofNat cs.length)), .val (.int (0 : Int32))] [(.ref ty)])) _
      refine XS.iconst X3.here hx rfl (hb hby own_d_jdk_42_method_147_code_12) ?_
      show Steps p.tables e below (T3.setTop (mkF m 13 #[.val (.ref y), .val (.ref d), .val (.int (Int32.ofNat cs.length)), .val (.int (0 : Int32))] [(.int (0 : Int32)), (.ref ty)])) _
      refine XS.aloadN X3.here hx rfl (hb hby own_d_jdk_42_method_147_code_13) rfl rfl ?_
      show Steps p.tables e below (T3.setTop (mkF m 14 #[.val (.ref y), .val (.ref d), .val (.int (Int32.ofNat cs.length)), .val (.int (0 : Int32))] [(.ref d), (.int (0 : Int32)), (.ref ty)])) _
      refine XS.iloadN X3.here hx rfl (hb hby own_d_jdk_42_method_147_code_14) rfl ?_
      show Steps p.tables e below (T3.setTop (mkF m 15 #[.val (.ref y), .val (.ref d), .val (.int (Int32.ofNat cs.length)), .val (.int (0 : Int32))] [(.int (Int32.ofNat cs.length)), (.ref d), (.int (0 : Int32)), (.ref ty)])) _
      refine XS.iloadN X3.here hx rfl (hb hby own_d_jdk_42_method_147_code_15) rfl ?_
      show Steps p.tables e below (T3.setTop (mkF m 16 #[.val (.ref y), .val (.ref d), .val (.int (Int32.ofNat cs.length)), .val (.int (0 : Int32))] [(.int (0 : Int32)), (.int (Int32.ofNat cs.length)), (.ref d), (.int (0 : Int32)), (.ref ty)])) _
      refine XS.ishl X3.here hx rfl (hb hby own_d_jdk_42_method_147_code_16) rfl ?_
      show Steps p.tables e below (T3.setTop (mkF m 17 #[.val (.ref y), .val (.ref d), .val (.int (Int32.ofNat cs.length)), .val (.int (0 : Int32))] [(.int ((Int32.ofNat cs.length) <<< ((0 : Int32) &&& 31))), (.ref d), (.int (0 : Int32)), (.ref ty)])) _
      exact kk_)
  have r5 : GoTo p.tables e below s₁ (own_F_own_getBytes m y d cs) T3 (mkF m 17 #[.val (.ref y), .val (.ref d), .val (.int (Int32.ofNat cs.length)), .val (.int (0 : Int32))] [(.int (Int32.ofNat cs.length)), (.ref d), (.int (0 : Int32)), (.ref ty)]) := Eq.mp (congrArg (fun zz_ => GoTo p.tables e below s₁ (own_F_own_getBytes m y d cs) T3 (mkF m 17 #[.val (.ref y), .val (.ref d), .val (.int (Int32.ofNat cs.length)), .val (.int (0 : Int32))] [(.int zz_), (.ref d), (.int (0 : Int32)), (.ref ty)])) (show ((Int32.ofNat cs.length) <<< ((0 : Int32) &&& 31)) = (Int32.ofNat cs.length) from own_shl0 _)) r4
  obtain ⟨T6, X6, e6, st6⟩ := getF X3 hx hZ hown (host := "") (Or.inl (hw _ (List.mem_of_getElem? (i := 94) rfl))) Via.refl e3 hp0.2.1 (g := (mkF m 18 #[.val (.ref y), .val (.ref d), .val (.int (Int32.ofNat cs.length)), .val (.int (0 : Int32))] [(.ref y), (.int (Int32.ofNat cs.length)), (.ref d), (.int (0 : Int32)), (.ref ty)])) rfl rfl (hb hby own_d_jdk_42_method_147_code_18)
  obtain ⟨cl7, Ar7, q7, S7, NN7, H7, G7⟩ := id hp0.2.2.2.1
  obtain ⟨us8, hus8⟩ : ∃ us : List Value, us = (List.range ds.length).map fun i => (((ds.map fun c => c.toInt8.toInt32).map Value.int)).getD (0 + i) (.int 0) := ⟨_, rfl⟩
  obtain ⟨T8, h8, L8, X8, e8, N8, Kc8, V8, st8⟩ := cpA X6 hx hZ hown (hw _ (List.mem_of_getElem? (i := 118) rfl)) (hw _ (List.mem_of_getElem? (i := 121) rfl)) (hw _ (List.mem_of_getElem? (i := 119) rfl)) (hw _ (List.mem_of_getElem? (i := 120) rfl)) e6 (us := us8) hp0.2.2.2.1 hva1 (Or.inl ⟨rfl, rfl⟩) (own_negN (by decide : (0 : Nat) ≤ 1000000)) (own_negN hc6) (own_negN hd6) (by have q0 : (Int32.ofNat 0).toNatClampNeg = 0 := rfl; have q0' : (0 : Int32).toNatClampNeg = 0 := rfl; have q1 := own_clamp hd6; (try simp only [List.length_replicate]); omega) (by have q0 : (Int32.ofNat 0).toNatClampNeg = 0 := rfl; have q0' : (0 : Int32).toNatClampNeg = 0 := rfl; have q1 := own_clamp hc6; have q2 := own_clamp hd6; have q3 := own_clamp hN6; (try simp only [List.length_replicate]); omega) (by rw [own_clamp hd6, own_clamp (by decide : (0 : Nat) ≤ 1000000)]; exact hus8) (by have q0 : (Int32.ofNat 0).toNatClampNeg = 0 := rfl; have q0' : (0 : Int32).toNatClampNeg = 0 := rfl; have q1 := own_clamp hc6; have q2 := own_clamp hd6; have qv := hvl1; (try simp only [List.length_replicate]); omega) N2 hp2 (g := (mkF m 22 #[.val (.ref y), .val (.ref d), .val (.int (Int32.ofNat cs.length)), .val (.int (0 : Int32))] [(.int (Int32.ofNat ds.length)), (.int (Int32.ofNat cs.length)), (.ref d), (.int (0 : Int32)), (.ref ty)])) rfl (by rw [hml]; rfl) rfl (hb hby own_d_jdk_42_method_147_code_22) (by decide) (W := 0) (by show 2 * 0 + _ ≤ _; exact Nat.le_of_eq rfl) (by decide)
  rw [own_clamp hc6, own_clamp hd6] at V8
  have K9 : Keep h0 h8 [d] := K0.trans Kc8 (allS (Or.inl (List.mem_of_getElem? (i := 0) rfl)) all0)
  have f10 : Exa Z h8 d "[B" := (hp1.1.keep Kc8)
  obtain ⟨fs, hr, hrun, hended, hW, hsame⟩ := X8.leave (v := none) (fun _ => rfl)
  refine ⟨_, _, r5 _ ?_, hrun, hended, _, _, rfl, ?_, ⟨_, rfl⟩, hW, hsame.mono (by decide) (by decide)⟩
  · show Steps p.tables e below (T3.setTop (mkF m 17 #[.val (.ref y), .val (.ref d), .val (.int (Int32.ofNat cs.length)), .val (.int (0 : Int32))] [(.int (Int32.ofNat cs.length)), (.ref d), (.int (0 : Int32)), (.ref ty)])) _
    refine XS.aloadN X3.here hx rfl (hb hby own_d_jdk_42_method_147_code_17) rfl rfl ?_
    show Steps p.tables e below (T3.setTop (mkF m 18 #[.val (.ref y), .val (.ref d), .val (.int (Int32.ofNat cs.length)), .val (.int (0 : Int32))] [(.ref y), (.int (Int32.ofNat cs.length)), (.ref d), (.int (0 : Int32)), (.ref ty)])) _
    refine st6 _ ?_
    show Steps p.tables e below (T6.setTop (mkF m 21 #[.val (.ref y), .val (.ref d), .val (.int (Int32.ofNat cs.length)), .val (.int (0 : Int32))] [(.ref ty), (.int (Int32.ofNat cs.length)), (.ref d), (.int (0 : Int32)), (.ref ty)])) _
    refine X6.arraylength hx (by rw [e6]; exact Ar7.1) (State.isArrayOf_alike hZ.alike Ar7.2.1) (g := (mkF m 21 #[.val (.ref y), .val (.ref d), .val (.int (Int32.ofNat cs.length)), .val (.int (0 : Int32))] [(.ref ty), (.int (Int32.ofNat cs.length)), (.ref d), (.int (0 : Int32)), (.ref ty)])) rfl rfl (hb hby own_d_jdk_42_method_147_code_21) _ ?_
    rw [len_of S7 NN7]
    show Steps p.tables e below (T6.setTop (mkF m 22 #[.val (.ref y), .val (.ref d), .val (.int (Int32.ofNat cs.length)), .val (.int (0 : Int32))] [(.int (Int32.ofNat ds.length)), (.int (Int32.ofNat cs.length)), (.ref d), (.int (0 : Int32)), (.ref ty)])) _
    refine st8 _ ?_
    show Steps p.tables e below (T8.setTop (mkF m 25 #[.val (.ref y), .val (.ref d), .val (.int (Int32.ofNat cs.length)), .val (.int (0 : Int32))] [])) _
    refine XS.goto X8.here hx rfl (pc0 := 25) (pc' := 43) rfl (hb hby own_d_jdk_42_method_147_code_25) (by decide) (by decide) ?_
    show Steps p.tables e below (T8.setTop (mkF m 43 #[.val (.ref y), .val (.ref d), .val (.int (Int32.ofNat cs.length)), .val (.int (0 : Int32))] [])) _
    exact X8.returnOut hx Bd.returns (hb hby own_d_jdk_42_method_147_code_43) hr
  · show Q_own_getBytes Z y ty ky ds d kd N cs gCS h0 n0 _ T8.heap _
    rw [e8]
    exact ⟨rfl, N8, K9, own_By.app f10 hN6 hvl1 hfit rfl hus8 hvc1 (own_map_getD ds) V8⟩
theorem own_pn_own_put : plainName "java/lang/AbstractStringBuilder" = true := by first | (simp [plainName, overriddenIn]; done) | decide +kernel
theorem own_ef_own_put (m : MethodId) (b : Addr) (cs : List Int32) (y : Addr) : entryFrame m #[(.ref b), (.int (Int32.ofNat cs.length)), (.ref y)] 3 = mkF m 0 #[.val (.ref b), .val (.int (Int32.ofNat cs.length)), .val (.ref y)] [] := by first | (simp [entryFrame, mkF, argsToLocals, own_cI, own_cJ, own_cR, own_cN]; done) | rfl
abbrev own_F_own_put (m : MethodId) (b : Addr) (cs : List Int32) (y : Addr) : JFrame := entryFrame m #[(.ref b), (.int (Int32.ofNat cs.length)), (.ref y)] 3
def Q_own_put (Z : State) (b : Addr) (d : Addr) (kd : ClassId) (N : Nat) (cs : List Int32) (y : Addr) (ty : Addr) (ky : ClassId) (ds : List Int32) (gCS : Int32) (h0 : Heap) (n0 : Nat) (v : Option Value) (h : Heap) (L : List Loc) : Prop := v = none ∧ Fr n0 L ∧ Keep h0 h [d] ∧ (own_By Z h d kd N (cs ++ ds))
set_option maxRecDepth 65536 in
set_option maxHeartbeats 40000000 in
theorem own_put (l : Launch) (Z : State) (a0 : Array Value) (hw : ∀ d ∈ tables_1, d.before a0 Z = true) (ws : List Jvm.Cond) (b : Addr) (d : Addr) (kd : ClassId) (N : Nat) (cs : List Int32) (y : Addr) (ty : Addr) (ky : ClassId) (ds : List Int32) (gCS : Int32) (h0 : Heap) (n0 : Nat) (O0 : Old Z n0 h0) (hp0 : Exa Z h0 b "java/lang/StringBuilder") (hp1 : Fld Z h0 b "java/lang/AbstractStringBuilder" "value" "[B" (.ref d)) (hp2 : Fld Z h0 b "java/lang/AbstractStringBuilder" "coder" "B" (.int (0 : Int32))) (hp3 : own_By Z h0 d kd N cs) (hp4 : own_Str Z h0 y ty ky ds) (hp5 : n0 ≤ d) (hp6 : ty ≠ d) (hfit : cs.length + ds.length ≤ N) (hp8 : Sta Z Z.heap "java/lang/String" "COMPACT_STRINGS" "Z" (.int gCS)) (hG1 : ¬ gCS = (0 : Int32)) :
    MetFree l (⟨"java/lang/AbstractStringBuilder", "putStringAt", "(ILjava/lang/String;)V"⟩ : MethodName) (head1 (Jvm.Cond.code (⟨"java/lang/AbstractStringBuilder", "putStringAt", "(ILjava/lang/String;)V"⟩ : MethodName) jdk_68_method_73_code 3 none :: ws) ({ frames := 2, cells := 0, slots := 0, locals := 33 } : Room)) (fun aa_ U_ => aa_ = #[(.ref b), (.int (Int32.ofNat cs.length)), (.ref y)] ∧ Z.Warmed39 U_.vm ∧ U_.heap = h0) (fun _ _ _ _ _ => True) (fun _ U_ o_ V_ => ∃ v_ L_, o_ = .returned v_ ∧ Q_own_put Z b d kd N cs y ty ky ds gCS h0 n0 v_ V_.heap L_ ∧ FrameEnd U_ o_ V_ L_ ({ frames := 2, cells := 0, slots := 0, locals := 33 } : Room).cells ({ frames := 2, cells := 0, slots := 0, locals := 33 } : Room).slots) := by
  refine MetFree.of_bodySF (plainFor_of_name own_pn_own_put) hisR ?_
  intro p e s m args below meth c s₁ Bd hml0 hP hK
  obtain ⟨rfl, hZ, hh⟩ := hP
  have hx := Bd.exec
  have hby := Bd.bytes
  have hml : c.maxLocals = 3 := hml0
  have hown : s.vm.findClass "java/lang/AbstractStringBuilder" = some m.cls := findClass_of_methodNamed Bd.named
  have hnm := (name_of_methodNamed Bd.named Bd.method).1
  have X0 : Stand p l e ({ frames := 2, cells := 0, slots := 0, locals := 33 } : Room) s m #[(.ref b), (.int (Int32.ofNat cs.length)), (.ref y)] below meth c s₁ [] 0 0 := Stand.of_body Bd
  have e0 : s₁.heap = h0 := by rw [← hh, Bd.state]; rfl
  have N0 := Fr.nil n0
  have K0 : Keep h0 h0 [d] := Keep.refl _ _
  have r0 : GoTo p.tables e below s₁ (own_F_own_put m b cs y) s₁ (mkF m 0 #[.val (.ref b), .val (.int (Int32.ofNat cs.length)), .val (.ref y)] []) := fun tt_ kk_ => castTop (own_ef_own_put m b cs y) kk_
  obtain ⟨cq1, qa1, qb1⟩ := hp0.cell
  obtain ⟨_, _, ⟨T1, L1, k1, n1⟩, -, X1, ⟨Lc1, hQ1, l1, y1, z1⟩, st1⟩ := X0.privateBack hx (y := (⟨"java/lang/AbstractStringBuilder", "inflateIfNeededFor", "(Ljava/lang/String;)V"⟩ : MethodName)) hown (mvT hZ (hw _ (List.mem_of_getElem? (i := 107) rfl))) (mvT hZ (hw _ (List.mem_of_getElem? (i := 108) rfl))) (own_selfSel (mvT hZ (hw _ (List.mem_of_getElem? (i := 110) rfl))) (Cond.privateMethod_at (mvP hZ (hw _ (List.mem_of_getElem? (i := 109) rfl)) (args := #[]))) (mvT hZ (hw _ (List.mem_of_getElem? (i := 108) rfl))) (by decide)) (Cond.privateMethod_at (mvP hZ (hw _ (List.mem_of_getElem? (i := 109) rfl)) (args := #[]))) (mvT hZ (hw _ (List.mem_of_getElem? (i := 111) rfl))) (by decide) (backOf (W := 0) (own_infl l Z a0 hw [] (b) (y) (gCS) h0 n0 (O0.keep K0 (allS hp5 all0)) (hp4.1) (hp2) (hp4.2.2.1) (hp8) (hG1)) hZ (hw _ (List.mem_of_getElem? (i := 111) rfl)) (hw _ (List.mem_of_getElem? (i := 34) rfl)) (by decide) (by decide)) (g := (mkF m 2 #[.val (.ref b), .val (.int (Int32.ofNat cs.length)), .val (.ref y)] [(.ref y), (.ref b)])) rfl (by rw [hml]; rfl) (Steps.refl _) (a := b) (by rw [e0]; exact qa1) qb1 (argsL := [(.ref y)]) (rest := []) (lenOf own_pd12 rfl) rfl (by show 2 * 0 + _ ≤ _; exact Nat.le_of_eq rfl) (hb hby own_d_jdk_68_method_73_code_2) (fun _ _ => ⟨rfl, e0, (by decide : 0 + 0 ≤ _), (by decide : 0 + 0 ≤ _)⟩)
  dsimp only [Pt.U, Pt.locs, Pt.cells, Pt.slots] at X1 l1 y1 z1 st1 hQ1
  subst l1 y1 z1
  obtain ⟨rfl, Nq1, hh1⟩ := hQ1
  have N1 := Fr.app N0 Nq1
  obtain ⟨T2, X2, e2, st2⟩ := getF X1 hx hZ hown (host := "") (Or.inl (hw _ (List.mem_of_getElem? (i := 40) rfl))) Via.refl hh1 hp1 (g := (mkF m 7 #[.val (.ref b), .val (.int (Int32.ofNat cs.length)), .val (.ref y)] [(.ref b), (.ref y)])) rfl rfl (hb hby own_d_jdk_68_method_73_code_7)
  obtain ⟨T3, X3, e3, st3⟩ := getF X2 hx hZ hown (host := "") (Or.inl (hw _ (List.mem_of_getElem? (i := 42) rfl))) Via.refl e2 hp2 (g := (mkF m 12 #[.val (.ref b), .val (.int (Int32.ofNat cs.length)), .val (.ref y)] [(.ref b), (.int (Int32.ofNat cs.length)), (.ref d), (.ref y)])) rfl rfl (hb hby own_d_jdk_68_method_73_code_12)
  obtain ⟨cq4, kq4, qa4, qb4, qc4⟩ := isOf hZ e3 hp4.1
  obtain ⟨_, _, ⟨T4, L4, k4, n4⟩, -, X4, ⟨Lc4, hQ4, l4, y4, z4⟩, st4⟩ := X3.virtualBack hx (y := (⟨"java/lang/String", "getBytes", "([BIB)V"⟩ : MethodName)) (z := (⟨"java/lang/String", "getBytes", "([BIB)V"⟩ : MethodName)) hown (mvT hZ (hw _ (List.mem_of_getElem? (i := 113) rfl))) (mvT hZ (hw _ (List.mem_of_getElem? (i := 114) rfl))) (notFace_of_selects (args := #[]) (mvT hZ (hw _ (List.mem_of_getElem? (i := 116) rfl)))) (mvT hZ (hw _ (List.mem_of_getElem? (i := 116) rfl))) (mvT hZ (hw _ (List.mem_of_getElem? (i := 115) rfl))) (by decide) (backOf (W := 0) (own_getBytes l Z a0 hw [] (y) (ty) (ky) (ds) (d) (kd) (N) (cs) (gCS) h0 n0 (O0.keep K0 (allS hp5 all0)) (hp4) (hp3) (hp5) (hp6) (hfit) (hp8) (hG1)) hZ (hw _ (List.mem_of_getElem? (i := 117) rfl)) (hw _ (List.mem_of_getElem? (i := 38) rfl)) (by decide) (by decide)) qa4 qc4 (g := (mkF m 15 #[.val (.ref b), .val (.int (Int32.ofNat cs.length)), .val (.ref y)] [(.int (0 : Int32)), (.int (Int32.ofNat cs.length)), (.ref d), (.ref y)])) rfl (by rw [hml]; rfl) (Steps.refl _) (argsL := [(.ref d), (.int (Int32.ofNat cs.length)), (.int (0 : Int32))]) (rest := []) (lenOf own_pd13 rfl) rfl (by show 2 * 0 + _ ≤ _; exact Nat.le_of_eq rfl) (hb hby own_d_jdk_68_method_73_code_15) (fun _ _ => ⟨rfl, e3, (by decide : 0 + 0 ≤ _), (by decide : 0 + 0 ≤ _)⟩)
  dsimp only [Pt.U, Pt.locs, Pt.cells, Pt.slots] at X4 l4 y4 z4 st4 hQ4
  subst l4 y4 z4
  obtain ⟨rfl, Nq4, Kq4, po4_0⟩ := hQ4
  have N4 := Fr.app N1 Nq4
  have K5 : Keep h0 T4.heap [d] := K0.trans Kq4 (allS (Or.inl (List.mem_of_getElem? (i := 0) rfl)) all0)
  obtain ⟨fs, hr, hrun, hended, hW, hsame⟩ := X4.leave (v := none) (fun _ => rfl)
  refine ⟨_, _, r0 _ ?_, hrun, hended, _, _, rfl, ?_, ⟨_, rfl⟩, hW, hsame.mono (by decide) (by decide)⟩
  · show Steps p.tables e below (s₁.setTop (mkF m 0 #[.val (.ref b), .val (.int (Int32.ofNat cs.length)), .val (.ref y)] [])) _
    refine XS.aloadN X0.here hx rfl (hb hby own_d_jdk_68_method_73_code_0) rfl rfl ?_
    show Steps p.tables e below (s₁.setTop (mkF m 1 #[.val (.ref b), .val (.int (Int32.ofNat cs.length)), .val (.ref y)] [(.ref b)])) _
    refine XS.aloadN X0.here hx rfl (hb hby own_d_jdk_68_method_73_code_1) rfl rfl ?_
    show Steps p.tables e below (s₁.setTop (mkF m 2 #[.val (.ref b), .val (.int (Int32.ofNat cs.length)), .val (.ref y)] [(.ref y), (.ref b)])) _
    refine st1.trans ?_
    show Steps p.tables e below (T1.setTop (mkF m 5 #[.val (.ref b), .val (.int (Int32.ofNat cs.length)), .val (.ref y)] [])) _
    refine XS.aloadN X1.here hx rfl (hb hby own_d_jdk_68_method_73_code_5) rfl rfl ?_
    show Steps p.tables e below (T1.setTop (mkF m 6 #[.val (.ref b), .val (.int (Int32.ofNat cs.length)), .val (.ref y)] [(.ref y)])) _
    refine XS.aloadN X1.here hx rfl (hb hby own_d_jdk_68_method_73_code_6) rfl rfl ?_
    show Steps p.tables e below (T1.setTop (mkF m 7 #[.val (.ref b), .val (.int (Int32.ofNat cs.length)), .val (.ref y)] [(.ref b), (.ref y)])) _
    refine st2 _ ?_
    show Steps p.tables e below (T2.setTop (mkF m 10 #[.val (.ref b), .val (.int (Int32.ofNat cs.length)), .val (.ref y)] [(.ref d), (.ref y)])) _
    refine XS.iloadN X2.here hx rfl (hb hby own_d_jdk_68_method_73_code_10) rfl ?_
    show Steps p.tables e below (T2.setTop (mkF m 11 #[.val (.ref b), .val (.int (Int32.ofNat cs.length)), .val (.ref y)] [(.int (Int32.ofNat cs.length)), (.ref d), (.ref y)])) _
    refine XS.aloadN X2.here hx rfl (hb hby own_d_jdk_68_method_73_code_11) rfl rfl ?_
    show Steps p.tables e below (T2.setTop (mkF m 12 #[.val (.ref b), .val (.int (Int32.ofNat cs.length)), .val (.ref y)] [(.ref b), (.int (Int32.ofNat cs.length)), (.ref d), (.ref y)])) _
    refine st3 _ ?_
    show Steps p.tables e below (T3.setTop (mkF m 15 #[.val (.ref b), .val (.int (Int32.ofNat cs.length)), .val (.ref y)] [(.int (0 : Int32)), (.int (Int32.ofNat cs.length)), (.ref d), (.ref y)])) _
    refine st4.trans ?_
    show Steps p.tables e below (T4.setTop (mkF m 18 #[.val (.ref b), .val (.int (Int32.ofNat cs.length)), .val (.ref y)] [])) _
    exact X4.returnOut hx Bd.returns (hb hby own_d_jdk_68_method_73_code_18) hr
  · show Q_own_put Z b d kd N cs y ty ky ds gCS h0 n0 _ T4.heap _
    exact ⟨rfl, N4, K5, po4_0⟩
theorem own_pn_own_aappS : plainName "java/lang/AbstractStringBuilder" = true := by first | (simp [plainName, overriddenIn]; done) | decide +kernel
theorem own_ef_own_aappS (m : MethodId) (b : Addr) (y : Addr) : entryFrame m #[(.ref b), (.ref y)] 3 = mkF m 0 #[.val (.ref b), .val (.ref y), .unset] [] := by first | (simp [entryFrame, mkF, argsToLocals, own_cI, own_cJ, own_cR, own_cN]; done) | rfl
abbrev own_F_own_aappS (m : MethodId) (b : Addr) (y : Addr) : JFrame := entryFrame m #[(.ref b), (.ref y)] 3
def Q_own_aappS (Z : State) (b : Addr) (d : Addr) (kd : ClassId) (N : Nat) (cs : List Int32) (y : Addr) (ty : Addr) (ky : ClassId) (ds : List Int32) (gCS : Int32) (h0 : Heap) (n0 : Nat) (v : Option Value) (h : Heap) (L : List Loc) : Prop := ∃ (d2 : Addr), ∃ (k2 : ClassId), ∃ (N2 : Nat), v = some (.ref b) ∧ Fr n0 L ∧ Keep h0 h [b, d] ∧ (d2 = d ∨ h0.size ≤ d2) ∧ (n0 ≤ d2) ∧ (own_SB Z h b d2 k2 N2 (cs ++ ds)) ∧ (N ≤ N2 ∧ (N2 = N ∨ N2 ≤ 200))
set_option maxRecDepth 65536 in
set_option maxHeartbeats 40000000 in
theorem own_aappS (l : Launch) (Z : State) (a0 : Array Value) (hw : ∀ d ∈ tables_1, d.before a0 Z = true) (ws : List Jvm.Cond) (b : Addr) (d : Addr) (kd : ClassId) (N : Nat) (cs : List Int32) (y : Addr) (ty : Addr) (ky : ClassId) (ds : List Int32) (gCS : Int32) (h0 : Heap) (n0 : Nat) (O0 : Old Z n0 h0) (hp0 : own_SB Z h0 b d kd N cs) (hp1 : n0 ≤ b) (hp2 : n0 ≤ d) (hp3 : own_Str Z h0 y ty ky ds) (hp4 : y ≠ b) (hp5 : y ≠ d) (hp6 : ty ≠ b) (hp7 : ty ≠ d) (hNp : 0 < N) (hcap : N < cs.length + ds.length → N + max (cs.length + ds.length - N) (N + 2) ≤ 200) (hNb : N ≤ 100000) (hp11 : Sta Z Z.heap "java/lang/String" "COMPACT_STRINGS" "Z" (.int gCS)) (hG1 : ¬ gCS = (0 : Int32)) :
    MetFree l (⟨"java/lang/AbstractStringBuilder", "append", "(Ljava/lang/String;)Ljava/lang/AbstractStringBuilder;"⟩ : MethodName) (head1 (Jvm.Cond.code (⟨"java/lang/AbstractStringBuilder", "append", "(Ljava/lang/String;)Ljava/lang/AbstractStringBuilder;"⟩ : MethodName) jdk_68_method_22_code 3 (some (.object "java/lang/AbstractStringBuilder")) :: ws) ({ frames := 4, cells := 1, slots := 200, locals := 62 } : Room)) (fun aa_ U_ => aa_ = #[(.ref b), (.ref y)] ∧ Z.Warmed39 U_.vm ∧ U_.heap = h0) (fun _ _ _ _ _ => True) (fun _ U_ o_ V_ => ∃ v_ L_, o_ = .returned v_ ∧ Q_own_aappS Z b d kd N cs y ty ky ds gCS h0 n0 v_ V_.heap L_ ∧ FrameEnd U_ o_ V_ L_ ({ frames := 4, cells := 1, slots := 200, locals := 62 } : Room).cells ({ frames := 4, cells := 1, slots := 200, locals := 62 } : Room).slots) := by
  refine MetFree.of_bodySF (plainFor_of_name own_pn_own_aappS) hisR ?_
  intro p e s m args below meth c s₁ Bd hml0 hP hK
  obtain ⟨rfl, hZ, hh⟩ := hP
  have hx := Bd.exec
  have hby := Bd.bytes
  have hml : c.maxLocals = 3 := hml0
  have hown : s.vm.findClass "java/lang/AbstractStringBuilder" = some m.cls := findClass_of_methodNamed Bd.named
  have hnm := (name_of_methodNamed Bd.named Bd.method).1
  have X0 : Stand p l e ({ frames := 4, cells := 1, slots := 200, locals := 62 } : Room) s m #[(.ref b), (.ref y)] below meth c s₁ [] 0 0 := Stand.of_body Bd
  have e0 : s₁.heap = h0 := by rw [← hh, Bd.state]; rfl
  have N0 := Fr.nil n0
  have K0 : Keep h0 h0 [b, d] := Keep.refl _ _
  have r0 : GoTo p.tables e below s₁ (own_F_own_aappS m b y) s₁ (mkF m 0 #[.val (.ref b), .val (.ref y), .unset] []) := fun tt_ kk_ => castTop (own_ef_own_aappS m b y) kk_
  have hcl := hp0.2.2.2.2.1.2.1
  have hdl := hp3.2.2.2.2.2
  obtain ⟨cq1, kq1, qa1, qb1, qc1⟩ := isOf hZ e0 hp3.1
  obtain ⟨_, _, ⟨T1, L1, k1, n1⟩, -, X1, ⟨Lc1, hQ1, l1, y1, z1⟩, st1⟩ := X0.virtualBack hx (y := (⟨"java/lang/String", "length", "()I"⟩ : MethodName)) (z := (⟨"java/lang/String", "length", "()I"⟩ : MethodName)) hown (mvT hZ (hw _ (List.mem_of_getElem? (i := 89) rfl))) (mvT hZ (hw _ (List.mem_of_getElem? (i := 90) rfl))) (notFace_of_selects (args := #[]) (mvT hZ (hw _ (List.mem_of_getElem? (i := 92) rfl)))) (mvT hZ (hw _ (List.mem_of_getElem? (i := 92) rfl))) (mvT hZ (hw _ (List.mem_of_getElem? (i := 91) rfl))) (by decide) (backOf (W := 0) (own_strlen l Z a0 hw [] (y) (ty) (ky) (ds) (gCS) h0 n0 (O0.keep K0 (allS hp1 (allS hp2 all0))) (hp3) (hp11) (hG1)) hZ (hw _ (List.mem_of_getElem? (i := 93) rfl)) (hw _ (List.mem_of_getElem? (i := 38) rfl)) (by decide) (by decide)) qa1 qc1 (g := (mkF m 10 #[.val (.ref b), .val (.ref y), .unset] [(.ref y)])) rfl (by rw [hml]; rfl) (Steps.refl _) (argsL := []) (rest := []) (lenOf own_pd14 rfl) rfl (by show 2 * 0 + _ ≤ _; exact Nat.le_of_eq rfl) (hb hby own_d_jdk_68_method_22_code_10) (fun _ _ => ⟨rfl, e0, (by decide : 0 + 0 ≤ _), (by decide : 0 + 0 ≤ _)⟩)
  dsimp only [Pt.U, Pt.locs, Pt.cells, Pt.slots] at X1 l1 y1 z1 st1 hQ1
  subst l1 y1 z1
  obtain ⟨rfl, Nq1, hh1⟩ := hQ1
  have N1 := Fr.app N0 Nq1
  obtain ⟨T2, X2, e2, st2⟩ := getF X1 hx hZ hown (host := "") (Or.inl (hw _ (List.mem_of_getElem? (i := 54) rfl))) Via.refl hh1 hp0.2.2.2.1 (g := (mkF m 16 #[.val (.ref b), .val (.ref y), .val (.int (Int32.ofNat ds.length))] [(.ref b), (.ref b)])) rfl rfl (hb hby own_d_jdk_68_method_22_code_16)
  have r3 : GoTo p.tables e below s₁ (own_F_own_aappS m b y) T2 (mkF m 21 #[.val (.ref b), .val (.ref y), .val (.int (Int32.ofNat ds.length))] [(.int ((Int32.ofNat cs.length) + (Int32.ofNat ds.length))), (.ref b)]) := fun tt_ kk_ => r0 tt_ (by
      show Steps p.tables e below (s₁.setTop (mkF m 0 #[.val (.ref b), .val (.ref y), .unset] [])) _
      refine XS.aloadN X0.here hx rfl (hb hby own_d_jdk_68_method_22_code_0) rfl rfl ?_
      show Steps p.tables e below (s₁.setTop (mkF m 1 #[.val (.ref b), .val (.ref y), .unset] [(.ref y)])) _
      refine XS.ifnonnullYes X0.here hx rfl (pc0 := 1) (pc' := 9) rfl (hb hby own_d_jdk_68_method_22_code_1) rfl (by decide) (by decide) ?_
      show Steps p.tables e below (s₁.setTop (mkF m 9 #[.val (.ref b), .val (.ref y), .unset] [])) _
      refine XS.aloadN X0.here hx rfl (hb hby own_d_jdk_68_method_22_code_9) rfl rfl ?_
      show Steps p.tables e below (s₁.setTop (mkF m 10 #[.val (.ref b), .val (.ref y), .unset] [(.ref y)])) _
      refine st1.trans ?_
      show Steps p.tables e below (T1.setTop (mkF m 13 #[.val (.ref b), .val (.ref y), .unset] [(.int (Int32.ofNat ds.length))])) _
      refine XS.istoreN X1.here hx rfl (hb hby own_d_jdk_68_method_22_code_13) rfl (l' := #[.val (.ref b), .val (.ref y), .val (.int (Int32.ofNat ds.length))]) rfl ?_
      show Steps p.tables e below (T1.setTop (mkF m 14 #[.val (.ref b), .val (.ref y), .val (.int (Int32.ofNat ds.length))] [])) _
      refine XS.aloadN X1.here hx rfl (hb hby own_d_jdk_68_method_22_code_14) rfl rfl ?_
      show Steps p.tables e below (T1.setTop (mkF m 15 #[.val (.ref b), .val (.ref y), .val (.int (Int32.ofNat ds.length))] [(.ref b)])) _
      refine XS.aloadN X1.here hx rfl (hb hby own_d_jdk_68_method_22_code_15) rfl rfl ?_
      show Steps p.tables e below (T1.setTop (mkF m 16 #[.val (.ref b), .val (.ref y), .val (.int (Int32.ofNat ds.length))] [(.ref b), (.ref b)])) _
      refine st2 _ ?_
      show Steps p.tables e below (T2.setTop (mkF m 19 #[.val (.ref b), .val (.ref y), .val (.int (Int32.ofNat ds.length))] [(.int (Int32.ofNat cs.length)), (.ref b)])) _
      refine XS.iloadN X2.here hx rfl (hb hby own_d_jdk_68_method_22_code_19) rfl ?_
      show Steps p.tables e below (T2.setTop (mkF m 20 #[.val (.ref b), .val (.ref y), .val (.int (Int32.ofNat ds.length))] [(.int (Int32.ofNat ds.length)), (.int (Int32.ofNat cs.length)), (.ref b)])) _
      refine XS.iadd X2.here hx rfl (hb hby own_d_jdk_68_method_22_code_20) rfl ?_
      show Steps p.tables e below (T2.setTop (mkF m 21 #[.val (.ref b), .val (.ref y), .val (.int (Int32.ofNat ds.length))] [(.int ((Int32.ofNat cs.length) + (Int32.ofNat ds.length))), (.ref b)])) _
      exact kk_)
  have r4 : GoTo p.tables e below s₁ (own_F_own_aappS m b y) T2 (mkF m 21 #[.val (.ref b), .val (.ref y), .val (.int (Int32.ofNat ds.length))] [(.int (Int32.ofNat (cs.length + ds.length))), (.ref b)]) := Eq.mp (congrArg (fun zz_ => GoTo p.tables e below s₁ (own_F_own_aappS m b y) T2 (mkF m 21 #[.val (.ref b), .val (.ref y), .val (.int (Int32.ofNat ds.length))] [(.int zz_), (.ref b)])) (show ((Int32.ofNat cs.length) + (Int32.ofNat ds.length)) = (Int32.ofNat (cs.length + ds.length)) from own_addN)) r3
  obtain ⟨cq5, qa5, qb5⟩ := hp0.1.cell
  obtain ⟨_, _, ⟨T5, L5, k5, n5⟩, -, X5, ⟨Lc5, hQ5, l5, y5, z5⟩, st5⟩ := X2.privateBack hx (y := (⟨"java/lang/AbstractStringBuilder", "ensureCapacityInternal", "(I)V"⟩ : MethodName)) hown (mvT hZ (hw _ (List.mem_of_getElem? (i := 60) rfl))) (mvT hZ (hw _ (List.mem_of_getElem? (i := 61) rfl))) (own_selfSel (mvT hZ (hw _ (List.mem_of_getElem? (i := 63) rfl))) (Cond.privateMethod_at (mvP hZ (hw _ (List.mem_of_getElem? (i := 62) rfl)) (args := #[]))) (mvT hZ (hw _ (List.mem_of_getElem? (i := 61) rfl))) (by decide)) (Cond.privateMethod_at (mvP hZ (hw _ (List.mem_of_getElem? (i := 62) rfl)) (args := #[]))) (mvT hZ (hw _ (List.mem_of_getElem? (i := 64) rfl))) (by decide) (backOf (W := 0) (own_ens l Z a0 hw [] (b) (d) (kd) (N) (cs) ((cs.length + ds.length)) h0 n0 (O0.keep K0 (allS hp1 (allS hp2 all0))) (hp0) (hp1) (hp2) (by omega) (hNp) (hcap) (hNb)) hZ (hw _ (List.mem_of_getElem? (i := 64) rfl)) (hw _ (List.mem_of_getElem? (i := 34) rfl)) (by decide) (by decide)) (g := (mkF m 21 #[.val (.ref b), .val (.ref y), .val (.int (Int32.ofNat ds.length))] [(.int (Int32.ofNat (cs.length + ds.length))), (.ref b)])) rfl (by rw [hml]; rfl) (Steps.refl _) (a := b) (by rw [e2]; exact qa5) qb5 (argsL := [(.int (Int32.ofNat (cs.length + ds.length)))]) (rest := []) (lenOf own_pd0 rfl) rfl (by show 2 * 0 + _ ≤ _; exact Nat.le_of_eq rfl) (hb hby own_d_jdk_68_method_22_code_21) (fun _ _ => ⟨rfl, e2, (by decide : 0 + 1 ≤ _), (by decide : 0 + 200 ≤ _)⟩)
  dsimp only [Pt.U, Pt.locs, Pt.cells, Pt.slots] at X5 l5 y5 z5 st5 hQ5
  subst l5 y5 z5
  obtain ⟨d2_5, k2_5, N2_5, rfl, Nq5, Kq5, po5_0, po5_1, po5_2, po5_3⟩ := hQ5
  have N5 := Fr.app N1 Nq5
  have ne6 : b ≠ d2_5 := own_orne po5_0 (ne_exa hp0.1 hp0.2.2.2.2.1.1 (by decide)) hp0.1.lt
  have ne7 : y ≠ d2_5 := own_orne po5_0 hp5 hp3.1.lt
  have ne8 : ty ≠ d2_5 := own_orne po5_0 hp7 hp3.2.2.2.1.lt
  have g9 : n0 ≤ d2_5 := own_orle po5_0 hp2 (Nat.le_trans (own_le O0) K0.1)
  have K10 : Keep h0 T5.heap [b, d] := K0.trans Kq5 (allS (Or.inl (List.mem_of_getElem? (i := 0) rfl)) all0)
  obtain ⟨hm1, hm2, hm3⟩ := po5_3
  obtain ⟨T11, X11, e11, st11⟩ := getF X5 hx hZ hown (host := "") (Or.inl (hw _ (List.mem_of_getElem? (i := 54) rfl))) Via.refl rfl po5_2.2.2.2.1 (g := (mkF m 26 #[.val (.ref b), .val (.ref y), .val (.int (Int32.ofNat ds.length))] [(.ref b), (.ref b)])) rfl rfl (hb hby own_d_jdk_68_method_22_code_26)
  have f12 : own_Str Z T5.heap y ty ky ds := (hp3.keep Kq5 (ninS hp4 nin0) (ninS hp6 nin0))
  obtain ⟨cq13, qa13, qb13⟩ := po5_2.1.cell
  obtain ⟨_, _, ⟨T13, L13, k13, n13⟩, -, X13, ⟨Lc13, hQ13, l13, y13, z13⟩, st13⟩ := X11.privateBack hx (y := (⟨"java/lang/AbstractStringBuilder", "putStringAt", "(ILjava/lang/String;)V"⟩ : MethodName)) hown (mvT hZ (hw _ (List.mem_of_getElem? (i := 102) rfl))) (mvT hZ (hw _ (List.mem_of_getElem? (i := 103) rfl))) (own_selfSel (mvT hZ (hw _ (List.mem_of_getElem? (i := 105) rfl))) (Cond.privateMethod_at (mvP hZ (hw _ (List.mem_of_getElem? (i := 104) rfl)) (args := #[]))) (mvT hZ (hw _ (List.mem_of_getElem? (i := 103) rfl))) (by decide)) (Cond.privateMethod_at (mvP hZ (hw _ (List.mem_of_getElem? (i := 104) rfl)) (args := #[]))) (mvT hZ (hw _ (List.mem_of_getElem? (i := 106) rfl))) (by decide) (backOf (W := 0) (own_put l Z a0 hw [] (b) (d2_5) (k2_5) (N2_5) (cs) (y) (ty) (ky) (ds) (gCS) T5.heap n0 (O0.keep K10 (allS hp1 (allS hp2 all0))) (po5_2.1) (po5_2.2.1) (po5_2.2.2.1) (po5_2.2.2.2.2.1) (f12) (po5_1) (ne8) (hm1) (hp11) (hG1)) hZ (hw _ (List.mem_of_getElem? (i := 106) rfl)) (hw _ (List.mem_of_getElem? (i := 34) rfl)) (by decide) (by decide)) (g := (mkF m 30 #[.val (.ref b), .val (.ref y), .val (.int (Int32.ofNat ds.length))] [(.ref y), (.int (Int32.ofNat cs.length)), (.ref b)])) rfl (by rw [hml]; rfl) (Steps.refl _) (a := b) (by rw [e11]; exact qa13) qb13 (argsL := [(.int (Int32.ofNat cs.length)), (.ref y)]) (rest := []) (lenOf own_pd15 rfl) rfl (by show 2 * 0 + _ ≤ _; exact Nat.le_of_eq rfl) (hb hby own_d_jdk_68_method_22_code_30) (fun _ _ => ⟨rfl, e11, (by decide : 1 + 0 ≤ _), (by decide : 200 + 0 ≤ _)⟩)
  dsimp only [Pt.U, Pt.locs, Pt.cells, Pt.slots] at X13 l13 y13 z13 st13 hQ13
  subst l13 y13 z13
  obtain ⟨rfl, Nq13, Kq13, po13_0⟩ := hQ13
  have N13 := Fr.app N5 Nq13
  have K14 : Keep h0 T13.heap [b, d] := K10.trans Kq13 (allS ((po5_0).elim (fun q => Or.inl (q ▸ List.mem_of_getElem? (i := 1) rfl)) (fun q => Or.inr (Nat.le_trans K0.1 q))) all0)
  have f15 : Fld Z T13.heap b "java/lang/AbstractStringBuilder" "count" "I" (.int (Int32.ofNat cs.length)) := (po5_2.2.2.2.1.keep Kq13 (ninS (ne_exa po5_2.1 po5_2.2.2.2.2.1.1 (by decide)) nin0))
  obtain ⟨T16, X16, e16, st16⟩ := getF X13 hx hZ hown (host := "") (Or.inl (hw _ (List.mem_of_getElem? (i := 54) rfl))) Via.refl rfl f15 (g := (mkF m 35 #[.val (.ref b), .val (.ref y), .val (.int (Int32.ofNat ds.length))] [(.ref b), (.ref b)])) rfl rfl (hb hby own_d_jdk_68_method_22_code_35)
  have r17 : GoTo p.tables e below s₁ (own_F_own_aappS m b y) T16 (mkF m 40 #[.val (.ref b), .val (.ref y), .val (.int (Int32.ofNat ds.length))] [(.int ((Int32.ofNat cs.length) + (Int32.ofNat ds.length))), (.ref b)]) := fun tt_ kk_ => r4 tt_ (by
      show Steps p.tables e below (T2.setTop (mkF m 21 #[.val (.ref b), .val (.ref y), .val (.int (Int32.ofNat ds.length))] [(.int (Int32.ofNat (cs.length + ds.length))), (.ref b)])) _
      refine st5.trans ?_
      show Steps p.tables e below (T5.setTop (mkF m 24 #[.val (.ref b), .val (.ref y), .val (.int (Int32.ofNat ds.length))] [])) _
      refine XS.aloadN X5.here hx rfl (hb hby own_d_jdk_68_method_22_code_24) rfl rfl ?_
      show Steps p.tables e below (T5.setTop (mkF m 25 #[.val (.ref b), .val (.ref y), .val (.int (Int32.ofNat ds.length))] [(.ref b)])) _
      refine XS.aloadN X5.here hx rfl (hb hby own_d_jdk_68_method_22_code_25) rfl rfl ?_
      show Steps p.tables e below (T5.setTop (mkF m 26 #[.val (.ref b), .val (.ref y), .val (.int (Int32.ofNat ds.length))] [(.ref b), (.ref b)])) _
      refine st11 _ ?_
      show Steps p.tables e below (T11.setTop (mkF m 29 #[.val (.ref b), .val (.ref y), .val (.int (Int32.ofNat ds.length))] [(.int (Int32.ofNat cs.length)), (.ref b)])) _
      refine XS.aloadN X11.here hx rfl (hb hby own_d_jdk_68_method_22_code_29) rfl rfl ?_
      show Steps p.tables e below (T11.setTop (mkF m 30 #[.val (.ref b), .val (.ref y), .val (.int (Int32.ofNat ds.length))] [(.ref y), (.int (Int32.ofNat cs.length)), (.ref b)])) _
      refine st13.trans ?_
      show Steps p.tables e below (T13.setTop (mkF m 33 #[.val (.ref b), .val (.ref y), .val (.int (Int32.ofNat ds.length))] [])) _
      refine XS.aloadN X13.here hx rfl (hb hby own_d_jdk_68_method_22_code_33) rfl rfl ?_
      show Steps p.tables e below (T13.setTop (mkF m 34 #[.val (.ref b), .val (.ref y), .val (.int (Int32.ofNat ds.length))] [(.ref b)])) _
      refine XS.dup X13.here hx rfl (hb hby own_d_jdk_68_method_22_code_34) rfl rfl ?_
      show Steps p.tables e below (T13.setTop (mkF m 35 #[.val (.ref b), .val (.ref y), .val (.int (Int32.ofNat ds.length))] [(.ref b), (.ref b)])) _
      refine st16 _ ?_
      show Steps p.tables e below (T16.setTop (mkF m 38 #[.val (.ref b), .val (.ref y), .val (.int (Int32.ofNat ds.length))] [(.int (Int32.ofNat cs.length)), (.ref b)])) _
      refine XS.iloadN X16.here hx rfl (hb hby own_d_jdk_68_method_22_code_38) rfl ?_
      show Steps p.tables e below (T16.setTop (mkF m 39 #[.val (.ref b), .val (.ref y), .val (.int (Int32.ofNat ds.length))] [(.int (Int32.ofNat ds.length)), (.int (Int32.ofNat cs.length)), (.ref b)])) _
      refine XS.iadd X16.here hx rfl (hb hby own_d_jdk_68_method_22_code_39) rfl ?_
      show Steps p.tables e below (T16.setTop (mkF m 40 #[.val (.ref b), .val (.ref y), .val (.int (Int32.ofNat ds.length))] [(.int ((Int32.ofNat cs.length) + (Int32.ofNat ds.length))), (.ref b)])) _
      exact kk_)
  have r18 : GoTo p.tables e below s₁ (own_F_own_aappS m b y) T16 (mkF m 40 #[.val (.ref b), .val (.ref y), .val (.int (Int32.ofNat ds.length))] [(.int (Int32.ofNat (cs ++ ds).length)), (.ref b)]) := Eq.mp (congrArg (fun zz_ => GoTo p.tables e below s₁ (own_F_own_aappS m b y) T16 (mkF m 40 #[.val (.ref b), .val (.ref y), .val (.int (Int32.ofNat ds.length))] [(.int zz_), (.ref b)])) (show ((Int32.ofNat cs.length) + (Int32.ofNat ds.length)) = (Int32.ofNat (cs ++ ds).length) from (by rw [List.length_append]; exact own_addN))) r17
  have f19 : Exa Z T13.heap b "java/lang/StringBuilder" := (po5_2.1.keep Kq13)
  obtain ⟨T20, h20, X20, e20, W20, st20⟩ := putF X16 hx hZ hown (host := "") (Or.inl (hw _ (List.mem_of_getElem? (i := 54) rfl))) Via.refl e16 f15 f19 (Or.inl (hw _ (List.mem_of_getElem? (i := 55) rfl))) (hw _ (List.mem_of_getElem? (i := 25) rfl)) (ty := .int) (by decide) rfl rfl (g := (mkF m 40 #[.val (.ref b), .val (.ref y), .val (.int (Int32.ofNat ds.length))] [(.int (Int32.ofNat (cs ++ ds).length)), (.ref b)])) rfl rfl (hb hby own_d_jdk_68_method_22_code_40)
  have K21 : Keep h0 h20 [b, d] := K14.wr W20 (Or.inl (List.mem_of_getElem? (i := 0) rfl))
  have Fw20 : Fld Z h20 b "java/lang/AbstractStringBuilder" "count" "I" (.int (Int32.ofNat (cs ++ ds).length)) := f15.same W20
  have N20 := Fr.snoc X20 N13 hp1
  have f22 : own_By Z h20 d2_5 k2_5 N2_5 (cs ++ ds) := (po13_0.other W20 (Ne.symm (ne_exa po5_2.1 po5_2.2.2.2.2.1.1 (by decide))))
  have f23 : Exa Z h20 b "java/lang/StringBuilder" := (f19.wr W20)
  have f24 : Fld Z h20 b "java/lang/AbstractStringBuilder" "value" "[B" (.ref d2_5) := ((po5_2.2.1.keep Kq13 (ninS (ne_exa po5_2.1 po5_2.2.2.2.2.1.1 (by decide)) nin0)).other W20 (Or.inr (Jvm.RoadKit.slot_ne (Or.inl (hw _ (List.mem_of_getElem? (i := 41) rfl))) (Or.inl (hw _ (List.mem_of_getElem? (i := 55) rfl))) (by decide) (t := (.array .byte)) (t' := .int) (by decide) (by decide))))
  have f25 : Fld Z h20 b "java/lang/AbstractStringBuilder" "coder" "B" (.int (0 : Int32)) := ((po5_2.2.2.1.keep Kq13 (ninS (ne_exa po5_2.1 po5_2.2.2.2.2.1.1 (by decide)) nin0)).other W20 (Or.inr (Jvm.RoadKit.slot_ne (Or.inl (hw _ (List.mem_of_getElem? (i := 43) rfl))) (Or.inl (hw _ (List.mem_of_getElem? (i := 55) rfl))) (by decide) (t := .byte) (t' := .int) (by decide) (by decide))))
  obtain ⟨fs, hr, hrun, hended, hW, hsame⟩ := X20.leave (v := some (.ref b)) (fun h => by rw [Bd.returns] at h; cases h)
  refine ⟨_, _, r18 _ ?_, hrun, hended, _, _, rfl, ?_, ⟨_, rfl⟩, hW, hsame.mono (by decide) (by decide)⟩
  · show Steps p.tables e below (T16.setTop (mkF m 40 #[.val (.ref b), .val (.ref y), .val (.int (Int32.ofNat ds.length))] [(.int (Int32.ofNat (cs ++ ds).length)), (.ref b)])) _
    refine st20 _ ?_
    show Steps p.tables e below (T20.setTop (mkF m 43 #[.val (.ref b), .val (.ref y), .val (.int (Int32.ofNat ds.length))] [])) _
    refine XS.aloadN X20.here hx rfl (hb hby own_d_jdk_68_method_22_code_43) rfl rfl ?_
    show Steps p.tables e below (T20.setTop (mkF m 44 #[.val (.ref b), .val (.ref y), .val (.int (Int32.ofNat ds.length))] [(.ref b)])) _
    exact retOut X20 hx (t := (.object "java/lang/AbstractStringBuilder")) Bd.returns rfl (Or.inr (Or.inr (Or.inr (Or.inr ⟨rfl, rfl, rfl⟩)))) (hb hby own_d_jdk_68_method_22_code_44) hr
  · show Q_own_aappS Z b d kd N cs y ty ky ds gCS h0 n0 _ T20.heap _
    rw [e20]
    exact ⟨d2_5, k2_5, N2_5, rfl, N20, K21, (po5_0.imp id (fun q => Nat.le_trans K0.1 q)), po5_1, ⟨f23, f24, f25, Fw20, f22, (own_rngApp hp0.2.2.2.2.2 hp3.2.2.2.2.1)⟩, ⟨hm2, hm3⟩⟩
theorem own_pn_own_appS : plainName "java/lang/StringBuilder" = true := by first | (simp [plainName, overriddenIn]; done) | decide +kernel
theorem own_ef_own_appS (m : MethodId) (b : Addr) (y : Addr) : entryFrame m #[(.ref b), (.ref y)] 2 = mkF m 0 #[.val (.ref b), .val (.ref y)] [] := by first | (simp [entryFrame, mkF, argsToLocals, own_cI, own_cJ, own_cR, own_cN]; done) | rfl
abbrev own_F_own_appS (m : MethodId) (b : Addr) (y : Addr) : JFrame := entryFrame m #[(.ref b), (.ref y)] 2
def Q_own_appS (Z : State) (b : Addr) (d : Addr) (kd : ClassId) (N : Nat) (cs : List Int32) (y : Addr) (ty : Addr) (ky : ClassId) (ds : List Int32) (gCS : Int32) (h0 : Heap) (n0 : Nat) (v : Option Value) (h : Heap) (L : List Loc) : Prop := ∃ (d2 : Addr), ∃ (k2 : ClassId), ∃ (N2 : Nat), v = some (.ref b) ∧ Fr n0 L ∧ Keep h0 h [b, d] ∧ (d2 = d ∨ h0.size ≤ d2) ∧ (n0 ≤ d2) ∧ (own_SB Z h b d2 k2 N2 (cs ++ ds)) ∧ (N ≤ N2 ∧ (N2 = N ∨ N2 ≤ 200))
set_option maxRecDepth 65536 in
set_option maxHeartbeats 40000000 in
theorem own_appS (l : Launch) (Z : State) (a0 : Array Value) (hw : ∀ d ∈ tables_1, d.before a0 Z = true) (ws : List Jvm.Cond) (b : Addr) (d : Addr) (kd : ClassId) (N : Nat) (cs : List Int32) (y : Addr) (ty : Addr) (ky : ClassId) (ds : List Int32) (gCS : Int32) (h0 : Heap) (n0 : Nat) (O0 : Old Z n0 h0) (hp0 : own_SB Z h0 b d kd N cs) (hp1 : n0 ≤ b) (hp2 : n0 ≤ d) (hp3 : own_Str Z h0 y ty ky ds) (hp4 : y ≠ b) (hp5 : y ≠ d) (hp6 : ty ≠ b) (hp7 : ty ≠ d) (hNp : 0 < N) (hcap : N < cs.length + ds.length → N + max (cs.length + ds.length - N) (N + 2) ≤ 200) (hNb : N ≤ 100000) (hp11 : Sta Z Z.heap "java/lang/String" "COMPACT_STRINGS" "Z" (.int gCS)) (hG1 : ¬ gCS = (0 : Int32)) :
    MetFree l (⟨"java/lang/StringBuilder", "append", "(Ljava/lang/String;)Ljava/lang/StringBuilder;"⟩ : MethodName) (head1 (Jvm.Cond.code (⟨"java/lang/StringBuilder", "append", "(Ljava/lang/String;)Ljava/lang/StringBuilder;"⟩ : MethodName) jdk_67_method_7_code 2 (some (.object "java/lang/StringBuilder")) :: ws) ({ frames := 5, cells := 1, slots := 200, locals := 76 } : Room)) (fun aa_ U_ => aa_ = #[(.ref b), (.ref y)] ∧ Z.Warmed39 U_.vm ∧ U_.heap = h0) (fun _ _ _ _ _ => True) (fun _ U_ o_ V_ => ∃ v_ L_, o_ = .returned v_ ∧ Q_own_appS Z b d kd N cs y ty ky ds gCS h0 n0 v_ V_.heap L_ ∧ FrameEnd U_ o_ V_ L_ ({ frames := 5, cells := 1, slots := 200, locals := 76 } : Room).cells ({ frames := 5, cells := 1, slots := 200, locals := 76 } : Room).slots) := by
  refine MetFree.of_bodySF (plainFor_of_name own_pn_own_appS) hisR ?_
  intro p e s m args below meth c s₁ Bd hml0 hP hK
  obtain ⟨rfl, hZ, hh⟩ := hP
  have hx := Bd.exec
  have hby := Bd.bytes
  have hml : c.maxLocals = 2 := hml0
  have hown : s.vm.findClass "java/lang/StringBuilder" = some m.cls := findClass_of_methodNamed Bd.named
  have hnm := (name_of_methodNamed Bd.named Bd.method).1
  have X0 : Stand p l e ({ frames := 5, cells := 1, slots := 200, locals := 76 } : Room) s m #[(.ref b), (.ref y)] below meth c s₁ [] 0 0 := Stand.of_body Bd
  have e0 : s₁.heap = h0 := by rw [← hh, Bd.state]; rfl
  have N0 := Fr.nil n0
  have K0 : Keep h0 h0 [b, d] := Keep.refl _ _
  have r0 : GoTo p.tables e below s₁ (own_F_own_appS m b y) s₁ (mkF m 0 #[.val (.ref b), .val (.ref y)] []) := fun tt_ kk_ => castTop (own_ef_own_appS m b y) kk_
  obtain ⟨_, _, ⟨T1, L1, k1, n1⟩, -, X1, ⟨Lc1, hQ1, l1, y1, z1⟩, st1⟩ := superBack X0 hx hZ (y := (⟨"java/lang/AbstractStringBuilder", "append", "(Ljava/lang/String;)Ljava/lang/AbstractStringBuilder;"⟩ : MethodName)) hown (hw _ (List.mem_of_getElem? (i := 85) rfl)) (own_sameSelf (y := (⟨"java/lang/AbstractStringBuilder", "append", "(Ljava/lang/String;)Ljava/lang/AbstractStringBuilder;"⟩ : MethodName)) (hw _ (List.mem_of_getElem? (i := 63) rfl)) rfl (hw _ (List.mem_of_getElem? (i := 86) rfl)) (by decide)) (hw _ (List.mem_of_getElem? (i := 86) rfl)) (hw _ (List.mem_of_getElem? (i := 51) rfl)) (by decide) (backOf (W := 0) (own_aappS l Z a0 hw [] (b) (d) (kd) (N) (cs) (y) (ty) (ky) (ds) (gCS) h0 n0 (O0.keep K0 (allS hp1 (allS hp2 all0))) (hp0) (hp1) (hp2) (hp3) (hp4) (hp5) (hp6) (hp7) (hNp) (hcap) (hNb) (hp11) (hG1)) hZ (hw _ (List.mem_of_getElem? (i := 88) rfl)) (hw _ (List.mem_of_getElem? (i := 34) rfl)) (by decide) (by decide)) e0 (Ins.self hp0.1) (g := (mkF m 2 #[.val (.ref b), .val (.ref y)] [(.ref y), (.ref b)])) rfl (by rw [hml]; rfl) (hw _ (List.mem_of_getElem? (i := 88) rfl)) (argsL := [(.ref y)]) (rest := []) (lenOf own_pd16 rfl) rfl (by show 2 * 0 + _ ≤ _; exact Nat.le_of_eq rfl) (hb hby own_d_jdk_67_method_7_code_2) (fun _ _ => ⟨rfl, e0, (by decide : 0 + 1 ≤ _), (by decide : 0 + 200 ≤ _)⟩)
  dsimp only [Pt.U, Pt.locs, Pt.cells, Pt.slots] at X1 l1 y1 z1 st1 hQ1
  subst l1 y1 z1
  obtain ⟨d2_1, k2_1, N2_1, rfl, Nq1, Kq1, po1_0, po1_1, po1_2, po1_3⟩ := hQ1
  have N1 := Fr.app N0 Nq1
  have ne2 : y ≠ d2_1 := own_orne po1_0 hp5 hp3.1.lt
  have ne3 : ty ≠ d2_1 := own_orne po1_0 hp7 hp3.2.2.2.1.lt
  have g4 : n0 ≤ d2_1 := own_orle po1_0 hp2 (Nat.le_trans (own_le O0) K0.1)
  have K5 : Keep h0 T1.heap [b, d] := K0.trans Kq1 (allS (Or.inl (List.mem_of_getElem? (i := 0) rfl)) (allS (Or.inl (List.mem_of_getElem? (i := 1) rfl)) all0))
  obtain ⟨fs, hr, hrun, hended, hW, hsame⟩ := X1.leave (v := some (.ref b)) (fun h => by rw [Bd.returns] at h; cases h)
  refine ⟨_, _, r0 _ ?_, hrun, hended, _, _, rfl, ?_, ⟨_, rfl⟩, hW, hsame.mono (by decide) (by decide)⟩
  · show Steps p.tables e below (s₁.setTop (mkF m 0 #[.val (.ref b), .val (.ref y)] [])) _
    refine XS.aloadN X0.here hx rfl (hb hby own_d_jdk_67_method_7_code_0) rfl rfl ?_
    show Steps p.tables e below (s₁.setTop (mkF m 1 #[.val (.ref b), .val (.ref y)] [(.ref b)])) _
    refine XS.aloadN X0.here hx rfl (hb hby own_d_jdk_67_method_7_code_1) rfl rfl ?_
    show Steps p.tables e below (s₁.setTop (mkF m 2 #[.val (.ref b), .val (.ref y)] [(.ref y), (.ref b)])) _
    refine st1.trans ?_
    show Steps p.tables e below (T1.setTop (mkF m 5 #[.val (.ref b), .val (.ref y)] [(.ref b)])) _
    refine XS.pop X1.here hx rfl (hb hby own_d_jdk_67_method_7_code_5) rfl rfl ?_
    show Steps p.tables e below (T1.setTop (mkF m 6 #[.val (.ref b), .val (.ref y)] [])) _
    refine XS.aloadN X1.here hx rfl (hb hby own_d_jdk_67_method_7_code_6) rfl rfl ?_
    show Steps p.tables e below (T1.setTop (mkF m 7 #[.val (.ref b), .val (.ref y)] [(.ref b)])) _
    exact retOut X1 hx (t := (.object "java/lang/StringBuilder")) Bd.returns rfl (Or.inr (Or.inr (Or.inr (Or.inr ⟨rfl, rfl, rfl⟩)))) (hb hby own_d_jdk_67_method_7_code_7) hr
  · show Q_own_appS Z b d kd N cs y ty ky ds gCS h0 n0 _ T1.heap _
    exact ⟨d2_1, k2_1, N2_1, rfl, N1, K5, (po1_0.imp id (fun q => Nat.le_trans K0.1 q)), po1_1, po1_2, po1_3⟩
theorem own_pn_own_chk : plainName "java/util/Arrays" = true := by first | (simp [plainName, overriddenIn]; done) | decide +kernel
theorem own_ef_own_chk (m : MethodId) (x : Nat) : entryFrame m #[(.int (0 : Int32)), (.int (Int32.ofNat x))] 2 = mkF m 0 #[.val (.int (0 : Int32)), .val (.int (Int32.ofNat x))] [] := by first | (simp [entryFrame, mkF, argsToLocals, own_cI, own_cJ, own_cR, own_cN]; done) | rfl
abbrev own_F_own_chk (m : MethodId) (x : Nat) : JFrame := entryFrame m #[(.int (0 : Int32)), (.int (Int32.ofNat x))] 2
def Q_own_chk (Z : State) (x : Nat) (h0 : Heap) (n0 : Nat) (v : Option Value) (h : Heap) (L : List Loc) : Prop := v = none ∧ Fr n0 L ∧ h = h0
set_option maxRecDepth 65536 in
set_option maxHeartbeats 40000000 in
theorem own_chk (l : Launch) (Z : State) (a0 : Array Value) (hw : ∀ d ∈ tables_1, d.before a0 Z = true) (ws : List Jvm.Cond) (x : Nat) (h0 : Heap) (n0 : Nat) (O0 : Old Z n0 h0) (hxs : x ≤ 1000000) :
    MetFree l (⟨"java/util/Arrays", "checkLength", "(II)V"⟩ : MethodName) (head1 (Jvm.Cond.code (⟨"java/util/Arrays", "checkLength", "(II)V"⟩ : MethodName) jdk_65_method_131_code 2 none :: ws) ({ frames := 0, cells := 0, slots := 0, locals := 0 } : Room)) (fun aa_ U_ => aa_ = #[(.int (0 : Int32)), (.int (Int32.ofNat x))] ∧ Z.Warmed39 U_.vm ∧ U_.heap = h0) (fun _ _ _ _ _ => True) (fun _ U_ o_ V_ => ∃ v_ L_, o_ = .returned v_ ∧ Q_own_chk Z x h0 n0 v_ V_.heap L_ ∧ FrameEnd U_ o_ V_ L_ ({ frames := 0, cells := 0, slots := 0, locals := 0 } : Room).cells ({ frames := 0, cells := 0, slots := 0, locals := 0 } : Room).slots) := by
  refine MetFree.of_bodySF (plainFor_of_name own_pn_own_chk) hisR ?_
  intro p e s m args below meth c s₁ Bd hml0 hP hK
  obtain ⟨rfl, hZ, hh⟩ := hP
  have hx := Bd.exec
  have hby := Bd.bytes
  have hml : c.maxLocals = 2 := hml0
  have hown : s.vm.findClass "java/util/Arrays" = some m.cls := findClass_of_methodNamed Bd.named
  have hnm := (name_of_methodNamed Bd.named Bd.method).1
  have X0 : Stand p l e ({ frames := 0, cells := 0, slots := 0, locals := 0 } : Room) s m #[(.int (0 : Int32)), (.int (Int32.ofNat x))] below meth c s₁ [] 0 0 := Stand.of_body Bd
  have e0 : s₁.heap = h0 := by rw [← hh, Bd.state]; rfl
  have N0 := Fr.nil n0
  have K0 : Keep h0 h0 [] := Keep.refl _ _
  have r0 : GoTo p.tables e below s₁ (own_F_own_chk m x) s₁ (mkF m 0 #[.val (.int (0 : Int32)), .val (.int (Int32.ofNat x))] []) := fun tt_ kk_ => castTop (own_ef_own_chk m x) kk_
  obtain ⟨fs, hr, hrun, hended, hW, hsame⟩ := X0.leave (v := none) (fun _ => rfl)
  refine ⟨_, _, r0 _ ?_, hrun, hended, _, _, rfl, ?_, ⟨_, rfl⟩, hW, hsame.mono (by decide) (by decide)⟩
  · show Steps p.tables e below (s₁.setTop (mkF m 0 #[.val (.int (0 : Int32)), .val (.int (Int32.ofNat x))] [])) _
    refine XS.iloadN X0.here hx rfl (hb hby own_d_jdk_65_method_131_code_0) rfl ?_
    show Steps p.tables e below (s₁.setTop (mkF m 1 #[.val (.int (0 : Int32)), .val (.int (Int32.ofNat x))] [(.int (Int32.ofNat x))])) _
    refine XS.iloadN X0.here hx rfl (hb hby own_d_jdk_65_method_131_code_1) rfl ?_
    show Steps p.tables e below (s₁.setTop (mkF m 2 #[.val (.int (0 : Int32)), .val (.int (Int32.ofNat x))] [(.int (0 : Int32)), (.int (Int32.ofNat x))])) _
    refine XS.icmpYes X0.here hx rfl (pc0 := 2) (pc' := 37) rfl (hb hby own_d_jdk_65_method_131_code_2) rfl (flt (own_negN hxs)).2.1 (by decide) (by decide) ?_
    show Steps p.tables e below (s₁.setTop (mkF m 37 #[.val (.int (0 : Int32)), .val (.int (Int32.ofNat x))] [])) _
    exact X0.returnOut hx Bd.returns (hb hby own_d_jdk_65_method_131_code_37) hr
  · show Q_own_chk Z x h0 n0 _ s₁.heap _
    rw [e0]
    exact ⟨rfl, N0, rfl⟩
theorem own_pn_own_corb : plainName "java/util/Arrays" = true := by first | (simp [plainName, overriddenIn]; done) | decide +kernel
theorem own_ef_own_corb (m : MethodId) (d : Addr) (cs : List Int32) : entryFrame m #[(.ref d), (.int (0 : Int32)), (.int (Int32.ofNat cs.length))] 5 = mkF m 0 #[.val (.ref d), .val (.int (0 : Int32)), .val (.int (Int32.ofNat cs.length)), .unset, .unset] [] := by first | (simp [entryFrame, mkF, argsToLocals, own_cI, own_cJ, own_cR, own_cN]; done) | rfl
abbrev own_F_own_corb (m : MethodId) (d : Addr) (cs : List Int32) : JFrame := entryFrame m #[(.ref d), (.int (0 : Int32)), (.int (Int32.ofNat cs.length))] 5
def Q_own_corb (Z : State) (d : Addr) (kd : ClassId) (N : Nat) (cs : List Int32) (h0 : Heap) (n0 : Nat) (v : Option Value) (h : Heap) (L : List Loc) : Prop := ∃ (b2 : Addr), ∃ (k2 : ClassId), v = some (.ref b2) ∧ Fr n0 L ∧ Keep h0 h [] ∧ (h0.size ≤ b2) ∧ (n0 ≤ b2) ∧ (Arv Z h b2 k2 .byte (Int32.ofNat cs.length) ((cs.map fun c => c.toInt8.toInt32).map Value.int) (.int (0 : Int32))) ∧ (Exa Z h b2 "[B")
set_option maxRecDepth 65536 in
set_option maxHeartbeats 40000000 in
theorem own_corb (l : Launch) (Z : State) (a0 : Array Value) (hw : ∀ d ∈ tables_1, d.before a0 Z = true) (ws : List Jvm.Cond) (d : Addr) (kd : ClassId) (N : Nat) (cs : List Int32) (h0 : Heap) (n0 : Nat) (O0 : Old Z n0 h0) (hp0 : own_By Z h0 d kd N cs) (hcc : cs.length ≤ 200) :
    MetFree l (⟨"java/util/Arrays", "copyOfRangeByte", "([BII)[B"⟩ : MethodName) (head1 (Jvm.Cond.code (⟨"java/util/Arrays", "copyOfRangeByte", "([BII)[B"⟩ : MethodName) jdk_65_method_133_code 5 (some (.array .byte)) :: ws) ({ frames := 1, cells := 1, slots := 200, locals := 18 } : Room)) (fun aa_ U_ => aa_ = #[(.ref d), (.int (0 : Int32)), (.int (Int32.ofNat cs.length))] ∧ Z.Warmed39 U_.vm ∧ U_.heap = h0) (fun _ _ _ _ _ => True) (fun _ U_ o_ V_ => ∃ v_ L_, o_ = .returned v_ ∧ Q_own_corb Z d kd N cs h0 n0 v_ V_.heap L_ ∧ FrameEnd U_ o_ V_ L_ ({ frames := 1, cells := 1, slots := 200, locals := 18 } : Room).cells ({ frames := 1, cells := 1, slots := 200, locals := 18 } : Room).slots) := by
  refine MetFree.of_bodySF (plainFor_of_name own_pn_own_corb) hisR ?_
  intro p e s m args below meth c s₁ Bd hml0 hP hK
  obtain ⟨rfl, hZ, hh⟩ := hP
  have hx := Bd.exec
  have hby := Bd.bytes
  have hml : c.maxLocals = 5 := hml0
  have hown : s.vm.findClass "java/util/Arrays" = some m.cls := findClass_of_methodNamed Bd.named
  have hnm := (name_of_methodNamed Bd.named Bd.method).1
  have X0 : Stand p l e ({ frames := 1, cells := 1, slots := 200, locals := 18 } : Room) s m #[(.ref d), (.int (0 : Int32)), (.int (Int32.ofNat cs.length))] below meth c s₁ [] 0 0 := Stand.of_body Bd
  have e0 : s₁.heap = h0 := by rw [← hh, Bd.state]; rfl
  have N0 := Fr.nil n0
  have K0 : Keep h0 h0 [] := Keep.refl _ _
  have r0 : GoTo p.tables e below s₁ (own_F_own_corb m d cs) s₁ (mkF m 0 #[.val (.ref d), .val (.int (0 : Int32)), .val (.int (Int32.ofNat cs.length)), .unset, .unset] []) := fun tt_ kk_ => castTop (own_ef_own_corb m d cs) kk_
  obtain ⟨vs1, hvl1, hva1, hvc1⟩ := own_By.arv hp0
  have hN6 := hp0.2.2.1
  have hcN := hp0.2.1
  have hc6 : cs.length ≤ 1000000 := by omega
  obtain ⟨_, _, ⟨T2, L2, k2, n2⟩, -, X2, ⟨Lc2, hQ2, l2, y2, z2⟩, st2⟩ := Jvm.LawKit.callS X0 hx (y := (⟨"java/util/Arrays", "checkLength", "(II)V"⟩ : MethodName)) hown (mvT hZ (hw _ (List.mem_of_getElem? (i := 157) rfl))) (mvT hZ (hw _ (List.mem_of_getElem? (i := 158) rfl))) (mvT hZ (hw _ (List.mem_of_getElem? (i := 152) rfl))) (mvT hZ (hw _ (List.mem_of_getElem? (i := 159) rfl))) (by decide) (backOf (W := 0) (own_chk l Z a0 hw [] (cs.length) h0 n0 (O0.keep K0 all0) (hc6)) hZ (hw _ (List.mem_of_getElem? (i := 159) rfl)) (hw _ (List.mem_of_getElem? (i := 152) rfl)) (by decide) (by decide)) (g := (mkF m 2 #[.val (.ref d), .val (.int (0 : Int32)), .val (.int (Int32.ofNat cs.length)), .unset, .unset] [(.int (Int32.ofNat cs.length)), (.int (0 : Int32))])) rfl (by rw [hml]; rfl) (argsL := [(.int (0 : Int32)), (.int (Int32.ofNat cs.length))]) (rest := []) (lenOf own_pd10 rfl) rfl (by show 2 * 0 + _ ≤ _; exact Nat.le_of_eq rfl) (hb hby own_d_jdk_65_method_133_code_2) (fun _ _ => ⟨rfl, e0, (by decide : 0 + 0 ≤ _), (by decide : 0 + 0 ≤ _)⟩)
  dsimp only [Pt.U, Pt.locs, Pt.cells, Pt.slots] at X2 l2 y2 z2 st2 hQ2
  subst l2 y2 z2
  obtain ⟨rfl, Nq2, hh2⟩ := hQ2
  have N2 := Fr.app N0 Nq2
  have r3 : GoTo p.tables e below s₁ (own_F_own_corb m d cs) T2 (mkF m 8 #[.val (.ref d), .val (.int (0 : Int32)), .val (.int (Int32.ofNat cs.length)), .unset, .unset] [(.int ((Int32.ofNat cs.length) - (0 : Int32)))]) := fun tt_ kk_ => r0 tt_ (by
      show Steps p.tables e below (s₁.setTop (mkF m 0 #[.val (.ref d), .val (.int (0 : Int32)), .val (.int (Int32.ofNat cs.length)), .unset, .unset] [])) _
      refine XS.iloadN X0.here hx rfl (hb hby own_d_jdk_65_method_133_code_0) rfl ?_
      show Steps p.tables e below (s₁.setTop (mkF m 1 #[.val (.ref d), .val (.int (0 : Int32)), .val (.int (Int32.ofNat cs.length)), .unset, .unset] [(.int (0 : Int32))])) _
      refine XS.iloadN X0.here hx rfl (hb hby own_d_jdk_65_method_133_code_1) rfl ?_
      show Steps p.tables e below (s₁.setTop (mkF m 2 #[.val (.ref d), .val (.int (0 : Int32)), .val (.int (Int32.ofNat cs.length)), .unset, .unset] [(.int (Int32.ofNat cs.length)), (.int (0 : Int32))])) _
      refine st2 _ ?_
      show Steps p.tables e below (T2.setTop (mkF m 5 #[.val (.ref d), .val (.int (0 : Int32)), .val (.int (Int32.ofNat cs.length)), .unset, .unset] [])) _
      refine XS.iloadN X2.here hx rfl (hb hby own_d_jdk_65_method_133_code_5) rfl ?_
      show Steps p.tables e below (T2.setTop (mkF m 6 #[.val (.ref d), .val (.int (0 : Int32)), .val (.int (Int32.ofNat cs.length)), .unset, .unset] [(.int (Int32.ofNat cs.length))])) _
      refine XS.iloadN X2.here hx rfl (hb hby own_d_jdk_65_method_133_code_6) rfl ?_
      show Steps p.tables e below (T2.setTop (mkF m 7 #[.val (.ref d), .val (.int (0 : Int32)), .val (.int (Int32.ofNat cs.length)), .unset, .unset] [(.int (0 : Int32)), (.int (Int32.ofNat cs.length))])) _
      refine XS.isub X2.here hx rfl (hb hby own_d_jdk_65_method_133_code_7) rfl ?_
      show Steps p.tables e below (T2.setTop (mkF m 8 #[.val (.ref d), .val (.int (0 : Int32)), .val (.int (Int32.ofNat cs.length)), .unset, .unset] [(.int ((Int32.ofNat cs.length) - (0 : Int32)))])) _
      exact kk_)
  have r4 : GoTo p.tables e below s₁ (own_F_own_corb m d cs) T2 (mkF m 8 #[.val (.ref d), .val (.int (0 : Int32)), .val (.int (Int32.ofNat cs.length)), .unset, .unset] [(.int (Int32.ofNat cs.length))]) := Eq.mp (congrArg (fun zz_ => GoTo p.tables e below s₁ (own_F_own_corb m d cs) T2 (mkF m 8 #[.val (.ref d), .val (.int (0 : Int32)), .val (.int (Int32.ofNat cs.length)), .unset, .unset] [(.int zz_)])) (show ((Int32.ofNat cs.length) - (0 : Int32)) = (Int32.ofNat cs.length) from (own_subN (a := cs.length) (b := 0) (Nat.zero_le _)))) r3
  obtain ⟨T5, h5, k5, X5, e5, E5, A5, Ex5, st5⟩ := newPE X2 hx hZ (hw _ (List.mem_of_getElem? (i := 39) rfl)) hh2 (g := (mkF m 10 #[.val (.ref d), .val (.int (0 : Int32)), .val (.int (Int32.ofNat cs.length)), .val (.int (Int32.ofNat cs.length)), .unset] [(.int (Int32.ofNat cs.length))])) rfl (hb hby own_d_jdk_65_method_133_code_10) rfl (own_negN hc6) (cap := 200) (by rw [own_clamp hc6]; exact hcc) (by decide) (by decide) (by decide) (ad := "[B") (by decide)
  obtain ⟨b5, gg5⟩ : ∃ z, z = h0.size := ⟨_, rfl⟩
  rw [← gg5] at A5 Ex5 st5
  have ne6 : d ≠ b5 := Nat.ne_of_lt (Nat.lt_of_lt_of_le hp0.lt (Nat.le_of_eq gg5.symm))
  have g7 : n0 ≤ b5 := Nat.le_trans (Nat.le_trans (own_le O0) K0.1) (Nat.le_of_eq gg5.symm)
  have b8 : h0.size ≤ b5 := Nat.le_trans K0.1 (Nat.le_of_eq gg5.symm)
  have K9 : Keep h0 h5 [] := K0.ext E5
  have V5 : Arv Z h5 b5 k5 .byte (Int32.ofNat cs.length) [] (.int (0 : Int32)) := Arv.new A5 (own_negN hc6)
  have Vp : Arv Z h5 b5 k5 .byte (Int32.ofNat cs.length) (List.replicate cs.length (Value.int 0)) (.int 0) := V5.pad (fun i => by rw [own_getD_rep]; simp)
  have f10 : Arv Z h5 d kd .byte (Int32.ofNat N) vs1 (.int (0 : Int32)) := (hva1.ext E5)
  obtain ⟨cl11, Ar11, q11, S11, NN11, H11, G11⟩ := id f10
  have r12 : GoTo p.tables e below s₁ (own_F_own_corb m d cs) T5 (mkF m 23 #[.val (.ref d), .val (.int (0 : Int32)), .val (.int (Int32.ofNat cs.length)), .val (.int (Int32.ofNat cs.length)), .val (.ref b5)] [(.int ((Int32.ofNat N) - (0 : Int32))), (.int (0 : Int32)), (.ref b5), (.int (0 : Int32)), (.ref d)]) := fun tt_ kk_ => r4 tt_ (by
      show Steps p.tables e below (T2.setTop (mkF m 8 #[.val (.ref d), .val (.int (0 : Int32)), .val (.int (Int32.ofNat cs.length)), .unset, .unset] [(.int (Int32.ofNat cs.length))])) _
      refine XS.istoreN X2.here hx rfl (hb hby own_d_jdk_65_method_133_code_8) rfl (l' := #[.val (.ref d), .val (.int (0 : Int32)), .val (.int (Int32.ofNat cs.length)), .val (.int (Int32.ofNat cs.length)), .unset]) rfl ?_
      show Steps p.tables e below (T2.setTop (mkF m 9 #[.val (.ref d), .val (.int (0 : Int32)), .val (.int (Int32.ofNat cs.length)), .val (.int (Int32.ofNat cs.length)), .unset] [])) _
      refine XS.iloadN X2.here hx rfl (hb hby own_d_jdk_65_method_133_code_9) rfl ?_
      show Steps p.tables e below (T2.setTop (mkF m 10 #[.val (.ref d), .val (.int (0 : Int32)), .val (.int (Int32.ofNat cs.length)), .val (.int (Int32.ofNat cs.length)), .unset] [(.int (Int32.ofNat cs.length))])) _
      refine st5 _ ?_
      show Steps p.tables e below (T5.setTop (mkF m 12 #[.val (.ref d), .val (.int (0 : Int32)), .val (.int (Int32.ofNat cs.length)), .val (.int (Int32.ofNat cs.length)), .unset] [(.ref b5)])) _
      refine XS.astore X5.here hx rfl (hb hby own_d_jdk_65_method_133_code_12) rfl rfl (l' := #[.val (.ref d), .val (.int (0 : Int32)), .val (.int (Int32.ofNat cs.length)), .val (.int (Int32.ofNat cs.length)), .val (.ref b5)]) rfl ?_
      show Steps p.tables e below (T5.setTop (mkF m 14 #[.val (.ref d), .val (.int (0 : Int32)), .val (.int (Int32.ofNat cs.length)), .val (.int (Int32.ofNat cs.length)), .val (.ref b5)] [])) _
      refine XS.aloadN X5.here hx rfl (hb hby own_d_jdk_65_method_133_code_14) rfl rfl ?_
      show Steps p.tables e below (T5.setTop (mkF m 15 #[.val (.ref d), .val (.int (0 : Int32)), .val (.int (Int32.ofNat cs.length)), .val (.int (Int32.ofNat cs.length)), .val (.ref b5)] [(.ref d)])) _
      refine XS.iloadN X5.here hx rfl (hb hby own_d_jdk_65_method_133_code_15) rfl ?_
      show Steps p.tables e below (T5.setTop (mkF m 16 #[.val (.ref d), .val (.int (0 : Int32)), .val (.int (Int32.ofNat cs.length)), .val (.int (Int32.ofNat cs.length)), .val (.ref b5)] [(.int (0 : Int32)), (.ref d)])) _
      refine XS.aload X5.here hx rfl (hb hby own_d_jdk_65_method_133_code_16) rfl rfl ?_
      show Steps p.tables e below (T5.setTop (mkF m 18 #[.val (.ref d), .val (.int (0 : Int32)), .val (.int (Int32.ofNat cs.length)), .val (.int (Int32.ofNat cs.length)), .val (.ref b5)] [(.ref b5), (.int (0 : Int32)), (.ref d)])) _
      refine XS.iconst X5.here hx rfl (hb hby own_d_jdk_65_method_133_code_18) ?_
      show Steps p.tables e below (T5.setTop (mkF m 19 #[.val (.ref d), .val (.int (0 : Int32)), .val (.int (Int32.ofNat cs.length)), .val (.int (Int32.ofNat cs.length)), .val (.ref b5)] [(.int (0 : Int32)), (.ref b5), (.int (0 : Int32)), (.ref d)])) _
      refine XS.aloadN X5.here hx rfl (hb hby own_d_jdk_65_method_133_code_19) rfl rfl ?_
      show Steps p.tables e below (T5.setTop (mkF m 20 #[.val (.ref d), .val (.int (0 : Int32)), .val (.int (Int32.ofNat cs.length)), .val (.int (Int32.ofNat cs.length)), .val (.ref b5)] [(.ref d), (.int (0 : Int32)), (.ref b5), (.int (0 : Int32)), (.ref d)])) _
      refine X5.arraylength hx (by rw [e5]; exact Ar11.1) (State.isArrayOf_alike hZ.alike Ar11.2.1) (g := (mkF m 20 #[.val (.ref d), .val (.int (0 : Int32)), .val (.int (Int32.ofNat cs.length)), .val (.int (Int32.ofNat cs.length)), .val (.ref b5)] [(.ref d), (.int (0 : Int32)), (.ref b5), (.int (0 : Int32)), (.ref d)])) rfl rfl (hb hby own_d_jdk_65_method_133_code_20) _ ?_
      rw [len_of S11 NN11]
      show Steps p.tables e below (T5.setTop (mkF m 21 #[.val (.ref d), .val (.int (0 : Int32)), .val (.int (Int32.ofNat cs.length)), .val (.int (Int32.ofNat cs.length)), .val (.ref b5)] [(.int (Int32.ofNat N)), (.int (0 : Int32)), (.ref b5), (.int (0 : Int32)), (.ref d)])) _
      refine XS.iloadN X5.here hx rfl (hb hby own_d_jdk_65_method_133_code_21) rfl ?_
      show Steps p.tables e below (T5.setTop (mkF m 22 #[.val (.ref d), .val (.int (0 : Int32)), .val (.int (Int32.ofNat cs.length)), .val (.int (Int32.ofNat cs.length)), .val (.ref b5)] [(.int (0 : Int32)), (.int (Int32.ofNat N)), (.int (0 : Int32)), (.ref b5), (.int (0 : Int32)), (.ref d)])) _
      refine XS.isub X5.here hx rfl (hb hby own_d_jdk_65_method_133_code_22) rfl ?_
      show Steps p.tables e below (T5.setTop (mkF m 23 #[.val (.ref d), .val (.int (0 : Int32)), .val (.int (Int32.ofNat cs.length)), .val (.int (Int32.ofNat cs.length)), .val (.ref b5)] [(.int ((Int32.ofNat N) - (0 : Int32))), (.int (0 : Int32)), (.ref b5), (.int (0 : Int32)), (.ref d)])) _
      exact kk_)
  have r13 : GoTo p.tables e below s₁ (own_F_own_corb m d cs) T5 (mkF m 23 #[.val (.ref d), .val (.int (0 : Int32)), .val (.int (Int32.ofNat cs.length)), .val (.int (Int32.ofNat cs.length)), .val (.ref b5)] [(.int (Int32.ofNat N)), (.int (0 : Int32)), (.ref b5), (.int (0 : Int32)), (.ref d)]) := Eq.mp (congrArg (fun zz_ => GoTo p.tables e below s₁ (own_F_own_corb m d cs) T5 (mkF m 23 #[.val (.ref d), .val (.int (0 : Int32)), .val (.int (Int32.ofNat cs.length)), .val (.int (Int32.ofNat cs.length)), .val (.ref b5)] [(.int zz_), (.int (0 : Int32)), (.ref b5), (.int (0 : Int32)), (.ref d)])) (show ((Int32.ofNat N) - (0 : Int32)) = (Int32.ofNat N) from (own_subN (a := N) (b := 0) (Nat.zero_le _)))) r12
  obtain ⟨_, _, ⟨T14, L14, k14, n14⟩, -, X14, ⟨Lc14, hQ14, l14, y14, z14⟩, st14⟩ := Jvm.LawKit.callS X5 hx (y := (⟨"java/lang/Math", "min", "(II)I"⟩ : MethodName)) hown (mvT hZ (hw _ (List.mem_of_getElem? (i := 160) rfl))) (mvT hZ (hw _ (List.mem_of_getElem? (i := 161) rfl))) (mvT hZ (hw _ (List.mem_of_getElem? (i := 162) rfl))) (mvT hZ (hw _ (List.mem_of_getElem? (i := 163) rfl))) (by decide) (backOf (W := 4) (own_minN l Z a0 hw [] (N) (cs.length) h5 n0 (O0.keep K9 all0) (hN6) (hc6)) hZ (hw _ (List.mem_of_getElem? (i := 163) rfl)) (hw _ (List.mem_of_getElem? (i := 162) rfl)) (by decide) (by decide)) (g := (mkF m 24 #[.val (.ref d), .val (.int (0 : Int32)), .val (.int (Int32.ofNat cs.length)), .val (.int (Int32.ofNat cs.length)), .val (.ref b5)] [(.int (Int32.ofNat cs.length)), (.int (Int32.ofNat N)), (.int (0 : Int32)), (.ref b5), (.int (0 : Int32)), (.ref d)])) rfl (by rw [hml]; rfl) (argsL := [(.int (Int32.ofNat N)), (.int (Int32.ofNat cs.length))]) (rest := [(.int (0 : Int32)), (.ref b5), (.int (0 : Int32)), (.ref d)]) (lenOf own_pd1 rfl) rfl (by show 2 * 0 + _ ≤ _; exact Nat.le_of_eq rfl) (hb hby own_d_jdk_65_method_133_code_24) (fun _ _ => ⟨rfl, e5, (by decide : 1 + 0 ≤ _), (by decide : 200 + 0 ≤ _)⟩)
  dsimp only [Pt.U, Pt.locs, Pt.cells, Pt.slots] at X14 l14 y14 z14 st14 hQ14
  subst l14 y14 z14
  obtain ⟨rfl, Nq14, hh14⟩ := hQ14
  have N14 := Fr.app N2 Nq14
  have r15 : GoTo p.tables e below s₁ (own_F_own_corb m d cs) T14 (mkF m 27 #[.val (.ref d), .val (.int (0 : Int32)), .val (.int (Int32.ofNat cs.length)), .val (.int (Int32.ofNat cs.length)), .val (.ref b5)] [(.int (Int32.ofNat (min N cs.length))), (.int (0 : Int32)), (.ref b5), (.int (0 : Int32)), (.ref d)]) := fun tt_ kk_ => r13 tt_ (by
      show Steps p.tables e below (T5.setTop (mkF m 23 #[.val (.ref d), .val (.int (0 : Int32)), .val (.int (Int32.ofNat cs.length)), .val (.int (Int32.ofNat cs.length)), .val (.ref b5)] [(.int (Int32.ofNat N)), (.int (0 : Int32)), (.ref b5), (.int (0 : Int32)), (.ref d)])) _
      refine XS.iloadN X5.here hx rfl (hb hby own_d_jdk_65_method_133_code_23) rfl ?_
      show Steps p.tables e below (T5.setTop (mkF m 24 #[.val (.ref d), .val (.int (0 : Int32)), .val (.int (Int32.ofNat cs.length)), .val (.int (Int32.ofNat cs.length)), .val (.ref b5)] [(.int (Int32.ofNat cs.length)), (.int (Int32.ofNat N)), (.int (0 : Int32)), (.ref b5), (.int (0 : Int32)), (.ref d)])) _
      refine st14 _ ?_
      show Steps p.tables e below (T14.setTop (mkF m 27 #[.val (.ref d), .val (.int (0 : Int32)), .val (.int (Int32.ofNat cs.length)), .val (.int (Int32.ofNat cs.length)), .val (.ref b5)] [(.int (Int32.ofNat (min N cs.length))), (.int (0 : Int32)), (.ref b5), (.int (0 : Int32)), (.ref d)])) _
      exact kk_)
  have r16 : GoTo p.tables e below s₁ (own_F_own_corb m d cs) T14 (mkF m 27 #[.val (.ref d), .val (.int (0 : Int32)), .val (.int (Int32.ofNat cs.length)), .val (.int (Int32.ofNat cs.length)), .val (.ref b5)] [(.int (Int32.ofNat cs.length)), (.int (0 : Int32)), (.ref b5), (.int (0 : Int32)), (.ref d)]) := Eq.mp (congrArg (fun zz_ => GoTo p.tables e below s₁ (own_F_own_corb m d cs) T14 (mkF m 27 #[.val (.ref d), .val (.int (0 : Int32)), .val (.int (Int32.ofNat cs.length)), .val (.int (Int32.ofNat cs.length)), .val (.ref b5)] [(.int zz_), (.int (0 : Int32)), (.ref b5), (.int (0 : Int32)), (.ref d)])) (show (Int32.ofNat (min N cs.length)) = (Int32.ofNat cs.length) from by rw [Nat.min_eq_right hcN])) r15
  obtain ⟨us17, hus17⟩ : ∃ us : List Value, us = (List.range cs.length).map fun i => (vs1).getD (0 + i) (.int 0) := ⟨_, rfl⟩
  obtain ⟨T17, h17, L17, X17, e17, N17, Kc17, V17, st17⟩ := cpA X14 hx hZ hown (hw _ (List.mem_of_getElem? (i := 164) rfl)) (hw _ (List.mem_of_getElem? (i := 121) rfl)) (hw _ (List.mem_of_getElem? (i := 119) rfl)) (hw _ (List.mem_of_getElem? (i := 120) rfl)) hh14 (us := us17) f10 Vp (Or.inl ⟨rfl, rfl⟩) (own_negN (by decide : (0 : Nat) ≤ 1000000)) (own_negN (by decide : (0 : Nat) ≤ 1000000)) (own_negN hc6) (by have q0 : (Int32.ofNat 0).toNatClampNeg = 0 := rfl; have q0' : (0 : Int32).toNatClampNeg = 0 := rfl; have q1 := own_clamp hc6; have q2 := own_clamp hN6; (try simp only [List.length_replicate]); omega) (by have q0 : (Int32.ofNat 0).toNatClampNeg = 0 := rfl; have q0' : (0 : Int32).toNatClampNeg = 0 := rfl; have q1 := own_clamp hc6; (try simp only [List.length_replicate]); omega) (by rw [own_clamp hc6, own_clamp (by decide : (0 : Nat) ≤ 1000000)]; exact hus17) (by have q0 : (Int32.ofNat 0).toNatClampNeg = 0 := rfl; have q0' : (0 : Int32).toNatClampNeg = 0 := rfl; have q1 := own_clamp hc6; (try simp only [List.length_replicate]); omega) N14 g7 (g := (mkF m 27 #[.val (.ref d), .val (.int (0 : Int32)), .val (.int (Int32.ofNat cs.length)), .val (.int (Int32.ofNat cs.length)), .val (.ref b5)] [(.int (Int32.ofNat cs.length)), (.int (0 : Int32)), (.ref b5), (.int (0 : Int32)), (.ref d)])) rfl (by rw [hml]; rfl) rfl (hb hby own_d_jdk_65_method_133_code_27) (by decide) (W := 0) (by show 2 * 0 + _ ≤ _; exact Nat.le_of_eq rfl) (by decide)
  rw [own_clamp (by decide : (0 : Nat) ≤ 1000000), own_clamp hc6] at V17
  have K18 : Keep h0 h17 [] := K9.trans Kc17 (allS (Or.inr b8) all0)
  have f19 : Exa Z h17 b5 "[B" := (Ex5.keep Kc17)
  obtain ⟨-, -, -, vq, hq1, hq2, hq3⟩ := own_By.cp f19 hc6 (Nat.le_refl _) (Nat.le_refl _) hus17 hvc1 V17
  obtain ⟨fs, hr, hrun, hended, hW, hsame⟩ := X17.leave (v := some (.ref b5)) (fun h => by rw [Bd.returns] at h; cases h)
  refine ⟨_, _, r16 _ ?_, hrun, hended, _, _, rfl, ?_, ⟨_, rfl⟩, hW, hsame.mono (by decide) (by decide)⟩
  · show Steps p.tables e below (T14.setTop (mkF m 27 #[.val (.ref d), .val (.int (0 : Int32)), .val (.int (Int32.ofNat cs.length)), .val (.int (Int32.ofNat cs.length)), .val (.ref b5)] [(.int (Int32.ofNat cs.length)), (.int (0 : Int32)), (.ref b5), (.int (0 : Int32)), (.ref d)])) _
    refine st17 _ ?_
    show Steps p.tables e below (T17.setTop (mkF m 30 #[.val (.ref d), .val (.int (0 : Int32)), .val (.int (Int32.ofNat cs.length)), .val (.int (Int32.ofNat cs.length)), .val (.ref b5)] [])) _
    refine XS.aload X17.here hx rfl (hb hby own_d_jdk_65_method_133_code_30) rfl rfl ?_
    show Steps p.tables e below (T17.setTop (mkF m 32 #[.val (.ref d), .val (.int (0 : Int32)), .val (.int (Int32.ofNat cs.length)), .val (.int (Int32.ofNat cs.length)), .val (.ref b5)] [(.ref b5)])) _
    exact retOut X17 hx (t := (.array .byte)) Bd.returns rfl (Or.inr (Or.inr (Or.inr (Or.inr ⟨rfl, rfl, rfl⟩)))) (hb hby own_d_jdk_65_method_133_code_32) hr
  · show Q_own_corb Z d kd N cs h0 n0 _ T17.heap _
    rw [e17]
    exact ⟨b5, k5, rfl, N17, K18, b8, g7, own_arvStr hq1 hq3 hq2, f19⟩
theorem own_pn_own_cor : plainName "java/util/Arrays" = true := by first | (simp [plainName, overriddenIn]; done) | decide +kernel
theorem own_ef_own_cor (m : MethodId) (d : Addr) (cs : List Int32) : entryFrame m #[(.ref d), (.int (0 : Int32)), (.int (Int32.ofNat cs.length))] 3 = mkF m 0 #[.val (.ref d), .val (.int (0 : Int32)), .val (.int (Int32.ofNat cs.length))] [] := by first | (simp [entryFrame, mkF, argsToLocals, own_cI, own_cJ, own_cR, own_cN]; done) | rfl
abbrev own_F_own_cor (m : MethodId) (d : Addr) (cs : List Int32) : JFrame := entryFrame m #[(.ref d), (.int (0 : Int32)), (.int (Int32.ofNat cs.length))] 3
def Q_own_cor (Z : State) (d : Addr) (kd : ClassId) (N : Nat) (cs : List Int32) (h0 : Heap) (n0 : Nat) (v : Option Value) (h : Heap) (L : List Loc) : Prop := ∃ (b2 : Addr), ∃ (k2 : ClassId), v = some (.ref b2) ∧ Fr n0 L ∧ Keep h0 h [] ∧ (h0.size ≤ b2) ∧ (n0 ≤ b2) ∧ (Arv Z h b2 k2 .byte (Int32.ofNat cs.length) ((cs.map fun c => c.toInt8.toInt32).map Value.int) (.int (0 : Int32))) ∧ (Exa Z h b2 "[B")
set_option maxRecDepth 65536 in
set_option maxHeartbeats 40000000 in
theorem own_cor (l : Launch) (Z : State) (a0 : Array Value) (hw : ∀ d ∈ tables_1, d.before a0 Z = true) (ws : List Jvm.Cond) (d : Addr) (kd : ClassId) (N : Nat) (cs : List Int32) (h0 : Heap) (n0 : Nat) (O0 : Old Z n0 h0) (hp0 : own_By Z h0 d kd N cs) (hcc : cs.length ≤ 200) :
    MetFree l (⟨"java/util/Arrays", "copyOfRange", "([BII)[B"⟩ : MethodName) (head1 (Jvm.Cond.code (⟨"java/util/Arrays", "copyOfRange", "([BII)[B"⟩ : MethodName) jdk_65_method_132_code 3 (some (.array .byte)) :: ws) ({ frames := 2, cells := 1, slots := 200, locals := 34 } : Room)) (fun aa_ U_ => aa_ = #[(.ref d), (.int (0 : Int32)), (.int (Int32.ofNat cs.length))] ∧ Z.Warmed39 U_.vm ∧ U_.heap = h0) (fun _ _ _ _ _ => True) (fun _ U_ o_ V_ => ∃ v_ L_, o_ = .returned v_ ∧ Q_own_cor Z d kd N cs h0 n0 v_ V_.heap L_ ∧ FrameEnd U_ o_ V_ L_ ({ frames := 2, cells := 1, slots := 200, locals := 34 } : Room).cells ({ frames := 2, cells := 1, slots := 200, locals := 34 } : Room).slots) := by
  refine MetFree.of_bodySF (plainFor_of_name own_pn_own_cor) hisR ?_
  intro p e s m args below meth c s₁ Bd hml0 hP hK
  obtain ⟨rfl, hZ, hh⟩ := hP
  have hx := Bd.exec
  have hby := Bd.bytes
  have hml : c.maxLocals = 3 := hml0
  have hown : s.vm.findClass "java/util/Arrays" = some m.cls := findClass_of_methodNamed Bd.named
  have hnm := (name_of_methodNamed Bd.named Bd.method).1
  have X0 : Stand p l e ({ frames := 2, cells := 1, slots := 200, locals := 34 } : Room) s m #[(.ref d), (.int (0 : Int32)), (.int (Int32.ofNat cs.length))] below meth c s₁ [] 0 0 := Stand.of_body Bd
  have e0 : s₁.heap = h0 := by rw [← hh, Bd.state]; rfl
  have N0 := Fr.nil n0
  have K0 : Keep h0 h0 [] := Keep.refl _ _
  have r0 : GoTo p.tables e below s₁ (own_F_own_cor m d cs) s₁ (mkF m 0 #[.val (.ref d), .val (.int (0 : Int32)), .val (.int (Int32.ofNat cs.length))] []) := fun tt_ kk_ => castTop (own_ef_own_cor m d cs) kk_
  obtain ⟨vs1, hvl1, hva1, hvc1⟩ := own_By.arv hp0
  have hN6 := hp0.2.2.1
  have hcN := hp0.2.1
  have hc6 : cs.length ≤ 1000000 := by omega
  obtain ⟨cl2, Ar2, q2, S2, NN2, H2, G2⟩ := id hva1
  have r3 : GoTo p.tables e below s₁ (own_F_own_cor m d cs) s₁ (mkF m 7 #[.val (.ref d), .val (.int (0 : Int32)), .val (.int (Int32.ofNat cs.length))] [(.int (Int32.ofNat N)), (.int (Int32.ofNat cs.length))]) := fun tt_ kk_ => r0 tt_ (by
      show Steps p.tables e below (s₁.setTop (mkF m 0 #[.val (.ref d), .val (.int (0 : Int32)), .val (.int (Int32.ofNat cs.length))] [])) _
      refine XS.iloadN X0.here hx rfl (hb hby own_d_jdk_65_method_132_code_0) rfl ?_
      show Steps p.tables e below (s₁.setTop (mkF m 1 #[.val (.ref d), .val (.int (0 : Int32)), .val (.int (Int32.ofNat cs.length))] [(.int (0 : Int32))])) _
      refine XS.ifNo X0.here hx rfl (hb hby own_d_jdk_65_method_132_code_1) rfl ((if0 _ _).trans (teq rfl).2) ?_
      show Steps p.tables e below (s₁.setTop (mkF m 4 #[.val (.ref d), .val (.int (0 : Int32)), .val (.int (Int32.ofNat cs.length))] [])) _
      refine XS.iloadN X0.here hx rfl (hb hby own_d_jdk_65_method_132_code_4) rfl ?_
      show Steps p.tables e below (s₁.setTop (mkF m 5 #[.val (.ref d), .val (.int (0 : Int32)), .val (.int (Int32.ofNat cs.length))] [(.int (Int32.ofNat cs.length))])) _
      refine XS.aloadN X0.here hx rfl (hb hby own_d_jdk_65_method_132_code_5) rfl rfl ?_
      show Steps p.tables e below (s₁.setTop (mkF m 6 #[.val (.ref d), .val (.int (0 : Int32)), .val (.int (Int32.ofNat cs.length))] [(.ref d), (.int (Int32.ofNat cs.length))])) _
      refine X0.arraylength hx (by rw [e0]; exact Ar2.1) (State.isArrayOf_alike hZ.alike Ar2.2.1) (g := (mkF m 6 #[.val (.ref d), .val (.int (0 : Int32)), .val (.int (Int32.ofNat cs.length))] [(.ref d), (.int (Int32.ofNat cs.length))])) rfl rfl (hb hby own_d_jdk_65_method_132_code_6) _ ?_
      rw [len_of S2 NN2]
      show Steps p.tables e below (s₁.setTop (mkF m 7 #[.val (.ref d), .val (.int (0 : Int32)), .val (.int (Int32.ofNat cs.length))] [(.int (Int32.ofNat N)), (.int (Int32.ofNat cs.length))])) _
      exact kk_)
  by_cases hcn : cs.length = N
  · obtain ⟨T4, h4, X4, e4, E4, A4, Ex4, st4⟩ := cloneH X0 hx hZ hown (hw _ (List.mem_of_getElem? (i := 224) rfl)) (hw _ (List.mem_of_getElem? (i := 225) rfl)) (hw _ (List.mem_of_getElem? (i := 229) rfl)) (hw _ (List.mem_of_getElem? (i := 227) rfl)) (hw _ (List.mem_of_getElem? (i := 228) rfl)) (hw _ (List.mem_of_getElem? (i := 230) rfl)) e0 (Arv.arh hva1) hp0.1 (g := (mkF m 18 #[.val (.ref d), .val (.int (0 : Int32)), .val (.int (Int32.ofNat cs.length))] [(.ref d)])) rfl (by rw [hml]; rfl) rfl (hb hby own_d_jdk_65_method_132_code_18) (by decide) (W := 0) (cap := 200) (by show 2 * 0 + _ ≤ _; exact Nat.le_of_eq rfl) (by decide) (by rw [own_clamp hN6]; omega) (by decide) (by decide)
    obtain ⟨b4, gg4⟩ : ∃ z, z = h0.size := ⟨_, rfl⟩
    rw [← gg4] at A4 Ex4 st4
    have ne5 : d ≠ b4 := Nat.ne_of_lt (Nat.lt_of_lt_of_le hp0.lt (Nat.le_of_eq gg4.symm))
    have g6 : n0 ≤ b4 := Nat.le_trans (Nat.le_trans (own_le O0) K0.1) (Nat.le_of_eq gg4.symm)
    have b7 : h0.size ≤ b4 := Nat.le_trans K0.1 (Nat.le_of_eq gg4.symm)
    have K8 : Keep h0 h4 [] := K0.ext E4
    have V4 : Arv Z h4 b4 kd .byte (Int32.ofNat N) vs1 (.int (0 : Int32)) := A4
    obtain ⟨T9, X9, e9, st9⟩ := castY X4 hx hZ hown (hw _ (List.mem_of_getElem? (i := 231) rfl)) e4 (Ins.self Ex4) (g := (mkF m 21 #[.val (.ref d), .val (.int (0 : Int32)), .val (.int (Int32.ofNat cs.length))] [(.ref b4)])) rfl rfl (hb hby own_d_jdk_65_method_132_code_21)
    obtain ⟨fs, hr, hrun, hended, hW, hsame⟩ := X9.leave (v := some (.ref b4)) (fun h => by rw [Bd.returns] at h; cases h)
    refine ⟨_, _, r3 _ ?_, hrun, hended, _, _, rfl, ?_, ⟨_, rfl⟩, hW, hsame.mono (by decide) (by decide)⟩
    · show Steps p.tables e below (s₁.setTop (mkF m 7 #[.val (.ref d), .val (.int (0 : Int32)), .val (.int (Int32.ofNat cs.length))] [(.int (Int32.ofNat N)), (.int (Int32.ofNat cs.length))])) _
      refine XS.icmpYes X0.here hx rfl (pc0 := 7) (pc' := 17) rfl (hb hby own_d_jdk_65_method_132_code_7) rfl (teq ((own_eqN hc6 hN6).mpr hcn)).1 (by decide) (by decide) ?_
      show Steps p.tables e below (s₁.setTop (mkF m 17 #[.val (.ref d), .val (.int (0 : Int32)), .val (.int (Int32.ofNat cs.length))] [])) _
      refine XS.aloadN X0.here hx rfl (hb hby own_d_jdk_65_method_132_code_17) rfl rfl ?_
      show Steps p.tables e below (s₁.setTop (mkF m 18 #[.val (.ref d), .val (.int (0 : Int32)), .val (.int (Int32.ofNat cs.length))] [(.ref d)])) _
      refine st4 _ ?_
      show Steps p.tables e below (T4.setTop (mkF m 21 #[.val (.ref d), .val (.int (0 : Int32)), .val (.int (Int32.ofNat cs.length))] [(.ref b4)])) _
      refine st9 _ ?_
      show Steps p.tables e below (T9.setTop (mkF m 24 #[.val (.ref d), .val (.int (0 : Int32)), .val (.int (Int32.ofNat cs.length))] [(.ref b4)])) _
      exact retOut X9 hx (t := (.array .byte)) Bd.returns rfl (Or.inr (Or.inr (Or.inr (Or.inr ⟨rfl, rfl, rfl⟩)))) (hb hby own_d_jdk_65_method_132_code_24) hr
    · show Q_own_cor Z d kd N cs h0 n0 _ T9.heap _
      rw [e9]
      exact ⟨b4, kd, rfl, N0, K8, b7, g6, own_arvStr (hvl1.trans hcn.symm) hvc1 (hcn ▸ V4), Ex4⟩
  · obtain ⟨_, _, ⟨T10, L10, k10, n10⟩, -, X10, ⟨Lc10, hQ10, l10, y10, z10⟩, st10⟩ := Jvm.LawKit.callS X0 hx (y := (⟨"java/util/Arrays", "copyOfRangeByte", "([BII)[B"⟩ : MethodName)) hown (mvT hZ (hw _ (List.mem_of_getElem? (i := 154) rfl))) (mvT hZ (hw _ (List.mem_of_getElem? (i := 155) rfl))) (mvT hZ (hw _ (List.mem_of_getElem? (i := 152) rfl))) (mvT hZ (hw _ (List.mem_of_getElem? (i := 156) rfl))) (by decide) (backOf (W := 0) (own_corb l Z a0 hw [] (d) (kd) (N) (cs) h0 n0 (O0.keep K0 all0) (hp0) (hcc)) hZ (hw _ (List.mem_of_getElem? (i := 156) rfl)) (hw _ (List.mem_of_getElem? (i := 152) rfl)) (by decide) (by decide)) (g := (mkF m 13 #[.val (.ref d), .val (.int (0 : Int32)), .val (.int (Int32.ofNat cs.length))] [(.int (Int32.ofNat cs.length)), (.int (0 : Int32)), (.ref d)])) rfl (by rw [hml]; rfl) (argsL := [(.ref d), (.int (0 : Int32)), (.int (Int32.ofNat cs.length))]) (rest := []) (lenOf own_pd17 rfl) rfl (by show 2 * 0 + _ ≤ _; exact Nat.le_of_eq rfl) (hb hby own_d_jdk_65_method_132_code_13) (fun _ _ => ⟨rfl, e0, (by decide : 0 + 1 ≤ _), (by decide : 0 + 200 ≤ _)⟩)
    dsimp only [Pt.U, Pt.locs, Pt.cells, Pt.slots] at X10 l10 y10 z10 st10 hQ10
    subst l10 y10 z10
    obtain ⟨b2_10, k2_10, rfl, Nq10, Kq10, po10_0, po10_1, po10_2, po10_3⟩ := hQ10
    have N10 := Fr.app N0 Nq10
    have ne11 : d ≠ b2_10 := Nat.ne_of_lt (Nat.lt_of_lt_of_le hp0.lt po10_0)
    have g12 : n0 ≤ b2_10 := Nat.le_trans (Nat.le_trans (own_le O0) K0.1) po10_0
    have b13 : h0.size ≤ b2_10 := Nat.le_trans K0.1 po10_0
    have K14 : Keep h0 T10.heap [] := K0.trans Kq10 all0
    obtain ⟨fs, hr, hrun, hended, hW, hsame⟩ := X10.leave (v := some (.ref b2_10)) (fun h => by rw [Bd.returns] at h; cases h)
    refine ⟨_, _, r3 _ ?_, hrun, hended, _, _, rfl, ?_, ⟨_, rfl⟩, hW, hsame.mono (by decide) (by decide)⟩
    · show Steps p.tables e below (s₁.setTop (mkF m 7 #[.val (.ref d), .val (.int (0 : Int32)), .val (.int (Int32.ofNat cs.length))] [(.int (Int32.ofNat N)), (.int (Int32.ofNat cs.length))])) _
      refine XS.icmpNo X0.here hx rfl (hb hby own_d_jdk_65_method_132_code_7) rfl (feq (fun q => hcn ((own_eqN hc6 hN6).mp q))).1 ?_
      show Steps p.tables e below (s₁.setTop (mkF m 10 #[.val (.ref d), .val (.int (0 : Int32)), .val (.int (Int32.ofNat cs.length))] [])) _
      refine XS.aloadN X0.here hx rfl (hb hby own_d_jdk_65_method_132_code_10) rfl rfl ?_
      show Steps p.tables e below (s₁.setTop (mkF m 11 #[.val (.ref d), .val (.int (0 : Int32)), .val (.int (Int32.ofNat cs.length))] [(.ref d)])) _
      refine XS.iloadN X0.here hx rfl (hb hby own_d_jdk_65_method_132_code_11) rfl ?_
      show Steps p.tables e below (s₁.setTop (mkF m 12 #[.val (.ref d), .val (.int (0 : Int32)), .val (.int (Int32.ofNat cs.length))] [(.int (0 : Int32)), (.ref d)])) _
      refine XS.iloadN X0.here hx rfl (hb hby own_d_jdk_65_method_132_code_12) rfl ?_
      show Steps p.tables e below (s₁.setTop (mkF m 13 #[.val (.ref d), .val (.int (0 : Int32)), .val (.int (Int32.ofNat cs.length))] [(.int (Int32.ofNat cs.length)), (.int (0 : Int32)), (.ref d)])) _
      refine st10 _ ?_
      show Steps p.tables e below (T10.setTop (mkF m 16 #[.val (.ref d), .val (.int (0 : Int32)), .val (.int (Int32.ofNat cs.length))] [(.ref b2_10)])) _
      exact retOut X10 hx (t := (.array .byte)) Bd.returns rfl (Or.inr (Or.inr (Or.inr (Or.inr ⟨rfl, rfl, rfl⟩)))) (hb hby own_d_jdk_65_method_132_code_16) hr
    · show Q_own_cor Z d kd N cs h0 n0 _ T10.heap _
      exact ⟨b2_10, k2_10, rfl, N10, K14, b13, po10_1, po10_2, po10_3⟩
theorem own_pn_own_agetValue : plainName "java/lang/AbstractStringBuilder" = true := by first | (simp [plainName, overriddenIn]; done) | decide +kernel
theorem own_ef_own_agetValue (m : MethodId) (b : Addr) : entryFrame m #[(.ref b)] 1 = mkF m 0 #[.val (.ref b)] [] := by first | (simp [entryFrame, mkF, argsToLocals, own_cI, own_cJ, own_cR, own_cN]; done) | rfl
abbrev own_F_own_agetValue (m : MethodId) (b : Addr) : JFrame := entryFrame m #[(.ref b)] 1
def Q_own_agetValue (Z : State) (b : Addr) (d : Addr) (h0 : Heap) (n0 : Nat) (v : Option Value) (h : Heap) (L : List Loc) : Prop := v = some (.ref d) ∧ Fr n0 L ∧ h = h0
set_option maxRecDepth 65536 in
set_option maxHeartbeats 40000000 in
theorem own_agetValue (l : Launch) (Z : State) (a0 : Array Value) (hw : ∀ d ∈ tables_1, d.before a0 Z = true) (ws : List Jvm.Cond) (b : Addr) (d : Addr) (h0 : Heap) (n0 : Nat) (O0 : Old Z n0 h0) (hp0 : Fld Z h0 b "java/lang/AbstractStringBuilder" "value" "[B" (.ref d)) :
    MetFree l (⟨"java/lang/AbstractStringBuilder", "getValue", "()[B"⟩ : MethodName) (head1 (Jvm.Cond.code (⟨"java/lang/AbstractStringBuilder", "getValue", "()[B"⟩ : MethodName) jdk_68_method_64_code 1 (some (.array .byte)) :: ws) ({ frames := 0, cells := 0, slots := 0, locals := 0 } : Room)) (fun aa_ U_ => aa_ = #[(.ref b)] ∧ Z.Warmed39 U_.vm ∧ U_.heap = h0) (fun _ _ _ _ _ => True) (fun _ U_ o_ V_ => ∃ v_ L_, o_ = .returned v_ ∧ Q_own_agetValue Z b d h0 n0 v_ V_.heap L_ ∧ FrameEnd U_ o_ V_ L_ ({ frames := 0, cells := 0, slots := 0, locals := 0 } : Room).cells ({ frames := 0, cells := 0, slots := 0, locals := 0 } : Room).slots) := by
  refine MetFree.of_bodySF (plainFor_of_name own_pn_own_agetValue) hisR ?_
  intro p e s m args below meth c s₁ Bd hml0 hP hK
  obtain ⟨rfl, hZ, hh⟩ := hP
  have hx := Bd.exec
  have hby := Bd.bytes
  have hml : c.maxLocals = 1 := hml0
  have hown : s.vm.findClass "java/lang/AbstractStringBuilder" = some m.cls := findClass_of_methodNamed Bd.named
  have hnm := (name_of_methodNamed Bd.named Bd.method).1
  have X0 : Stand p l e ({ frames := 0, cells := 0, slots := 0, locals := 0 } : Room) s m #[(.ref b)] below meth c s₁ [] 0 0 := Stand.of_body Bd
  have e0 : s₁.heap = h0 := by rw [← hh, Bd.state]; rfl
  have N0 := Fr.nil n0
  have K0 : Keep h0 h0 [] := Keep.refl _ _
  have r0 : GoTo p.tables e below s₁ (own_F_own_agetValue m b) s₁ (mkF m 0 #[.val (.ref b)] []) := fun tt_ kk_ => castTop (own_ef_own_agetValue m b) kk_
  obtain ⟨T1, X1, e1, st1⟩ := getF X0 hx hZ hown (host := "") (Or.inl (hw _ (List.mem_of_getElem? (i := 40) rfl))) Via.refl e0 hp0 (g := (mkF m 1 #[.val (.ref b)] [(.ref b)])) rfl rfl (hb hby own_d_jdk_68_method_64_code_1)
  obtain ⟨fs, hr, hrun, hended, hW, hsame⟩ := X1.leave (v := some (.ref d)) (fun h => by rw [Bd.returns] at h; cases h)
  refine ⟨_, _, r0 _ ?_, hrun, hended, _, _, rfl, ?_, ⟨_, rfl⟩, hW, hsame.mono (by decide) (by decide)⟩
  · show Steps p.tables e below (s₁.setTop (mkF m 0 #[.val (.ref b)] [])) _
    refine XS.aloadN X0.here hx rfl (hb hby own_d_jdk_68_method_64_code_0) rfl rfl ?_
    show Steps p.tables e below (s₁.setTop (mkF m 1 #[.val (.ref b)] [(.ref b)])) _
    refine st1 _ ?_
    show Steps p.tables e below (T1.setTop (mkF m 4 #[.val (.ref b)] [(.ref d)])) _
    exact retOut X1 hx (t := (.array .byte)) Bd.returns rfl (Or.inr (Or.inr (Or.inr (Or.inr ⟨rfl, rfl, rfl⟩)))) (hb hby own_d_jdk_68_method_64_code_4) hr
  · show Q_own_agetValue Z b d h0 n0 _ T1.heap _
    rw [e1]
    exact ⟨rfl, N0, rfl⟩
theorem own_pn_own_alength : plainName "java/lang/AbstractStringBuilder" = true := by first | (simp [plainName, overriddenIn]; done) | decide +kernel
theorem own_ef_own_alength (m : MethodId) (b : Addr) : entryFrame m #[(.ref b)] 1 = mkF m 0 #[.val (.ref b)] [] := by first | (simp [entryFrame, mkF, argsToLocals, own_cI, own_cJ, own_cR, own_cN]; done) | rfl
abbrev own_F_own_alength (m : MethodId) (b : Addr) : JFrame := entryFrame m #[(.ref b)] 1
def Q_own_alength (Z : State) (b : Addr) (cs : List Int32) (h0 : Heap) (n0 : Nat) (v : Option Value) (h : Heap) (L : List Loc) : Prop := v = some (.int (Int32.ofNat cs.length)) ∧ Fr n0 L ∧ h = h0
set_option maxRecDepth 65536 in
set_option maxHeartbeats 40000000 in
theorem own_alength (l : Launch) (Z : State) (a0 : Array Value) (hw : ∀ d ∈ tables_1, d.before a0 Z = true) (ws : List Jvm.Cond) (b : Addr) (cs : List Int32) (h0 : Heap) (n0 : Nat) (O0 : Old Z n0 h0) (hp0 : Fld Z h0 b "java/lang/AbstractStringBuilder" "count" "I" (.int (Int32.ofNat cs.length))) :
    MetFree l (⟨"java/lang/AbstractStringBuilder", "length", "()I"⟩ : MethodName) (head1 (Jvm.Cond.code (⟨"java/lang/AbstractStringBuilder", "length", "()I"⟩ : MethodName) jdk_68_method_6_code 1 (some .int) :: ws) ({ frames := 0, cells := 0, slots := 0, locals := 0 } : Room)) (fun aa_ U_ => aa_ = #[(.ref b)] ∧ Z.Warmed39 U_.vm ∧ U_.heap = h0) (fun _ _ _ _ _ => True) (fun _ U_ o_ V_ => ∃ v_ L_, o_ = .returned v_ ∧ Q_own_alength Z b cs h0 n0 v_ V_.heap L_ ∧ FrameEnd U_ o_ V_ L_ ({ frames := 0, cells := 0, slots := 0, locals := 0 } : Room).cells ({ frames := 0, cells := 0, slots := 0, locals := 0 } : Room).slots) := by
  refine MetFree.of_bodySF (plainFor_of_name own_pn_own_alength) hisR ?_
  intro p e s m args below meth c s₁ Bd hml0 hP hK
  obtain ⟨rfl, hZ, hh⟩ := hP
  have hx := Bd.exec
  have hby := Bd.bytes
  have hml : c.maxLocals = 1 := hml0
  have hown : s.vm.findClass "java/lang/AbstractStringBuilder" = some m.cls := findClass_of_methodNamed Bd.named
  have hnm := (name_of_methodNamed Bd.named Bd.method).1
  have X0 : Stand p l e ({ frames := 0, cells := 0, slots := 0, locals := 0 } : Room) s m #[(.ref b)] below meth c s₁ [] 0 0 := Stand.of_body Bd
  have e0 : s₁.heap = h0 := by rw [← hh, Bd.state]; rfl
  have N0 := Fr.nil n0
  have K0 : Keep h0 h0 [] := Keep.refl _ _
  have r0 : GoTo p.tables e below s₁ (own_F_own_alength m b) s₁ (mkF m 0 #[.val (.ref b)] []) := fun tt_ kk_ => castTop (own_ef_own_alength m b) kk_
  obtain ⟨T1, X1, e1, st1⟩ := getF X0 hx hZ hown (host := "") (Or.inl (hw _ (List.mem_of_getElem? (i := 54) rfl))) Via.refl e0 hp0 (g := (mkF m 1 #[.val (.ref b)] [(.ref b)])) rfl rfl (hb hby own_d_jdk_68_method_6_code_1)
  obtain ⟨fs, hr, hrun, hended, hW, hsame⟩ := X1.leave (v := some (.int (Int32.ofNat cs.length))) (fun h => by rw [Bd.returns] at h; cases h)
  refine ⟨_, _, r0 _ ?_, hrun, hended, _, _, rfl, ?_, ⟨_, rfl⟩, hW, hsame.mono (by decide) (by decide)⟩
  · show Steps p.tables e below (s₁.setTop (mkF m 0 #[.val (.ref b)] [])) _
    refine XS.aloadN X0.here hx rfl (hb hby own_d_jdk_68_method_6_code_0) rfl rfl ?_
    show Steps p.tables e below (s₁.setTop (mkF m 1 #[.val (.ref b)] [(.ref b)])) _
    refine st1 _ ?_
    show Steps p.tables e below (T1.setTop (mkF m 4 #[.val (.ref b)] [(.int (Int32.ofNat cs.length))])) _
    exact retI X1 hx Bd.returns (hb hby own_d_jdk_68_method_6_code_4) hr
  · show Q_own_alength Z b cs h0 n0 _ T1.heap _
    rw [e1]
    exact ⟨rfl, N0, rfl⟩
theorem own_pn_own_slength : plainName "java/lang/StringBuilder" = true := by first | (simp [plainName, overriddenIn]; done) | decide +kernel
theorem own_ef_own_slength (m : MethodId) (b : Addr) : entryFrame m #[(.ref b)] 1 = mkF m 0 #[.val (.ref b)] [] := by first | (simp [entryFrame, mkF, argsToLocals, own_cI, own_cJ, own_cR, own_cN]; done) | rfl
abbrev own_F_own_slength (m : MethodId) (b : Addr) : JFrame := entryFrame m #[(.ref b)] 1
def Q_own_slength (Z : State) (b : Addr) (cs : List Int32) (h0 : Heap) (n0 : Nat) (v : Option Value) (h : Heap) (L : List Loc) : Prop := v = some (.int (Int32.ofNat cs.length)) ∧ Fr n0 L ∧ h = h0
set_option maxRecDepth 65536 in
set_option maxHeartbeats 40000000 in
theorem own_slength (l : Launch) (Z : State) (a0 : Array Value) (hw : ∀ d ∈ tables_1, d.before a0 Z = true) (ws : List Jvm.Cond) (b : Addr) (cs : List Int32) (h0 : Heap) (n0 : Nat) (O0 : Old Z n0 h0) (hp0 : Exa Z h0 b "java/lang/StringBuilder") (hp1 : Fld Z h0 b "java/lang/AbstractStringBuilder" "count" "I" (.int (Int32.ofNat cs.length))) :
    MetFree l (⟨"java/lang/StringBuilder", "length", "()I"⟩ : MethodName) (head1 (Jvm.Cond.code (⟨"java/lang/StringBuilder", "length", "()I"⟩ : MethodName) jdk_67_method_93_code 1 (some .int) :: ws) ({ frames := 1, cells := 0, slots := 0, locals := 12 } : Room)) (fun aa_ U_ => aa_ = #[(.ref b)] ∧ Z.Warmed39 U_.vm ∧ U_.heap = h0) (fun _ _ _ _ _ => True) (fun _ U_ o_ V_ => ∃ v_ L_, o_ = .returned v_ ∧ Q_own_slength Z b cs h0 n0 v_ V_.heap L_ ∧ FrameEnd U_ o_ V_ L_ ({ frames := 1, cells := 0, slots := 0, locals := 12 } : Room).cells ({ frames := 1, cells := 0, slots := 0, locals := 12 } : Room).slots) := by
  refine MetFree.of_bodySF (plainFor_of_name own_pn_own_slength) hisR ?_
  intro p e s m args below meth c s₁ Bd hml0 hP hK
  obtain ⟨rfl, hZ, hh⟩ := hP
  have hx := Bd.exec
  have hby := Bd.bytes
  have hml : c.maxLocals = 1 := hml0
  have hown : s.vm.findClass "java/lang/StringBuilder" = some m.cls := findClass_of_methodNamed Bd.named
  have hnm := (name_of_methodNamed Bd.named Bd.method).1
  have X0 : Stand p l e ({ frames := 1, cells := 0, slots := 0, locals := 12 } : Room) s m #[(.ref b)] below meth c s₁ [] 0 0 := Stand.of_body Bd
  have e0 : s₁.heap = h0 := by rw [← hh, Bd.state]; rfl
  have N0 := Fr.nil n0
  have K0 : Keep h0 h0 [] := Keep.refl _ _
  have r0 : GoTo p.tables e below s₁ (own_F_own_slength m b) s₁ (mkF m 0 #[.val (.ref b)] []) := fun tt_ kk_ => castTop (own_ef_own_slength m b) kk_
  obtain ⟨_, _, ⟨T1, L1, k1, n1⟩, -, X1, ⟨Lc1, hQ1, l1, y1, z1⟩, st1⟩ := superBack X0 hx hZ (y := (⟨"java/lang/AbstractStringBuilder", "length", "()I"⟩ : MethodName)) hown (hw _ (List.mem_of_getElem? (i := 147) rfl)) (own_sameSelf (y := (⟨"java/lang/AbstractStringBuilder", "length", "()I"⟩ : MethodName)) (hw _ (List.mem_of_getElem? (i := 63) rfl)) rfl (hw _ (List.mem_of_getElem? (i := 143) rfl)) (by decide)) (hw _ (List.mem_of_getElem? (i := 143) rfl)) (hw _ (List.mem_of_getElem? (i := 51) rfl)) (by decide) (backOf (W := 0) (own_alength l Z a0 hw [] (b) (cs) h0 n0 (O0.keep K0 all0) (hp1)) hZ (hw _ (List.mem_of_getElem? (i := 148) rfl)) (hw _ (List.mem_of_getElem? (i := 34) rfl)) (by decide) (by decide)) e0 (Ins.self hp0) (g := (mkF m 1 #[.val (.ref b)] [(.ref b)])) rfl (by rw [hml]; rfl) (hw _ (List.mem_of_getElem? (i := 148) rfl)) (argsL := []) (rest := []) (lenOf own_pd14 rfl) rfl (by show 2 * 0 + _ ≤ _; exact Nat.le_of_eq rfl) (hb hby own_d_jdk_67_method_93_code_1) (fun _ _ => ⟨rfl, e0, (by decide : 0 + 0 ≤ _), (by decide : 0 + 0 ≤ _)⟩)
  dsimp only [Pt.U, Pt.locs, Pt.cells, Pt.slots] at X1 l1 y1 z1 st1 hQ1
  subst l1 y1 z1
  obtain ⟨rfl, Nq1, hh1⟩ := hQ1
  have N1 := Fr.app N0 Nq1
  obtain ⟨fs, hr, hrun, hended, hW, hsame⟩ := X1.leave (v := some (.int (Int32.ofNat cs.length))) (fun h => by rw [Bd.returns] at h; cases h)
  refine ⟨_, _, r0 _ ?_, hrun, hended, _, _, rfl, ?_, ⟨_, rfl⟩, hW, hsame.mono (by decide) (by decide)⟩
  · show Steps p.tables e below (s₁.setTop (mkF m 0 #[.val (.ref b)] [])) _
    refine XS.aloadN X0.here hx rfl (hb hby own_d_jdk_67_method_93_code_0) rfl rfl ?_
    show Steps p.tables e below (s₁.setTop (mkF m 1 #[.val (.ref b)] [(.ref b)])) _
    refine st1.trans ?_
    show Steps p.tables e below (T1.setTop (mkF m 4 #[.val (.ref b)] [(.int (Int32.ofNat cs.length))])) _
    exact retI X1 hx Bd.returns (hb hby own_d_jdk_67_method_93_code_4) hr
  · show Q_own_slength Z b cs h0 n0 _ T1.heap _
    rw [hh1]
    exact ⟨rfl, N1, rfl⟩
theorem own_pn_own_strA : plainName "java/lang/String" = true := by first | (simp [plainName, overriddenIn]; done) | decide +kernel
theorem own_ef_own_strA (m : MethodId) (x : Addr) (b : Addr) : entryFrame m #[(.ref x), (.ref b), .null] 5 = mkF m 0 #[.val (.ref x), .val (.ref b), .val .null, .unset, .unset] [] := by first | (simp [entryFrame, mkF, argsToLocals, own_cI, own_cJ, own_cR, own_cN]; done) | rfl
abbrev own_F_own_strA (m : MethodId) (x : Addr) (b : Addr) : JFrame := entryFrame m #[(.ref x), (.ref b), .null] 5
def Q_own_strA (Z : State) (x : Addr) (b : Addr) (d : Addr) (kd : ClassId) (N : Nat) (cs : List Int32) (gCS : Int32) (h0 : Heap) (n0 : Nat) (v : Option Value) (h : Heap) (L : List Loc) : Prop := ∃ (t : Addr), ∃ (kt : ClassId), v = none ∧ Fr n0 L ∧ Keep h0 h [x] ∧ (h0.size ≤ t) ∧ (n0 ≤ t) ∧ (own_Str Z h x t kt cs)
set_option maxRecDepth 65536 in
set_option maxHeartbeats 40000000 in
theorem own_strA (l : Launch) (Z : State) (a0 : Array Value) (hw : ∀ d ∈ tables_1, d.before a0 Z = true) (ws : List Jvm.Cond) (x : Addr) (b : Addr) (d : Addr) (kd : ClassId) (N : Nat) (cs : List Int32) (gCS : Int32) (h0 : Heap) (n0 : Nat) (O0 : Old Z n0 h0) (hp0 : Exa Z h0 x "java/lang/String") (hp1 : n0 ≤ x) (hp2 : Fld Z h0 x "java/lang/String" "value" "[B" .null) (hp3 : Fld Z h0 x "java/lang/String" "coder" "B" (.int (0 : Int32))) (hp4 : own_SB Z h0 b d kd N cs) (hp5 : x ≠ b) (hp6 : x ≠ d) (hcc : cs.length ≤ 200) (hp8 : Sta Z Z.heap "java/lang/String" "COMPACT_STRINGS" "Z" (.int gCS)) (hG1 : ¬ gCS = (0 : Int32)) :
    MetFree l (⟨"java/lang/String", "<init>", "(Ljava/lang/AbstractStringBuilder;Ljava/lang/Void;)V"⟩ : MethodName) (head1 (Jvm.Cond.code (⟨"java/lang/String", "<init>", "(Ljava/lang/AbstractStringBuilder;Ljava/lang/Void;)V"⟩ : MethodName) jdk_42_method_150_code 5 none :: ws) ({ frames := 3, cells := 1, slots := 200, locals := 49 } : Room)) (fun aa_ U_ => aa_ = #[(.ref x), (.ref b), .null] ∧ Z.Warmed39 U_.vm ∧ U_.heap = h0) (fun _ _ _ _ _ => True) (fun _ U_ o_ V_ => ∃ v_ L_, o_ = .returned v_ ∧ Q_own_strA Z x b d kd N cs gCS h0 n0 v_ V_.heap L_ ∧ FrameEnd U_ o_ V_ L_ ({ frames := 3, cells := 1, slots := 200, locals := 49 } : Room).cells ({ frames := 3, cells := 1, slots := 200, locals := 49 } : Room).slots) := by
  refine MetFree.of_bodySF (plainFor_of_name own_pn_own_strA) hisR ?_
  intro p e s m args below meth c s₁ Bd hml0 hP hK
  obtain ⟨rfl, hZ, hh⟩ := hP
  have hx := Bd.exec
  have hby := Bd.bytes
  have hml : c.maxLocals = 5 := hml0
  have hown : s.vm.findClass "java/lang/String" = some m.cls := findClass_of_methodNamed Bd.named
  have hnm := (name_of_methodNamed Bd.named Bd.method).1
  have X0 : Stand p l e ({ frames := 3, cells := 1, slots := 200, locals := 49 } : Room) s m #[(.ref x), (.ref b), .null] below meth c s₁ [] 0 0 := Stand.of_body Bd
  have e0 : s₁.heap = h0 := by rw [← hh, Bd.state]; rfl
  have N0 := Fr.nil n0
  have K0 : Keep h0 h0 [x] := Keep.refl _ _
  have r0 : GoTo p.tables e below s₁ (own_F_own_strA m x b) s₁ (mkF m 0 #[.val (.ref x), .val (.ref b), .val .null, .unset, .unset] []) := fun tt_ kk_ => castTop (own_ef_own_strA m x b) kk_
  obtain ⟨T1, X1, e1, st1⟩ := initO X0 hx hZ hown (hw _ (List.mem_of_getElem? (i := 135) rfl)) (hw _ (List.mem_of_getElem? (i := 13) rfl)) (hw _ (List.mem_of_getElem? (i := 14) rfl)) e0 (g := (mkF m 1 #[.val (.ref x), .val (.ref b), .val .null, .unset, .unset] [(.ref x)])) rfl (by rw [hml]; rfl) rfl (hb hby own_d_jdk_42_method_150_code_1) (by decide) (W := 0) (by show 2 * 0 + _ ≤ _; exact Nat.le_of_eq rfl) (by decide)
  obtain ⟨cq2, kq2, qa2, qb2, qc2⟩ := isOf hZ e1 hp4.1
  obtain ⟨_, _, ⟨T2, L2, k2, n2⟩, -, X2, ⟨Lc2, hQ2, l2, y2, z2⟩, st2⟩ := X1.virtualBack hx (y := (⟨"java/lang/AbstractStringBuilder", "getValue", "()[B"⟩ : MethodName)) (z := (⟨"java/lang/AbstractStringBuilder", "getValue", "()[B"⟩ : MethodName)) hown (mvT hZ (hw _ (List.mem_of_getElem? (i := 136) rfl))) (mvT hZ (hw _ (List.mem_of_getElem? (i := 137) rfl))) (notFace_of_selects (args := #[]) (mvT hZ (hw _ (List.mem_of_getElem? (i := 139) rfl)))) (mvT hZ (hw _ (List.mem_of_getElem? (i := 139) rfl))) (mvT hZ (hw _ (List.mem_of_getElem? (i := 138) rfl))) (by decide) (backOf (W := 0) (own_agetValue l Z a0 hw [] (b) (d) h0 n0 (O0.keep K0 (allS hp1 all0)) (hp4.2.1)) hZ (hw _ (List.mem_of_getElem? (i := 140) rfl)) (hw _ (List.mem_of_getElem? (i := 34) rfl)) (by decide) (by decide)) qa2 qc2 (g := (mkF m 5 #[.val (.ref x), .val (.ref b), .val .null, .unset, .unset] [(.ref b)])) rfl (by rw [hml]; rfl) (Steps.refl _) (argsL := []) (rest := []) (lenOf own_pd18 rfl) rfl (by show 2 * 0 + _ ≤ _; exact Nat.le_of_eq rfl) (hb hby own_d_jdk_42_method_150_code_5) (fun _ _ => ⟨rfl, e1, (by decide : 0 + 0 ≤ _), (by decide : 0 + 0 ≤ _)⟩)
  dsimp only [Pt.U, Pt.locs, Pt.cells, Pt.slots] at X2 l2 y2 z2 st2 hQ2
  subst l2 y2 z2
  obtain ⟨rfl, Nq2, hh2⟩ := hQ2
  have N2 := Fr.app N0 Nq2
  obtain ⟨cq3, kq3, qa3, qb3, qc3⟩ := isOf hZ hh2 hp4.1
  obtain ⟨_, _, ⟨T3, L3, k3, n3⟩, -, X3, ⟨Lc3, hQ3, l3, y3, z3⟩, st3⟩ := X2.virtualBack hx (y := (⟨"java/lang/AbstractStringBuilder", "length", "()I"⟩ : MethodName)) (z := (⟨"java/lang/StringBuilder", "length", "()I"⟩ : MethodName)) hown (mvT hZ (hw _ (List.mem_of_getElem? (i := 141) rfl))) (mvT hZ (hw _ (List.mem_of_getElem? (i := 142) rfl))) (own_notFace (args := #[]) (mvT hZ (hw _ (List.mem_of_getElem? (i := 63) rfl))) rfl) (mvT hZ (hw _ (List.mem_of_getElem? (i := 144) rfl))) (mvT hZ (hw _ (List.mem_of_getElem? (i := 145) rfl))) (by decide) (backOf (W := 0) (own_slength l Z a0 hw [] (b) (cs) h0 n0 (O0.keep K0 (allS hp1 all0)) (hp4.1) (hp4.2.2.2.1)) hZ (hw _ (List.mem_of_getElem? (i := 146) rfl)) (hw _ (List.mem_of_getElem? (i := 26) rfl)) (by decide) (by decide)) qa3 qc3 (g := (mkF m 10 #[.val (.ref x), .val (.ref b), .val .null, .val (.ref d), .unset] [(.ref b)])) rfl (by rw [hml]; rfl) (Steps.refl _) (argsL := []) (rest := []) (lenOf own_pd14 rfl) rfl (by show 2 * 0 + _ ≤ _; exact Nat.le_of_eq rfl) (hb hby own_d_jdk_42_method_150_code_10) (fun _ _ => ⟨rfl, hh2, (by decide : 0 + 0 ≤ _), (by decide : 0 + 0 ≤ _)⟩)
  dsimp only [Pt.U, Pt.locs, Pt.cells, Pt.slots] at X3 l3 y3 z3 st3 hQ3
  subst l3 y3 z3
  obtain ⟨rfl, Nq3, hh3⟩ := hQ3
  have N3 := Fr.app N2 Nq3
  obtain ⟨cq4, kq4, qa4, qb4, qc4⟩ := isOf hZ hh3 hp4.1
  obtain ⟨_, _, ⟨T4, L4, k4, n4⟩, -, X4, ⟨Lc4, hQ4, l4, y4, z4⟩, st4⟩ := X3.virtualBack hx (y := (⟨"java/lang/AbstractStringBuilder", "isLatin1", "()Z"⟩ : MethodName)) (z := (⟨"java/lang/AbstractStringBuilder", "isLatin1", "()Z"⟩ : MethodName)) hown (mvT hZ (hw _ (List.mem_of_getElem? (i := 149) rfl))) (mvT hZ (hw _ (List.mem_of_getElem? (i := 66) rfl))) (notFace_of_selects (args := #[]) (mvT hZ (hw _ (List.mem_of_getElem? (i := 68) rfl)))) (mvT hZ (hw _ (List.mem_of_getElem? (i := 68) rfl))) (mvT hZ (hw _ (List.mem_of_getElem? (i := 67) rfl))) (by decide) (backOf (W := 0) (own_isL l Z a0 hw [] (b) (gCS) h0 n0 (O0.keep K0 (allS hp1 all0)) (hp4.2.2.1) (hp8) (hG1)) hZ (hw _ (List.mem_of_getElem? (i := 69) rfl)) (hw _ (List.mem_of_getElem? (i := 34) rfl)) (by decide) (by decide)) qa4 qc4 (g := (mkF m 16 #[.val (.ref x), .val (.ref b), .val .null, .val (.ref d), .val (.int (Int32.ofNat cs.length))] [(.ref b)])) rfl (by rw [hml]; rfl) (Steps.refl _) (argsL := []) (rest := []) (lenOf own_pd5 rfl) rfl (by show 2 * 0 + _ ≤ _; exact Nat.le_of_eq rfl) (hb hby own_d_jdk_42_method_150_code_16) (fun _ _ => ⟨rfl, hh3, (by decide : 0 + 0 ≤ _), (by decide : 0 + 0 ≤ _)⟩)
  dsimp only [Pt.U, Pt.locs, Pt.cells, Pt.slots] at X4 l4 y4 z4 st4 hQ4
  subst l4 y4 z4
  obtain ⟨rfl, Nq4, hh4⟩ := hQ4
  have N4 := Fr.app N3 Nq4
  obtain ⟨T5, h5, X5, e5, W5, st5⟩ := putFN X4 hx hZ hown (hw _ (List.mem_of_getElem? (i := 101) rfl)) Via.refl hh4 hp3 hp0 (Or.inr ⟨(hw _ (List.mem_of_getElem? (i := 77) rfl)), rfl, hnm⟩) (hw _ (List.mem_of_getElem? (i := 75) rfl)) (ty := .byte) (v' := (.int (nar .byte (0 : Int32)))) (by decide) rfl (fits_nar_byte _) (g := (mkF m 24 #[.val (.ref x), .val (.ref b), .val .null, .val (.ref d), .val (.int (Int32.ofNat cs.length))] [(.int (0 : Int32)), (.ref x)])) rfl rfl (hb hby own_d_jdk_42_method_150_code_24)
  have K6 : Keep h0 h5 [x] := K0.wr W5 (Or.inl (List.mem_of_getElem? (i := 0) rfl))
  have Fw5 : Fld Z h5 x "java/lang/String" "coder" "B" (.int (nar .byte (0 : Int32))) := hp3.same W5
  have N5 := Fr.snoc X5 N4 hp1
  have f7 : own_By Z h5 d kd N cs := (hp4.2.2.2.2.1.other W5 (Ne.symm hp6))
  obtain ⟨_, _, ⟨T8, L8, k8, n8⟩, -, X8, ⟨Lc8, hQ8, l8, y8, z8⟩, st8⟩ := Jvm.LawKit.callS X5 hx (y := (⟨"java/util/Arrays", "copyOfRange", "([BII)[B"⟩ : MethodName)) hown (mvT hZ (hw _ (List.mem_of_getElem? (i := 150) rfl))) (mvT hZ (hw _ (List.mem_of_getElem? (i := 151) rfl))) (mvT hZ (hw _ (List.mem_of_getElem? (i := 152) rfl))) (mvT hZ (hw _ (List.mem_of_getElem? (i := 153) rfl))) (by decide) (backOf (W := 1) (own_cor l Z a0 hw [] (d) (kd) (N) (cs) h5 n0 (O0.keep K6 (allS hp1 all0)) (f7) (hcc)) hZ (hw _ (List.mem_of_getElem? (i := 153) rfl)) (hw _ (List.mem_of_getElem? (i := 152) rfl)) (by decide) (by decide)) (g := (mkF m 32 #[.val (.ref x), .val (.ref b), .val .null, .val (.ref d), .val (.int (Int32.ofNat cs.length))] [(.int (Int32.ofNat cs.length)), (.int (0 : Int32)), (.ref d), (.ref x)])) rfl (by rw [hml]; rfl) (argsL := [(.ref d), (.int (0 : Int32)), (.int (Int32.ofNat cs.length))]) (rest := [(.ref x)]) (lenOf own_pd17 rfl) rfl (by show 2 * 0 + _ ≤ _; exact Nat.le_of_eq rfl) (hb hby own_d_jdk_42_method_150_code_32) (fun _ _ => ⟨rfl, e5, (by decide : 0 + 1 ≤ _), (by decide : 0 + 200 ≤ _)⟩)
  dsimp only [Pt.U, Pt.locs, Pt.cells, Pt.slots] at X8 l8 y8 z8 st8 hQ8
  subst l8 y8 z8
  obtain ⟨b2_8, k2_8, rfl, Nq8, Kq8, po8_0, po8_1, po8_2, po8_3⟩ := hQ8
  have N8 := Fr.app N5 Nq8
  have ne9 : x ≠ b2_8 := Nat.ne_of_lt (Nat.lt_of_lt_of_le (Nat.lt_of_lt_of_le hp0.lt (Nat.le_of_eq (Wr.size W5).symm)) po8_0)
  have ne10 : b ≠ b2_8 := Nat.ne_of_lt (Nat.lt_of_lt_of_le (Nat.lt_of_lt_of_le hp4.1.lt (Nat.le_of_eq (Wr.size W5).symm)) po8_0)
  have ne11 : d ≠ b2_8 := Nat.ne_of_lt (Nat.lt_of_lt_of_le (Nat.lt_of_lt_of_le hp4.2.2.2.2.1.lt (Nat.le_of_eq (Wr.size W5).symm)) po8_0)
  have g12 : n0 ≤ b2_8 := Nat.le_trans (Nat.le_trans (own_le O0) K6.1) po8_0
  have b13 : h0.size ≤ b2_8 := Nat.le_trans K6.1 po8_0
  have K14 : Keep h0 T8.heap [x] := K6.trans Kq8 all0
  have f15 : Fld Z T8.heap x "java/lang/String" "value" "[B" .null := ((hp2.other W5 (Or.inr (Jvm.RoadKit.slot_ne (Or.inr (hw _ (List.mem_of_getElem? (i := 76) rfl))) (Or.inr (hw _ (List.mem_of_getElem? (i := 77) rfl))) (by decide) (t := (.array .byte)) (t' := .byte) (by decide) (by decide)))).keep Kq8 nin0)
  have f16 : Exa Z T8.heap x "java/lang/String" := ((hp0.wr W5).keep Kq8)
  obtain ⟨T17, h17, X17, e17, W17, st17⟩ := putF X8 hx hZ hown (host := "") (Or.inl (hw _ (List.mem_of_getElem? (i := 94) rfl))) Via.refl rfl f15 f16 (Or.inr ⟨(hw _ (List.mem_of_getElem? (i := 76) rfl)), rfl, hnm⟩) (hw _ (List.mem_of_getElem? (i := 75) rfl)) (ty := (.array .byte)) (by decide) rfl rfl (g := (mkF m 35 #[.val (.ref x), .val (.ref b), .val .null, .val (.ref d), .val (.int (Int32.ofNat cs.length))] [(.ref b2_8), (.ref x)])) rfl rfl (hb hby own_d_jdk_42_method_150_code_35)
  have K18 : Keep h0 h17 [x] := K14.wr W17 (Or.inl (List.mem_of_getElem? (i := 0) rfl))
  have Fw17 : Fld Z h17 x "java/lang/String" "value" "[B" (.ref b2_8) := f15.same W17
  have N17 := Fr.snoc X17 N8 hp1
  have f19 : Fld Z h17 x "java/lang/String" "coder" "B" (.int (nar .byte (0 : Int32))) := ((Fw5.keep Kq8 nin0).other W17 (Or.inr (Jvm.RoadKit.slot_ne (Or.inr (hw _ (List.mem_of_getElem? (i := 77) rfl))) (Or.inr (hw _ (List.mem_of_getElem? (i := 76) rfl))) (by decide) (t := .byte) (t' := (.array .byte)) (by decide) (by decide))))
  have f20 : Fld Z h17 x "java/lang/String" "coder" "B" (.int (0 : Int32)) := by rw [show (nar .byte (0 : Int32)) = (0 : Int32) from (by decide)] at f19; exact f19
  have f21 : Arv Z h17 b2_8 k2_8 .byte (Int32.ofNat cs.length) ((cs.map fun c => c.toInt8.toInt32).map Value.int) (.int (0 : Int32)) := (po8_2.other W17 (Ne.symm ne9))
  have f22 : Exa Z h17 x "java/lang/String" := (f16.wr W17)
  obtain ⟨fs, hr, hrun, hended, hW, hsame⟩ := X17.leave (v := none) (fun _ => rfl)
  refine ⟨_, _, r0 _ ?_, hrun, hended, _, _, rfl, ?_, ⟨_, rfl⟩, hW, hsame.mono (by decide) (by decide)⟩
  · show Steps p.tables e below (s₁.setTop (mkF m 0 #[.val (.ref x), .val (.ref b), .val .null, .unset, .unset] [])) _
    refine XS.aloadN X0.here hx rfl (hb hby own_d_jdk_42_method_150_code_0) rfl rfl ?_
    show Steps p.tables e below (s₁.setTop (mkF m 1 #[.val (.ref x), .val (.ref b), .val .null, .unset, .unset] [(.ref x)])) _
    refine st1 _ ?_
    show Steps p.tables e below (T1.setTop (mkF m 4 #[.val (.ref x), .val (.ref b), .val .null, .unset, .unset] [])) _
    refine XS.aloadN X1.here hx rfl (hb hby own_d_jdk_42_method_150_code_4) rfl rfl ?_
    show Steps p.tables e below (T1.setTop (mkF m 5 #[.val (.ref x), .val (.ref b), .val .null, .unset, .unset] [(.ref b)])) _
    refine st2.trans ?_
    show Steps p.tables e below (T2.setTop (mkF m 8 #[.val (.ref x), .val (.ref b), .val .null, .unset, .unset] [(.ref d)])) _
    refine XS.astoreN X2.here hx rfl (hb hby own_d_jdk_42_method_150_code_8) rfl rfl (l' := #[.val (.ref x), .val (.ref b), .val .null, .val (.ref d), .unset]) rfl ?_
    show Steps p.tables e below (T2.setTop (mkF m 9 #[.val (.ref x), .val (.ref b), .val .null, .val (.ref d), .unset] [])) _
    refine XS.aloadN X2.here hx rfl (hb hby own_d_jdk_42_method_150_code_9) rfl rfl ?_
    show Steps p.tables e below (T2.setTop (mkF m 10 #[.val (.ref x), .val (.ref b), .val .null, .val (.ref d), .unset] [(.ref b)])) _
    refine st3.trans ?_
    show Steps p.tables e below (T3.setTop (mkF m 13 #[.val (.ref x), .val (.ref b), .val .null, .val (.ref d), .unset] [(.int (Int32.ofNat cs.length))])) _
    refine XS.istore X3.here hx rfl (hb hby own_d_jdk_42_method_150_code_13) rfl (l' := #[.val (.ref x), .val (.ref b), .val .null, .val (.ref d), .val (.int (Int32.ofNat cs.length))]) rfl ?_
    show Steps p.tables e below (T3.setTop (mkF m 15 #[.val (.ref x), .val (.ref b), .val .null, .val (.ref d), .val (.int (Int32.ofNat cs.length))] [])) _
    refine XS.aloadN X3.here hx rfl (hb hby own_d_jdk_42_method_150_code_15) rfl rfl ?_
    show Steps p.tables e below (T3.setTop (mkF m 16 #[.val (.ref x), .val (.ref b), .val .null, .val (.ref d), .val (.int (Int32.ofNat cs.length))] [(.ref b)])) _
    refine st4.trans ?_
    show Steps p.tables e below (T4.setTop (mkF m 19 #[.val (.ref x), .val (.ref b), .val .null, .val (.ref d), .val (.int (Int32.ofNat cs.length))] [(.int (1 : Int32))])) _
    refine XS.ifNo X4.here hx rfl (hb hby own_d_jdk_42_method_150_code_19) rfl ((if0 _ _).trans (feq (by decide)).1) ?_
    show Steps p.tables e below (T4.setTop (mkF m 22 #[.val (.ref x), .val (.ref b), .val .null, .val (.ref d), .val (.int (Int32.ofNat cs.length))] [])) _
    refine XS.aloadN X4.here hx rfl (hb hby own_d_jdk_42_method_150_code_22) rfl rfl ?_
    show Steps p.tables e below (T4.setTop (mkF m 23 #[.val (.ref x), .val (.ref b), .val .null, .val (.ref d), .val (.int (Int32.ofNat cs.length))] [(.ref x)])) _
    refine XS.iconst X4.here hx rfl (hb hby own_d_jdk_42_method_150_code_23) ?_
    show Steps p.tables e below (T4.setTop (mkF m 24 #[.val (.ref x), .val (.ref b), .val .null, .val (.ref d), .val (.int (Int32.ofNat cs.length))] [(.int (0 : Int32)), (.ref x)])) _
    refine st5 _ ?_
    show Steps p.tables e below (T5.setTop (mkF m 27 #[.val (.ref x), .val (.ref b), .val .null, .val (.ref d), .val (.int (Int32.ofNat cs.length))] [])) _
    refine XS.aloadN X5.here hx rfl (hb hby own_d_jdk_42_method_150_code_27) rfl rfl ?_
    show Steps p.tables e below (T5.setTop (mkF m 28 #[.val (.ref x), .val (.ref b), .val .null, .val (.ref d), .val (.int (Int32.ofNat cs.length))] [(.ref x)])) _
    refine XS.aloadN X5.here hx rfl (hb hby own_d_jdk_42_method_150_code_28) rfl rfl ?_
    show Steps p.tables e below (T5.setTop (mkF m 29 #[.val (.ref x), .val (.ref b), .val .null, .val (.ref d), .val (.int (Int32.ofNat cs.length))] [(.ref d), (.ref x)])) _
    refine XS.iconst X5.here hx rfl (hb hby own_d_jdk_42_method_150_code_29) ?_
    show Steps p.tables e below (T5.setTop (mkF m 30 #[.val (.ref x), .val (.ref b), .val .null, .val (.ref d), .val (.int (Int32.ofNat cs.length))] [(.int (0 : Int32)), (.ref d), (.ref x)])) _
    refine XS.iload X5.here hx rfl (hb hby own_d_jdk_42_method_150_code_30) rfl ?_
    show Steps p.tables e below (T5.setTop (mkF m 32 #[.val (.ref x), .val (.ref b), .val .null, .val (.ref d), .val (.int (Int32.ofNat cs.length))] [(.int (Int32.ofNat cs.length)), (.int (0 : Int32)), (.ref d), (.ref x)])) _
    refine st8 _ ?_
    show Steps p.tables e below (T8.setTop (mkF m 35 #[.val (.ref x), .val (.ref b), .val .null, .val (.ref d), .val (.int (Int32.ofNat cs.length))] [(.ref b2_8), (.ref x)])) _
    refine st17 _ ?_
    show Steps p.tables e below (T17.setTop (mkF m 38 #[.val (.ref x), .val (.ref b), .val .null, .val (.ref d), .val (.int (Int32.ofNat cs.length))] [])) _
    refine XS.goto X17.here hx rfl (pc0 := 38) (pc' := 97) rfl (hb hby own_d_jdk_42_method_150_code_38) (by decide) (by decide) ?_
    show Steps p.tables e below (T17.setTop (mkF m 97 #[.val (.ref x), .val (.ref b), .val .null, .val (.ref d), .val (.int (Int32.ofNat cs.length))] [])) _
    exact X17.returnOut hx Bd.returns (hb hby own_d_jdk_42_method_150_code_97) hr
  · show Q_own_strA Z x b d kd N cs gCS h0 n0 _ T17.heap _
    rw [e17]
    exact ⟨b2_8, k2_8, rfl, N17, K18, b13, po8_1, ⟨f22, Fw17, f20, f21, hp4.2.2.2.2.2, by omega⟩⟩
theorem own_pn_own_strB : plainName "java/lang/String" = true := by first | (simp [plainName, overriddenIn]; done) | decide +kernel
theorem own_ef_own_strB (m : MethodId) (x : Addr) (b : Addr) : entryFrame m #[(.ref x), (.ref b)] 2 = mkF m 0 #[.val (.ref x), .val (.ref b)] [] := by first | (simp [entryFrame, mkF, argsToLocals, own_cI, own_cJ, own_cR, own_cN]; done) | rfl
abbrev own_F_own_strB (m : MethodId) (x : Addr) (b : Addr) : JFrame := entryFrame m #[(.ref x), (.ref b)] 2
def Q_own_strB (Z : State) (x : Addr) (b : Addr) (d : Addr) (kd : ClassId) (N : Nat) (cs : List Int32) (gCS : Int32) (h0 : Heap) (n0 : Nat) (v : Option Value) (h : Heap) (L : List Loc) : Prop := ∃ (t : Addr), ∃ (kt : ClassId), v = none ∧ Fr n0 L ∧ Keep h0 h [x] ∧ (h0.size ≤ t) ∧ (n0 ≤ t) ∧ (own_Str Z h x t kt cs)
set_option maxRecDepth 65536 in
set_option maxHeartbeats 40000000 in
theorem own_strB (l : Launch) (Z : State) (a0 : Array Value) (hw : ∀ d ∈ tables_1, d.before a0 Z = true) (ws : List Jvm.Cond) (x : Addr) (b : Addr) (d : Addr) (kd : ClassId) (N : Nat) (cs : List Int32) (gCS : Int32) (h0 : Heap) (n0 : Nat) (O0 : Old Z n0 h0) (hp0 : Exa Z h0 x "java/lang/String") (hp1 : n0 ≤ x) (hp2 : Fld Z h0 x "java/lang/String" "value" "[B" .null) (hp3 : Fld Z h0 x "java/lang/String" "coder" "B" (.int (0 : Int32))) (hp4 : own_SB Z h0 b d kd N cs) (hp5 : x ≠ b) (hp6 : x ≠ d) (hcc : cs.length ≤ 200) (hp8 : Sta Z Z.heap "java/lang/String" "COMPACT_STRINGS" "Z" (.int gCS)) (hG1 : ¬ gCS = (0 : Int32)) :
    MetFree l (⟨"java/lang/String", "<init>", "(Ljava/lang/StringBuilder;)V"⟩ : MethodName) (head1 (Jvm.Cond.code (⟨"java/lang/String", "<init>", "(Ljava/lang/StringBuilder;)V"⟩ : MethodName) jdk_42_method_53_code 2 none :: ws) ({ frames := 4, cells := 1, slots := 200, locals := 65 } : Room)) (fun aa_ U_ => aa_ = #[(.ref x), (.ref b)] ∧ Z.Warmed39 U_.vm ∧ U_.heap = h0) (fun _ _ _ _ _ => True) (fun _ U_ o_ V_ => ∃ v_ L_, o_ = .returned v_ ∧ Q_own_strB Z x b d kd N cs gCS h0 n0 v_ V_.heap L_ ∧ FrameEnd U_ o_ V_ L_ ({ frames := 4, cells := 1, slots := 200, locals := 65 } : Room).cells ({ frames := 4, cells := 1, slots := 200, locals := 65 } : Room).slots) := by
  refine MetFree.of_bodySF (plainFor_of_name own_pn_own_strB) hisR ?_
  intro p e s m args below meth c s₁ Bd hml0 hP hK
  obtain ⟨rfl, hZ, hh⟩ := hP
  have hx := Bd.exec
  have hby := Bd.bytes
  have hml : c.maxLocals = 2 := hml0
  have hown : s.vm.findClass "java/lang/String" = some m.cls := findClass_of_methodNamed Bd.named
  have hnm := (name_of_methodNamed Bd.named Bd.method).1
  have X0 : Stand p l e ({ frames := 4, cells := 1, slots := 200, locals := 65 } : Room) s m #[(.ref x), (.ref b)] below meth c s₁ [] 0 0 := Stand.of_body Bd
  have e0 : s₁.heap = h0 := by rw [← hh, Bd.state]; rfl
  have N0 := Fr.nil n0
  have K0 : Keep h0 h0 [x] := Keep.refl _ _
  have r0 : GoTo p.tables e below s₁ (own_F_own_strB m x b) s₁ (mkF m 0 #[.val (.ref x), .val (.ref b)] []) := fun tt_ kk_ => castTop (own_ef_own_strB m x b) kk_
  obtain ⟨_, _, ⟨T1, L1, k1, n1⟩, -, X1, ⟨Lc1, hQ1, l1, y1, z1⟩, st1⟩ := X0.specialBack hx (y := (⟨"java/lang/String", "<init>", "(Ljava/lang/AbstractStringBuilder;Ljava/lang/Void;)V"⟩ : MethodName)) rfl hown (mvT hZ (hw _ (List.mem_of_getElem? (i := 132) rfl))) (mvT hZ (hw _ (List.mem_of_getElem? (i := 133) rfl))) (mvT hZ (hw _ (List.mem_of_getElem? (i := 134) rfl))) (by decide) (backOf (W := 0) (own_strA l Z a0 hw [] (x) (b) (d) (kd) (N) (cs) (gCS) h0 n0 (O0.keep K0 (allS hp1 all0)) (hp0) (hp1) (hp2) (hp3) (hp4) (hp5) (hp6) (hcc) (hp8) (hG1)) hZ (hw _ (List.mem_of_getElem? (i := 134) rfl)) (hw _ (List.mem_of_getElem? (i := 38) rfl)) (by decide) (by decide)) (g := (mkF m 3 #[.val (.ref x), .val (.ref b)] [.null, (.ref b), (.ref x)])) rfl (by rw [hml]; rfl) (Steps.refl _) (a := x) (argsL := [(.ref b), .null]) (rest := []) (lenOf own_pd19 rfl) rfl (by show 2 * 0 + _ ≤ _; exact Nat.le_of_eq rfl) (hb hby own_d_jdk_42_method_53_code_3) (fun _ _ => ⟨rfl, e0, (by decide : 0 + 1 ≤ _), (by decide : 0 + 200 ≤ _)⟩)
  dsimp only [Pt.U, Pt.locs, Pt.cells, Pt.slots] at X1 l1 y1 z1 st1 hQ1
  subst l1 y1 z1
  obtain ⟨t_1, kt_1, rfl, Nq1, Kq1, po1_0, po1_1, po1_2⟩ := hQ1
  have N1 := Fr.app N0 Nq1
  have ne2 : x ≠ t_1 := Nat.ne_of_lt (Nat.lt_of_lt_of_le hp0.lt po1_0)
  have ne3 : b ≠ t_1 := Nat.ne_of_lt (Nat.lt_of_lt_of_le hp4.1.lt po1_0)
  have ne4 : d ≠ t_1 := Nat.ne_of_lt (Nat.lt_of_lt_of_le hp4.2.2.2.2.1.lt po1_0)
  have g5 : n0 ≤ t_1 := Nat.le_trans (Nat.le_trans (own_le O0) K0.1) po1_0
  have b6 : h0.size ≤ t_1 := Nat.le_trans K0.1 po1_0
  have K7 : Keep h0 T1.heap [x] := K0.trans Kq1 (allS (Or.inl (List.mem_of_getElem? (i := 0) rfl)) all0)
  obtain ⟨fs, hr, hrun, hended, hW, hsame⟩ := X1.leave (v := none) (fun _ => rfl)
  refine ⟨_, _, r0 _ ?_, hrun, hended, _, _, rfl, ?_, ⟨_, rfl⟩, hW, hsame.mono (by decide) (by decide)⟩
  · show Steps p.tables e below (s₁.setTop (mkF m 0 #[.val (.ref x), .val (.ref b)] [])) _
    refine XS.aloadN X0.here hx rfl (hb hby own_d_jdk_42_method_53_code_0) rfl rfl ?_
    show Steps p.tables e below (s₁.setTop (mkF m 1 #[.val (.ref x), .val (.ref b)] [(.ref x)])) _
    refine XS.aloadN X0.here hx rfl (hb hby own_d_jdk_42_method_53_code_1) rfl rfl ?_
    show Steps p.tables e below (s₁.setTop (mkF m 2 #[.val (.ref x), .val (.ref b)] [(.ref b), (.ref x)])) _
    refine XS.aconstNull X0.here hx rfl (hb hby own_d_jdk_42_method_53_code_2) ?_
    show Steps p.tables e below (s₁.setTop (mkF m 3 #[.val (.ref x), .val (.ref b)] [.null, (.ref b), (.ref x)])) _
    refine st1.trans ?_
    show Steps p.tables e below (T1.setTop (mkF m 6 #[.val (.ref x), .val (.ref b)] [])) _
    exact X1.returnOut hx Bd.returns (hb hby own_d_jdk_42_method_53_code_6) hr
  · show Q_own_strB Z x b d kd N cs gCS h0 n0 _ T1.heap _
    exact ⟨t_1, kt_1, rfl, N1, K7, b6, po1_1, po1_2⟩
theorem own_pn_own_toStr : plainName "java/lang/StringBuilder" = true := by first | (simp [plainName, overriddenIn]; done) | decide +kernel
theorem own_ef_own_toStr (m : MethodId) (b : Addr) : entryFrame m #[(.ref b)] 1 = mkF m 0 #[.val (.ref b)] [] := by first | (simp [entryFrame, mkF, argsToLocals, own_cI, own_cJ, own_cR, own_cN]; done) | rfl
abbrev own_F_own_toStr (m : MethodId) (b : Addr) : JFrame := entryFrame m #[(.ref b)] 1
def Q_own_toStr (Z : State) (b : Addr) (d : Addr) (kd : ClassId) (N : Nat) (cs : List Int32) (gCS : Int32) (h0 : Heap) (n0 : Nat) (v : Option Value) (h : Heap) (L : List Loc) : Prop := ∃ (x : Addr), ∃ (t : Addr), ∃ (kt : ClassId), v = some (.ref x) ∧ Fr n0 L ∧ Keep h0 h [] ∧ (h0.size ≤ x) ∧ (h0.size ≤ t) ∧ (t ≠ x) ∧ (own_Str Z h x t kt cs)
set_option maxRecDepth 65536 in
set_option maxHeartbeats 40000000 in
theorem own_toStr (l : Launch) (Z : State) (a0 : Array Value) (hw : ∀ d ∈ tables_1, d.before a0 Z = true) (ws : List Jvm.Cond) (b : Addr) (d : Addr) (kd : ClassId) (N : Nat) (cs : List Int32) (gCS : Int32) (h0 : Heap) (n0 : Nat) (O0 : Old Z n0 h0) (hp0 : own_SB Z h0 b d kd N cs) (hcc : cs.length ≤ 200) (hp2 : Sta Z Z.heap "java/lang/String" "COMPACT_STRINGS" "Z" (.int gCS)) (hG1 : ¬ gCS = (0 : Int32)) :
    MetFree l (⟨"java/lang/StringBuilder", "toString", "()Ljava/lang/String;"⟩ : MethodName) (head1 (Jvm.Cond.code (⟨"java/lang/StringBuilder", "toString", "()Ljava/lang/String;"⟩ : MethodName) jdk_67_method_42_code 1 (some (.object "java/lang/String")) :: ws) ({ frames := 5, cells := 2, slots := 204, locals := 79 } : Room)) (fun aa_ U_ => aa_ = #[(.ref b)] ∧ Z.Warmed39 U_.vm ∧ U_.heap = h0) (fun _ _ _ _ _ => True) (fun _ U_ o_ V_ => ∃ v_ L_, o_ = .returned v_ ∧ Q_own_toStr Z b d kd N cs gCS h0 n0 v_ V_.heap L_ ∧ FrameEnd U_ o_ V_ L_ ({ frames := 5, cells := 2, slots := 204, locals := 79 } : Room).cells ({ frames := 5, cells := 2, slots := 204, locals := 79 } : Room).slots) := by
  refine MetFree.of_bodySF (plainFor_of_name own_pn_own_toStr) hisR ?_
  intro p e s m args below meth c s₁ Bd hml0 hP hK
  obtain ⟨rfl, hZ, hh⟩ := hP
  have hx := Bd.exec
  have hby := Bd.bytes
  have hml : c.maxLocals = 1 := hml0
  have hown : s.vm.findClass "java/lang/StringBuilder" = some m.cls := findClass_of_methodNamed Bd.named
  have hnm := (name_of_methodNamed Bd.named Bd.method).1
  have X0 : Stand p l e ({ frames := 5, cells := 2, slots := 204, locals := 79 } : Room) s m #[(.ref b)] below meth c s₁ [] 0 0 := Stand.of_body Bd
  have e0 : s₁.heap = h0 := by rw [← hh, Bd.state]; rfl
  have N0 := Fr.nil n0
  have K0 : Keep h0 h0 [] := Keep.refl _ _
  have r0 : GoTo p.tables e below s₁ (own_F_own_toStr m b) s₁ (mkF m 0 #[.val (.ref b)] []) := fun tt_ kk_ => castTop (own_ef_own_toStr m b) kk_
  obtain ⟨T1, h1, X1, e1, E1, A1, D1, -, st1⟩ := newO X0 hx hZ hown (hw _ (List.mem_of_getElem? (i := 127) rfl)) (hw _ (List.mem_of_getElem? (i := 75) rfl)) (hw _ (List.mem_of_getElem? (i := 38) rfl)) e0 (g := (mkF m 0 #[.val (.ref b)] [])) rfl (hb hby own_d_jdk_67_method_42_code_0) (by decide) (by decide)
  obtain ⟨b1, gg1⟩ : ∃ z, z = h0.size := ⟨_, rfl⟩
  rw [← gg1] at A1 D1 st1
  have ne2 : b ≠ b1 := Nat.ne_of_lt (Nat.lt_of_lt_of_le hp0.1.lt (Nat.le_of_eq gg1.symm))
  have ne3 : d ≠ b1 := Nat.ne_of_lt (Nat.lt_of_lt_of_le hp0.2.2.2.2.1.lt (Nat.le_of_eq gg1.symm))
  have g4 : n0 ≤ b1 := Nat.le_trans (Nat.le_trans (own_le O0) K0.1) (Nat.le_of_eq gg1.symm)
  have b5 : h0.size ≤ b1 := Nat.le_trans K0.1 (Nat.le_of_eq gg1.symm)
  have K6 : Keep h0 h1 [] := K0.ext E1
  have f7 : own_SB Z h1 b d kd N cs := (hp0.ext E1)
  obtain ⟨_, _, ⟨T8, L8, k8, n8⟩, -, X8, ⟨Lc8, hQ8, l8, y8, z8⟩, st8⟩ := X1.specialBack hx (y := (⟨"java/lang/String", "<init>", "(Ljava/lang/StringBuilder;)V"⟩ : MethodName)) rfl hown (mvT hZ (hw _ (List.mem_of_getElem? (i := 128) rfl))) (mvT hZ (hw _ (List.mem_of_getElem? (i := 129) rfl))) (mvT hZ (hw _ (List.mem_of_getElem? (i := 131) rfl))) (by decide) (backOf (W := 1) (own_strB l Z a0 hw [] (b1) (b) (d) (kd) (N) (cs) (gCS) h1 n0 (O0.keep K6 all0) (A1) (g4) ((D1 (Or.inr (hw _ (List.mem_of_getElem? (i := 76) rfl))) (ty := (.array .byte)) (by decide))) ((D1 (Or.inr (hw _ (List.mem_of_getElem? (i := 77) rfl))) (ty := .byte) (by decide))) (f7) ((Ne.symm ne2)) ((Ne.symm ne3)) (hcc) (hp2) (hG1)) hZ (hw _ (List.mem_of_getElem? (i := 131) rfl)) (hw _ (List.mem_of_getElem? (i := 38) rfl)) (by decide) (by decide)) (g := (mkF m 5 #[.val (.ref b)] [(.ref b), (.ref b1), (.ref b1)])) rfl (by rw [hml]; rfl) (Steps.refl _) (a := b1) (argsL := [(.ref b)]) (rest := [(.ref b1)]) (lenOf own_pd20 rfl) rfl (by show 2 * 0 + _ ≤ _; exact Nat.le_of_eq rfl) (hb hby own_d_jdk_67_method_42_code_5) (fun _ _ => ⟨rfl, e1, (by decide : 1 + 1 ≤ _), (by decide : 4 + 200 ≤ _)⟩)
  dsimp only [Pt.U, Pt.locs, Pt.cells, Pt.slots] at X8 l8 y8 z8 st8 hQ8
  subst l8 y8 z8
  obtain ⟨t_8, kt_8, rfl, Nq8, Kq8, po8_0, po8_1, po8_2⟩ := hQ8
  have N8 := Fr.app N0 Nq8
  have ne9 : b ≠ t_8 := Nat.ne_of_lt (Nat.lt_of_lt_of_le (Nat.lt_of_lt_of_le hp0.1.lt E1.1) po8_0)
  have ne10 : d ≠ t_8 := Nat.ne_of_lt (Nat.lt_of_lt_of_le (Nat.lt_of_lt_of_le hp0.2.2.2.2.1.lt E1.1) po8_0)
  have ne11 : b1 ≠ t_8 := Nat.ne_of_lt (Nat.lt_of_lt_of_le A1.lt po8_0)
  have g12 : n0 ≤ t_8 := Nat.le_trans (Nat.le_trans (own_le O0) K6.1) po8_0
  have b13 : h0.size ≤ t_8 := Nat.le_trans K6.1 po8_0
  have K14 : Keep h0 T8.heap [] := K6.trans Kq8 (allS (Or.inr b5) all0)
  obtain ⟨fs, hr, hrun, hended, hW, hsame⟩ := X8.leave (v := some (.ref b1)) (fun h => by rw [Bd.returns] at h; cases h)
  refine ⟨_, _, r0 _ ?_, hrun, hended, _, _, rfl, ?_, ⟨_, rfl⟩, hW, hsame.mono (by decide) (by decide)⟩
  · show Steps p.tables e below (s₁.setTop (mkF m 0 #[.val (.ref b)] [])) _
    refine st1 _ ?_
    show Steps p.tables e below (T1.setTop (mkF m 3 #[.val (.ref b)] [(.ref b1)])) _
    refine XS.dup X1.here hx rfl (hb hby own_d_jdk_67_method_42_code_3) rfl rfl ?_
    show Steps p.tables e below (T1.setTop (mkF m 4 #[.val (.ref b)] [(.ref b1), (.ref b1)])) _
    refine XS.aloadN X1.here hx rfl (hb hby own_d_jdk_67_method_42_code_4) rfl rfl ?_
    show Steps p.tables e below (T1.setTop (mkF m 5 #[.val (.ref b)] [(.ref b), (.ref b1), (.ref b1)])) _
    refine st8.trans ?_
    show Steps p.tables e below (T8.setTop (mkF m 8 #[.val (.ref b)] [(.ref b1)])) _
    exact retOut X8 hx (t := (.object "java/lang/String")) Bd.returns rfl (Or.inr (Or.inr (Or.inr (Or.inr ⟨rfl, rfl, rfl⟩)))) (hb hby own_d_jdk_67_method_42_code_8) hr
  · show Q_own_toStr Z b d kd N cs gCS h0 n0 _ T8.heap _
    exact ⟨b1, t_8, kt_8, rfl, N8, K14, b5, b13, (Ne.symm ne11), po8_2⟩
theorem own_pn_own_dc : plainName "com/example/myna/myna/limits/RateLimitToStringPinLaw" = true := by first | (simp [plainName, overriddenIn]; done) | decide +kernel
theorem own_ef_own_dc (m : MethodId) (vv : Int32) : entryFrame m #[(.int vv)] 1 = mkF m 0 #[.val (.int vv)] [] := by first | (simp [entryFrame, mkF, argsToLocals, own_cI, own_cJ, own_cR, own_cN]; done) | rfl
abbrev own_F_own_dc (m : MethodId) (vv : Int32) : JFrame := entryFrame m #[(.int vv)] 1
def Q_own_dc (Z : State) (vv : Int32) (nn : Nat) (h0 : Heap) (n0 : Nat) (v : Option Value) (h : Heap) (L : List Loc) : Prop := v = some (.int (Int32.ofNat (Jvm.Free.SBG.digits nn))) ∧ Fr n0 L ∧ h = h0
set_option maxRecDepth 65536 in
set_option maxHeartbeats 40000000 in
theorem own_dc (l : Launch) (Z : State) (a0 : Array Value) (hw : ∀ d ∈ tables_1, d.before a0 Z = true) (ws : List Jvm.Cond) (vv : Int32) (nn : Nat) (h0 : Heap) (n0 : Nat) (O0 : Old Z n0 h0) (hvn : vv.toInt = nn) :
    MetFree l (⟨"com/example/myna/myna/limits/RateLimitToStringPinLaw", "digitCount", "(I)I"⟩ : MethodName) (head1 (Jvm.Cond.code (⟨"com/example/myna/myna/limits/RateLimitToStringPinLaw", "digitCount", "(I)I"⟩ : MethodName) method_3_code 1 (some .int) :: ws) ({ frames := 0, cells := 0, slots := 0, locals := 0 } : Room)) (fun aa_ U_ => aa_ = #[(.int vv)] ∧ Z.Warmed39 U_.vm ∧ U_.heap = h0) (fun _ _ _ _ _ => True) (fun _ U_ o_ V_ => ∃ v_ L_, o_ = .returned v_ ∧ Q_own_dc Z vv nn h0 n0 v_ V_.heap L_ ∧ FrameEnd U_ o_ V_ L_ ({ frames := 0, cells := 0, slots := 0, locals := 0 } : Room).cells ({ frames := 0, cells := 0, slots := 0, locals := 0 } : Room).slots) := by
  refine MetFree.of_bodySF (plainFor_of_name own_pn_own_dc) hisR ?_
  intro p e s m args below meth c s₁ Bd hml0 hP hK
  obtain ⟨rfl, hZ, hh⟩ := hP
  have hx := Bd.exec
  have hby := Bd.bytes
  have hml : c.maxLocals = 1 := hml0
  have hown : s.vm.findClass "com/example/myna/myna/limits/RateLimitToStringPinLaw" = some m.cls := findClass_of_methodNamed Bd.named
  have hnm := (name_of_methodNamed Bd.named Bd.method).1
  have X0 : Stand p l e ({ frames := 0, cells := 0, slots := 0, locals := 0 } : Room) s m #[(.int vv)] below meth c s₁ [] 0 0 := Stand.of_body Bd
  have e0 : s₁.heap = h0 := by rw [← hh, Bd.state]; rfl
  have N0 := Fr.nil n0
  have K0 : Keep h0 h0 [] := Keep.refl _ _
  have r0 : GoTo p.tables e below s₁ (own_F_own_dc m vv) s₁ (mkF m 0 #[.val (.int vv)] []) := fun tt_ kk_ => castTop (own_ef_own_dc m vv) kk_
  have hn31 := own_lt31 hvn
  have r1 : GoTo p.tables e below s₁ (own_F_own_dc m vv) s₁ (mkF m 3 #[.val (.int vv)] [(.int (10 : Int32)), (.int vv)]) := fun tt_ kk_ => r0 tt_ (by
      show Steps p.tables e below (s₁.setTop (mkF m 0 #[.val (.int vv)] [])) _
      refine XS.iloadN X0.here hx rfl (hb hby own_d_method_3_code_0) rfl ?_
      show Steps p.tables e below (s₁.setTop (mkF m 1 #[.val (.int vv)] [(.int vv)])) _
      refine XS.bipush X0.here hx rfl (hb hby own_d_method_3_code_1) ?_
      show Steps p.tables e below (s₁.setTop (mkF m 3 #[.val (.int vv)] [(.int (10 : Int32)), (.int vv)])) _
      exact kk_)
  by_cases hc2 : vv < (10 : Int32)
  · have q3 : nn < 10 := (own_vlt hvn (k := 10) (by decide)).mp hc2
    have hdk : Jvm.Free.SBG.digits nn = 1 := by unfold Jvm.Free.SBG.digits; simp only [q3, if_true, if_false]
    obtain ⟨fs, hr, hrun, hended, hW, hsame⟩ := X0.leave (v := some (.int (1 : Int32))) (fun h => by rw [Bd.returns] at h; cases h)
    refine ⟨_, _, r1 _ ?_, hrun, hended, _, _, rfl, ?_, ⟨_, rfl⟩, hW, hsame.mono (by decide) (by decide)⟩
    · show Steps p.tables e below (s₁.setTop (mkF m 3 #[.val (.int vv)] [(.int (10 : Int32)), (.int vv)])) _
      refine XS.icmpNo X0.here hx rfl (hb hby own_d_method_3_code_3) rfl (tlt hc2).2.1 ?_
      show Steps p.tables e below (s₁.setTop (mkF m 6 #[.val (.int vv)] [])) _
      refine XS.iconst X0.here hx rfl (hb hby own_d_method_3_code_6) ?_
      show Steps p.tables e below (s₁.setTop (mkF m 7 #[.val (.int vv)] [(.int (1 : Int32))])) _
      exact retI X0 hx Bd.returns (hb hby own_d_method_3_code_7) hr
    · show Q_own_dc Z vv nn h0 n0 _ s₁.heap _
      rw [e0]
      exact ⟨(own_dgt hdk), N0, rfl⟩
  · have r4 : GoTo p.tables e below s₁ (own_F_own_dc m vv) s₁ (mkF m 11 #[.val (.int vv)] [(.int (100 : Int32)), (.int vv)]) := fun tt_ kk_ => r1 tt_ (by
        show Steps p.tables e below (s₁.setTop (mkF m 3 #[.val (.int vv)] [(.int (10 : Int32)), (.int vv)])) _
        refine XS.icmpYes X0.here hx rfl (pc0 := 3) (pc' := 8) rfl (hb hby own_d_method_3_code_3) rfl (flt hc2).2.1 (by decide) (by decide) ?_
        show Steps p.tables e below (s₁.setTop (mkF m 8 #[.val (.int vv)] [])) _
        refine XS.iloadN X0.here hx rfl (hb hby own_d_method_3_code_8) rfl ?_
        show Steps p.tables e below (s₁.setTop (mkF m 9 #[.val (.int vv)] [(.int vv)])) _
        refine XS.bipush X0.here hx rfl (hb hby own_d_method_3_code_9) ?_
        show Steps p.tables e below (s₁.setTop (mkF m 11 #[.val (.int vv)] [(.int (100 : Int32)), (.int vv)])) _
        exact kk_)
    by_cases hc5 : vv < (100 : Int32)
    · have q6 : ¬ nn < 10 := fun z => hc2 ((own_vlt hvn (k := 10) (by decide)).mpr z)
      have q7 : nn < 100 := (own_vlt hvn (k := 100) (by decide)).mp hc5
      have hdk : Jvm.Free.SBG.digits nn = 2 := by unfold Jvm.Free.SBG.digits; simp only [q6, q7, if_true, if_false]
      obtain ⟨fs, hr, hrun, hended, hW, hsame⟩ := X0.leave (v := some (.int (2 : Int32))) (fun h => by rw [Bd.returns] at h; cases h)
      refine ⟨_, _, r4 _ ?_, hrun, hended, _, _, rfl, ?_, ⟨_, rfl⟩, hW, hsame.mono (by decide) (by decide)⟩
      · show Steps p.tables e below (s₁.setTop (mkF m 11 #[.val (.int vv)] [(.int (100 : Int32)), (.int vv)])) _
        refine XS.icmpNo X0.here hx rfl (hb hby own_d_method_3_code_11) rfl (tlt hc5).2.1 ?_
        show Steps p.tables e below (s₁.setTop (mkF m 14 #[.val (.int vv)] [])) _
        refine XS.iconst X0.here hx rfl (hb hby own_d_method_3_code_14) ?_
        show Steps p.tables e below (s₁.setTop (mkF m 15 #[.val (.int vv)] [(.int (2 : Int32))])) _
        exact retI X0 hx Bd.returns (hb hby own_d_method_3_code_15) hr
      · show Q_own_dc Z vv nn h0 n0 _ s₁.heap _
        rw [e0]
        exact ⟨(own_dgt hdk), N0, rfl⟩
    · have r8 : GoTo p.tables e below s₁ (own_F_own_dc m vv) s₁ (mkF m 20 #[.val (.int vv)] [(.int (1000 : Int32)), (.int vv)]) := fun tt_ kk_ => r4 tt_ (by
          show Steps p.tables e below (s₁.setTop (mkF m 11 #[.val (.int vv)] [(.int (100 : Int32)), (.int vv)])) _
          refine XS.icmpYes X0.here hx rfl (pc0 := 11) (pc' := 16) rfl (hb hby own_d_method_3_code_11) rfl (flt hc5).2.1 (by decide) (by decide) ?_
          show Steps p.tables e below (s₁.setTop (mkF m 16 #[.val (.int vv)] [])) _
          refine XS.iloadN X0.here hx rfl (hb hby own_d_method_3_code_16) rfl ?_
          show Steps p.tables e below (s₁.setTop (mkF m 17 #[.val (.int vv)] [(.int vv)])) _
          refine XS.sipush X0.here hx rfl (hb hby own_d_method_3_code_17) ?_
          show Steps p.tables e below (s₁.setTop (mkF m 20 #[.val (.int vv)] [(.int (1000 : Int32)), (.int vv)])) _
          exact kk_)
      by_cases hc9 : vv < (1000 : Int32)
      · have q10 : ¬ nn < 10 := fun z => hc2 ((own_vlt hvn (k := 10) (by decide)).mpr z)
        have q11 : ¬ nn < 100 := fun z => hc5 ((own_vlt hvn (k := 100) (by decide)).mpr z)
        have q12 : nn < 1000 := (own_vlt hvn (k := 1000) (by decide)).mp hc9
        have hdk : Jvm.Free.SBG.digits nn = 3 := by unfold Jvm.Free.SBG.digits; simp only [q10, q11, q12, if_true, if_false]
        obtain ⟨fs, hr, hrun, hended, hW, hsame⟩ := X0.leave (v := some (.int (3 : Int32))) (fun h => by rw [Bd.returns] at h; cases h)
        refine ⟨_, _, r8 _ ?_, hrun, hended, _, _, rfl, ?_, ⟨_, rfl⟩, hW, hsame.mono (by decide) (by decide)⟩
        · show Steps p.tables e below (s₁.setTop (mkF m 20 #[.val (.int vv)] [(.int (1000 : Int32)), (.int vv)])) _
          refine XS.icmpNo X0.here hx rfl (hb hby own_d_method_3_code_20) rfl (tlt hc9).2.1 ?_
          show Steps p.tables e below (s₁.setTop (mkF m 23 #[.val (.int vv)] [])) _
          refine XS.iconst X0.here hx rfl (hb hby own_d_method_3_code_23) ?_
          show Steps p.tables e below (s₁.setTop (mkF m 24 #[.val (.int vv)] [(.int (3 : Int32))])) _
          exact retI X0 hx Bd.returns (hb hby own_d_method_3_code_24) hr
        · show Q_own_dc Z vv nn h0 n0 _ s₁.heap _
          rw [e0]
          exact ⟨(own_dgt hdk), N0, rfl⟩
      · have r13 : GoTo p.tables e below s₁ (own_F_own_dc m vv) s₁ (mkF m 29 #[.val (.int vv)] [(.int (10000 : Int32)), (.int vv)]) := fun tt_ kk_ => r8 tt_ (by
            show Steps p.tables e below (s₁.setTop (mkF m 20 #[.val (.int vv)] [(.int (1000 : Int32)), (.int vv)])) _
            refine XS.icmpYes X0.here hx rfl (pc0 := 20) (pc' := 25) rfl (hb hby own_d_method_3_code_20) rfl (flt hc9).2.1 (by decide) (by decide) ?_
            show Steps p.tables e below (s₁.setTop (mkF m 25 #[.val (.int vv)] [])) _
            refine XS.iloadN X0.here hx rfl (hb hby own_d_method_3_code_25) rfl ?_
            show Steps p.tables e below (s₁.setTop (mkF m 26 #[.val (.int vv)] [(.int vv)])) _
            refine XS.sipush X0.here hx rfl (hb hby own_d_method_3_code_26) ?_
            show Steps p.tables e below (s₁.setTop (mkF m 29 #[.val (.int vv)] [(.int (10000 : Int32)), (.int vv)])) _
            exact kk_)
        by_cases hc14 : vv < (10000 : Int32)
        · have q15 : ¬ nn < 10 := fun z => hc2 ((own_vlt hvn (k := 10) (by decide)).mpr z)
          have q16 : ¬ nn < 100 := fun z => hc5 ((own_vlt hvn (k := 100) (by decide)).mpr z)
          have q17 : ¬ nn < 1000 := fun z => hc9 ((own_vlt hvn (k := 1000) (by decide)).mpr z)
          have q18 : nn < 10000 := (own_vlt hvn (k := 10000) (by decide)).mp hc14
          have hdk : Jvm.Free.SBG.digits nn = 4 := by unfold Jvm.Free.SBG.digits; simp only [q15, q16, q17, q18, if_true, if_false]
          obtain ⟨fs, hr, hrun, hended, hW, hsame⟩ := X0.leave (v := some (.int (4 : Int32))) (fun h => by rw [Bd.returns] at h; cases h)
          refine ⟨_, _, r13 _ ?_, hrun, hended, _, _, rfl, ?_, ⟨_, rfl⟩, hW, hsame.mono (by decide) (by decide)⟩
          · show Steps p.tables e below (s₁.setTop (mkF m 29 #[.val (.int vv)] [(.int (10000 : Int32)), (.int vv)])) _
            refine XS.icmpNo X0.here hx rfl (hb hby own_d_method_3_code_29) rfl (tlt hc14).2.1 ?_
            show Steps p.tables e below (s₁.setTop (mkF m 32 #[.val (.int vv)] [])) _
            refine XS.iconst X0.here hx rfl (hb hby own_d_method_3_code_32) ?_
            show Steps p.tables e below (s₁.setTop (mkF m 33 #[.val (.int vv)] [(.int (4 : Int32))])) _
            exact retI X0 hx Bd.returns (hb hby own_d_method_3_code_33) hr
          · show Q_own_dc Z vv nn h0 n0 _ s₁.heap _
            rw [e0]
            exact ⟨(own_dgt hdk), N0, rfl⟩
        · have r19 : GoTo p.tables e below s₁ (own_F_own_dc m vv) s₁ (mkF m 37 #[.val (.int vv)] [(.int (100000 : Int32)), (.int vv)]) := fun tt_ kk_ => r13 tt_ (by
              show Steps p.tables e below (s₁.setTop (mkF m 29 #[.val (.int vv)] [(.int (10000 : Int32)), (.int vv)])) _
              refine XS.icmpYes X0.here hx rfl (pc0 := 29) (pc' := 34) rfl (hb hby own_d_method_3_code_29) rfl (flt hc14).2.1 (by decide) (by decide) ?_
              show Steps p.tables e below (s₁.setTop (mkF m 34 #[.val (.int vv)] [])) _
              refine XS.iloadN X0.here hx rfl (hb hby own_d_method_3_code_34) rfl ?_
              show Steps p.tables e below (s₁.setTop (mkF m 35 #[.val (.int vv)] [(.int vv)])) _
              refine X0.ldcI hx hown (mvT hZ (hw _ (List.mem_of_getElem? (i := 219) rfl))) rfl (hb hby own_d_method_3_code_35) ?_
              show Steps p.tables e below (s₁.setTop (mkF m 37 #[.val (.int vv)] [(.int (100000 : Int32)), (.int vv)])) _
              exact kk_)
          by_cases hc20 : vv < (100000 : Int32)
          · have q21 : ¬ nn < 10 := fun z => hc2 ((own_vlt hvn (k := 10) (by decide)).mpr z)
            have q22 : ¬ nn < 100 := fun z => hc5 ((own_vlt hvn (k := 100) (by decide)).mpr z)
            have q23 : ¬ nn < 1000 := fun z => hc9 ((own_vlt hvn (k := 1000) (by decide)).mpr z)
            have q24 : ¬ nn < 10000 := fun z => hc14 ((own_vlt hvn (k := 10000) (by decide)).mpr z)
            have q25 : nn < 100000 := (own_vlt hvn (k := 100000) (by decide)).mp hc20
            have hdk : Jvm.Free.SBG.digits nn = 5 := by unfold Jvm.Free.SBG.digits; simp only [q21, q22, q23, q24, q25, if_true, if_false]
            obtain ⟨fs, hr, hrun, hended, hW, hsame⟩ := X0.leave (v := some (.int (5 : Int32))) (fun h => by rw [Bd.returns] at h; cases h)
            refine ⟨_, _, r19 _ ?_, hrun, hended, _, _, rfl, ?_, ⟨_, rfl⟩, hW, hsame.mono (by decide) (by decide)⟩
            · show Steps p.tables e below (s₁.setTop (mkF m 37 #[.val (.int vv)] [(.int (100000 : Int32)), (.int vv)])) _
              refine XS.icmpNo X0.here hx rfl (hb hby own_d_method_3_code_37) rfl (tlt hc20).2.1 ?_
              show Steps p.tables e below (s₁.setTop (mkF m 40 #[.val (.int vv)] [])) _
              refine XS.iconst X0.here hx rfl (hb hby own_d_method_3_code_40) ?_
              show Steps p.tables e below (s₁.setTop (mkF m 41 #[.val (.int vv)] [(.int (5 : Int32))])) _
              exact retI X0 hx Bd.returns (hb hby own_d_method_3_code_41) hr
            · show Q_own_dc Z vv nn h0 n0 _ s₁.heap _
              rw [e0]
              exact ⟨(own_dgt hdk), N0, rfl⟩
          · have r26 : GoTo p.tables e below s₁ (own_F_own_dc m vv) s₁ (mkF m 45 #[.val (.int vv)] [(.int (1000000 : Int32)), (.int vv)]) := fun tt_ kk_ => r19 tt_ (by
                show Steps p.tables e below (s₁.setTop (mkF m 37 #[.val (.int vv)] [(.int (100000 : Int32)), (.int vv)])) _
                refine XS.icmpYes X0.here hx rfl (pc0 := 37) (pc' := 42) rfl (hb hby own_d_method_3_code_37) rfl (flt hc20).2.1 (by decide) (by decide) ?_
                show Steps p.tables e below (s₁.setTop (mkF m 42 #[.val (.int vv)] [])) _
                refine XS.iloadN X0.here hx rfl (hb hby own_d_method_3_code_42) rfl ?_
                show Steps p.tables e below (s₁.setTop (mkF m 43 #[.val (.int vv)] [(.int vv)])) _
                refine X0.ldcI hx hown (mvT hZ (hw _ (List.mem_of_getElem? (i := 220) rfl))) rfl (hb hby own_d_method_3_code_43) ?_
                show Steps p.tables e below (s₁.setTop (mkF m 45 #[.val (.int vv)] [(.int (1000000 : Int32)), (.int vv)])) _
                exact kk_)
            by_cases hc27 : vv < (1000000 : Int32)
            · have q28 : ¬ nn < 10 := fun z => hc2 ((own_vlt hvn (k := 10) (by decide)).mpr z)
              have q29 : ¬ nn < 100 := fun z => hc5 ((own_vlt hvn (k := 100) (by decide)).mpr z)
              have q30 : ¬ nn < 1000 := fun z => hc9 ((own_vlt hvn (k := 1000) (by decide)).mpr z)
              have q31 : ¬ nn < 10000 := fun z => hc14 ((own_vlt hvn (k := 10000) (by decide)).mpr z)
              have q32 : ¬ nn < 100000 := fun z => hc20 ((own_vlt hvn (k := 100000) (by decide)).mpr z)
              have q33 : nn < 1000000 := (own_vlt hvn (k := 1000000) (by decide)).mp hc27
              have hdk : Jvm.Free.SBG.digits nn = 6 := by unfold Jvm.Free.SBG.digits; simp only [q28, q29, q30, q31, q32, q33, if_true, if_false]
              obtain ⟨fs, hr, hrun, hended, hW, hsame⟩ := X0.leave (v := some (.int (6 : Int32))) (fun h => by rw [Bd.returns] at h; cases h)
              refine ⟨_, _, r26 _ ?_, hrun, hended, _, _, rfl, ?_, ⟨_, rfl⟩, hW, hsame.mono (by decide) (by decide)⟩
              · show Steps p.tables e below (s₁.setTop (mkF m 45 #[.val (.int vv)] [(.int (1000000 : Int32)), (.int vv)])) _
                refine XS.icmpNo X0.here hx rfl (hb hby own_d_method_3_code_45) rfl (tlt hc27).2.1 ?_
                show Steps p.tables e below (s₁.setTop (mkF m 48 #[.val (.int vv)] [])) _
                refine XS.bipush X0.here hx rfl (hb hby own_d_method_3_code_48) ?_
                show Steps p.tables e below (s₁.setTop (mkF m 50 #[.val (.int vv)] [(.int (6 : Int32))])) _
                exact retI X0 hx Bd.returns (hb hby own_d_method_3_code_50) hr
              · show Q_own_dc Z vv nn h0 n0 _ s₁.heap _
                rw [e0]
                exact ⟨(own_dgt hdk), N0, rfl⟩
            · have r34 : GoTo p.tables e below s₁ (own_F_own_dc m vv) s₁ (mkF m 54 #[.val (.int vv)] [(.int (10000000 : Int32)), (.int vv)]) := fun tt_ kk_ => r26 tt_ (by
                  show Steps p.tables e below (s₁.setTop (mkF m 45 #[.val (.int vv)] [(.int (1000000 : Int32)), (.int vv)])) _
                  refine XS.icmpYes X0.here hx rfl (pc0 := 45) (pc' := 51) rfl (hb hby own_d_method_3_code_45) rfl (flt hc27).2.1 (by decide) (by decide) ?_
                  show Steps p.tables e below (s₁.setTop (mkF m 51 #[.val (.int vv)] [])) _
                  refine XS.iloadN X0.here hx rfl (hb hby own_d_method_3_code_51) rfl ?_
                  show Steps p.tables e below (s₁.setTop (mkF m 52 #[.val (.int vv)] [(.int vv)])) _
                  refine X0.ldcI hx hown (mvT hZ (hw _ (List.mem_of_getElem? (i := 221) rfl))) rfl (hb hby own_d_method_3_code_52) ?_
                  show Steps p.tables e below (s₁.setTop (mkF m 54 #[.val (.int vv)] [(.int (10000000 : Int32)), (.int vv)])) _
                  exact kk_)
              by_cases hc35 : vv < (10000000 : Int32)
              · have q36 : ¬ nn < 10 := fun z => hc2 ((own_vlt hvn (k := 10) (by decide)).mpr z)
                have q37 : ¬ nn < 100 := fun z => hc5 ((own_vlt hvn (k := 100) (by decide)).mpr z)
                have q38 : ¬ nn < 1000 := fun z => hc9 ((own_vlt hvn (k := 1000) (by decide)).mpr z)
                have q39 : ¬ nn < 10000 := fun z => hc14 ((own_vlt hvn (k := 10000) (by decide)).mpr z)
                have q40 : ¬ nn < 100000 := fun z => hc20 ((own_vlt hvn (k := 100000) (by decide)).mpr z)
                have q41 : ¬ nn < 1000000 := fun z => hc27 ((own_vlt hvn (k := 1000000) (by decide)).mpr z)
                have q42 : nn < 10000000 := (own_vlt hvn (k := 10000000) (by decide)).mp hc35
                have hdk : Jvm.Free.SBG.digits nn = 7 := by unfold Jvm.Free.SBG.digits; simp only [q36, q37, q38, q39, q40, q41, q42, if_true, if_false]
                obtain ⟨fs, hr, hrun, hended, hW, hsame⟩ := X0.leave (v := some (.int (7 : Int32))) (fun h => by rw [Bd.returns] at h; cases h)
                refine ⟨_, _, r34 _ ?_, hrun, hended, _, _, rfl, ?_, ⟨_, rfl⟩, hW, hsame.mono (by decide) (by decide)⟩
                · show Steps p.tables e below (s₁.setTop (mkF m 54 #[.val (.int vv)] [(.int (10000000 : Int32)), (.int vv)])) _
                  refine XS.icmpNo X0.here hx rfl (hb hby own_d_method_3_code_54) rfl (tlt hc35).2.1 ?_
                  show Steps p.tables e below (s₁.setTop (mkF m 57 #[.val (.int vv)] [])) _
                  refine XS.bipush X0.here hx rfl (hb hby own_d_method_3_code_57) ?_
                  show Steps p.tables e below (s₁.setTop (mkF m 59 #[.val (.int vv)] [(.int (7 : Int32))])) _
                  exact retI X0 hx Bd.returns (hb hby own_d_method_3_code_59) hr
                · show Q_own_dc Z vv nn h0 n0 _ s₁.heap _
                  rw [e0]
                  exact ⟨(own_dgt hdk), N0, rfl⟩
              · have r43 : GoTo p.tables e below s₁ (own_F_own_dc m vv) s₁ (mkF m 63 #[.val (.int vv)] [(.int (100000000 : Int32)), (.int vv)]) := fun tt_ kk_ => r34 tt_ (by
                    show Steps p.tables e below (s₁.setTop (mkF m 54 #[.val (.int vv)] [(.int (10000000 : Int32)), (.int vv)])) _
                    refine XS.icmpYes X0.here hx rfl (pc0 := 54) (pc' := 60) rfl (hb hby own_d_method_3_code_54) rfl (flt hc35).2.1 (by decide) (by decide) ?_
                    show Steps p.tables e below (s₁.setTop (mkF m 60 #[.val (.int vv)] [])) _
                    refine XS.iloadN X0.here hx rfl (hb hby own_d_method_3_code_60) rfl ?_
                    show Steps p.tables e below (s₁.setTop (mkF m 61 #[.val (.int vv)] [(.int vv)])) _
                    refine X0.ldcI hx hown (mvT hZ (hw _ (List.mem_of_getElem? (i := 222) rfl))) rfl (hb hby own_d_method_3_code_61) ?_
                    show Steps p.tables e below (s₁.setTop (mkF m 63 #[.val (.int vv)] [(.int (100000000 : Int32)), (.int vv)])) _
                    exact kk_)
                by_cases hc44 : vv < (100000000 : Int32)
                · have q45 : ¬ nn < 10 := fun z => hc2 ((own_vlt hvn (k := 10) (by decide)).mpr z)
                  have q46 : ¬ nn < 100 := fun z => hc5 ((own_vlt hvn (k := 100) (by decide)).mpr z)
                  have q47 : ¬ nn < 1000 := fun z => hc9 ((own_vlt hvn (k := 1000) (by decide)).mpr z)
                  have q48 : ¬ nn < 10000 := fun z => hc14 ((own_vlt hvn (k := 10000) (by decide)).mpr z)
                  have q49 : ¬ nn < 100000 := fun z => hc20 ((own_vlt hvn (k := 100000) (by decide)).mpr z)
                  have q50 : ¬ nn < 1000000 := fun z => hc27 ((own_vlt hvn (k := 1000000) (by decide)).mpr z)
                  have q51 : ¬ nn < 10000000 := fun z => hc35 ((own_vlt hvn (k := 10000000) (by decide)).mpr z)
                  have q52 : nn < 100000000 := (own_vlt hvn (k := 100000000) (by decide)).mp hc44
                  have hdk : Jvm.Free.SBG.digits nn = 8 := by unfold Jvm.Free.SBG.digits; simp only [q45, q46, q47, q48, q49, q50, q51, q52, if_true, if_false]
                  obtain ⟨fs, hr, hrun, hended, hW, hsame⟩ := X0.leave (v := some (.int (8 : Int32))) (fun h => by rw [Bd.returns] at h; cases h)
                  refine ⟨_, _, r43 _ ?_, hrun, hended, _, _, rfl, ?_, ⟨_, rfl⟩, hW, hsame.mono (by decide) (by decide)⟩
                  · show Steps p.tables e below (s₁.setTop (mkF m 63 #[.val (.int vv)] [(.int (100000000 : Int32)), (.int vv)])) _
                    refine XS.icmpNo X0.here hx rfl (hb hby own_d_method_3_code_63) rfl (tlt hc44).2.1 ?_
                    show Steps p.tables e below (s₁.setTop (mkF m 66 #[.val (.int vv)] [])) _
                    refine XS.bipush X0.here hx rfl (hb hby own_d_method_3_code_66) ?_
                    show Steps p.tables e below (s₁.setTop (mkF m 68 #[.val (.int vv)] [(.int (8 : Int32))])) _
                    exact retI X0 hx Bd.returns (hb hby own_d_method_3_code_68) hr
                  · show Q_own_dc Z vv nn h0 n0 _ s₁.heap _
                    rw [e0]
                    exact ⟨(own_dgt hdk), N0, rfl⟩
                · have r53 : GoTo p.tables e below s₁ (own_F_own_dc m vv) s₁ (mkF m 72 #[.val (.int vv)] [(.int (1000000000 : Int32)), (.int vv)]) := fun tt_ kk_ => r43 tt_ (by
                      show Steps p.tables e below (s₁.setTop (mkF m 63 #[.val (.int vv)] [(.int (100000000 : Int32)), (.int vv)])) _
                      refine XS.icmpYes X0.here hx rfl (pc0 := 63) (pc' := 69) rfl (hb hby own_d_method_3_code_63) rfl (flt hc44).2.1 (by decide) (by decide) ?_
                      show Steps p.tables e below (s₁.setTop (mkF m 69 #[.val (.int vv)] [])) _
                      refine XS.iloadN X0.here hx rfl (hb hby own_d_method_3_code_69) rfl ?_
                      show Steps p.tables e below (s₁.setTop (mkF m 70 #[.val (.int vv)] [(.int vv)])) _
                      refine X0.ldcI hx hown (mvT hZ (hw _ (List.mem_of_getElem? (i := 223) rfl))) rfl (hb hby own_d_method_3_code_70) ?_
                      show Steps p.tables e below (s₁.setTop (mkF m 72 #[.val (.int vv)] [(.int (1000000000 : Int32)), (.int vv)])) _
                      exact kk_)
                  by_cases hc54 : vv < (1000000000 : Int32)
                  · have q55 : ¬ nn < 10 := fun z => hc2 ((own_vlt hvn (k := 10) (by decide)).mpr z)
                    have q56 : ¬ nn < 100 := fun z => hc5 ((own_vlt hvn (k := 100) (by decide)).mpr z)
                    have q57 : ¬ nn < 1000 := fun z => hc9 ((own_vlt hvn (k := 1000) (by decide)).mpr z)
                    have q58 : ¬ nn < 10000 := fun z => hc14 ((own_vlt hvn (k := 10000) (by decide)).mpr z)
                    have q59 : ¬ nn < 100000 := fun z => hc20 ((own_vlt hvn (k := 100000) (by decide)).mpr z)
                    have q60 : ¬ nn < 1000000 := fun z => hc27 ((own_vlt hvn (k := 1000000) (by decide)).mpr z)
                    have q61 : ¬ nn < 10000000 := fun z => hc35 ((own_vlt hvn (k := 10000000) (by decide)).mpr z)
                    have q62 : ¬ nn < 100000000 := fun z => hc44 ((own_vlt hvn (k := 100000000) (by decide)).mpr z)
                    have q63 : nn < 1000000000 := (own_vlt hvn (k := 1000000000) (by decide)).mp hc54
                    have hdk : Jvm.Free.SBG.digits nn = 9 := by unfold Jvm.Free.SBG.digits; simp only [q55, q56, q57, q58, q59, q60, q61, q62, q63, if_true, if_false]
                    obtain ⟨fs, hr, hrun, hended, hW, hsame⟩ := X0.leave (v := some (.int (9 : Int32))) (fun h => by rw [Bd.returns] at h; cases h)
                    refine ⟨_, _, r53 _ ?_, hrun, hended, _, _, rfl, ?_, ⟨_, rfl⟩, hW, hsame.mono (by decide) (by decide)⟩
                    · show Steps p.tables e below (s₁.setTop (mkF m 72 #[.val (.int vv)] [(.int (1000000000 : Int32)), (.int vv)])) _
                      refine XS.icmpNo X0.here hx rfl (hb hby own_d_method_3_code_72) rfl (tlt hc54).2.1 ?_
                      show Steps p.tables e below (s₁.setTop (mkF m 75 #[.val (.int vv)] [])) _
                      refine XS.bipush X0.here hx rfl (hb hby own_d_method_3_code_75) ?_
                      show Steps p.tables e below (s₁.setTop (mkF m 77 #[.val (.int vv)] [(.int (9 : Int32))])) _
                      exact retI X0 hx Bd.returns (hb hby own_d_method_3_code_77) hr
                    · show Q_own_dc Z vv nn h0 n0 _ s₁.heap _
                      rw [e0]
                      exact ⟨(own_dgt hdk), N0, rfl⟩
                  · have q64 : ¬ nn < 10 := fun z => hc2 ((own_vlt hvn (k := 10) (by decide)).mpr z)
                    have q65 : ¬ nn < 100 := fun z => hc5 ((own_vlt hvn (k := 100) (by decide)).mpr z)
                    have q66 : ¬ nn < 1000 := fun z => hc9 ((own_vlt hvn (k := 1000) (by decide)).mpr z)
                    have q67 : ¬ nn < 10000 := fun z => hc14 ((own_vlt hvn (k := 10000) (by decide)).mpr z)
                    have q68 : ¬ nn < 100000 := fun z => hc20 ((own_vlt hvn (k := 100000) (by decide)).mpr z)
                    have q69 : ¬ nn < 1000000 := fun z => hc27 ((own_vlt hvn (k := 1000000) (by decide)).mpr z)
                    have q70 : ¬ nn < 10000000 := fun z => hc35 ((own_vlt hvn (k := 10000000) (by decide)).mpr z)
                    have q71 : ¬ nn < 100000000 := fun z => hc44 ((own_vlt hvn (k := 100000000) (by decide)).mpr z)
                    have q72 : ¬ nn < 1000000000 := fun z => hc54 ((own_vlt hvn (k := 1000000000) (by decide)).mpr z)
                    have hdk : Jvm.Free.SBG.digits nn = 10 := by unfold Jvm.Free.SBG.digits; simp only [q64, q65, q66, q67, q68, q69, q70, q71, q72, if_true, if_false]
                    obtain ⟨fs, hr, hrun, hended, hW, hsame⟩ := X0.leave (v := some (.int (10 : Int32))) (fun h => by rw [Bd.returns] at h; cases h)
                    refine ⟨_, _, r53 _ ?_, hrun, hended, _, _, rfl, ?_, ⟨_, rfl⟩, hW, hsame.mono (by decide) (by decide)⟩
                    · show Steps p.tables e below (s₁.setTop (mkF m 72 #[.val (.int vv)] [(.int (1000000000 : Int32)), (.int vv)])) _
                      refine XS.icmpYes X0.here hx rfl (pc0 := 72) (pc' := 78) rfl (hb hby own_d_method_3_code_72) rfl (flt hc54).2.1 (by decide) (by decide) ?_
                      show Steps p.tables e below (s₁.setTop (mkF m 78 #[.val (.int vv)] [])) _
                      refine XS.bipush X0.here hx rfl (hb hby own_d_method_3_code_78) ?_
                      show Steps p.tables e below (s₁.setTop (mkF m 80 #[.val (.int vv)] [(.int (10 : Int32))])) _
                      exact retI X0 hx Bd.returns (hb hby own_d_method_3_code_80) hr
                    · show Q_own_dc Z vv nn h0 n0 _ s₁.heap _
                      rw [e0]
                      exact ⟨(own_dgt hdk), N0, rfl⟩
theorem own_pn_own_pow : plainName "com/example/myna/myna/limits/RateLimitToStringPinLaw" = true := by first | (simp [plainName, overriddenIn]; done) | decide +kernel
theorem own_ef_own_pow (m : MethodId) (kk : Nat) : entryFrame m #[(.int (Int32.ofNat kk))] 1 = mkF m 0 #[.val (.int (Int32.ofNat kk))] [] := by first | (simp [entryFrame, mkF, argsToLocals, own_cI, own_cJ, own_cR, own_cN]; done) | rfl
abbrev own_F_own_pow (m : MethodId) (kk : Nat) : JFrame := entryFrame m #[(.int (Int32.ofNat kk))] 1
def Q_own_pow (Z : State) (kk : Nat) (h0 : Heap) (n0 : Nat) (v : Option Value) (h : Heap) (L : List Loc) : Prop := v = some (.int (Int32.ofNat (10 ^ kk))) ∧ Fr n0 L ∧ h = h0
set_option maxRecDepth 65536 in
set_option maxHeartbeats 40000000 in
theorem own_pow (l : Launch) (Z : State) (a0 : Array Value) (hw : ∀ d ∈ tables_1, d.before a0 Z = true) (ws : List Jvm.Cond) (kk : Nat) (h0 : Heap) (n0 : Nat) (O0 : Old Z n0 h0) (hkk : kk ≤ 9) :
    MetFree l (⟨"com/example/myna/myna/limits/RateLimitToStringPinLaw", "pow10", "(I)I"⟩ : MethodName) (head1 (Jvm.Cond.code (⟨"com/example/myna/myna/limits/RateLimitToStringPinLaw", "pow10", "(I)I"⟩ : MethodName) method_4_code 1 (some .int) :: ws) ({ frames := 0, cells := 0, slots := 0, locals := 0 } : Room)) (fun aa_ U_ => aa_ = #[(.int (Int32.ofNat kk))] ∧ Z.Warmed39 U_.vm ∧ U_.heap = h0) (fun _ _ _ _ _ => True) (fun _ U_ o_ V_ => ∃ v_ L_, o_ = .returned v_ ∧ Q_own_pow Z kk h0 n0 v_ V_.heap L_ ∧ FrameEnd U_ o_ V_ L_ ({ frames := 0, cells := 0, slots := 0, locals := 0 } : Room).cells ({ frames := 0, cells := 0, slots := 0, locals := 0 } : Room).slots) := by
  refine MetFree.of_bodySF (plainFor_of_name own_pn_own_pow) hisR ?_
  intro p e s m args below meth c s₁ Bd hml0 hP hK
  obtain ⟨rfl, hZ, hh⟩ := hP
  have hx := Bd.exec
  have hby := Bd.bytes
  have hml : c.maxLocals = 1 := hml0
  have hown : s.vm.findClass "com/example/myna/myna/limits/RateLimitToStringPinLaw" = some m.cls := findClass_of_methodNamed Bd.named
  have hnm := (name_of_methodNamed Bd.named Bd.method).1
  have X0 : Stand p l e ({ frames := 0, cells := 0, slots := 0, locals := 0 } : Room) s m #[(.int (Int32.ofNat kk))] below meth c s₁ [] 0 0 := Stand.of_body Bd
  have e0 : s₁.heap = h0 := by rw [← hh, Bd.state]; rfl
  have N0 := Fr.nil n0
  have K0 : Keep h0 h0 [] := Keep.refl _ _
  have r0 : GoTo p.tables e below s₁ (own_F_own_pow m kk) s₁ (mkF m 0 #[.val (.int (Int32.ofNat kk))] []) := fun tt_ kk_ => castTop (own_ef_own_pow m kk) kk_
  have r1 : GoTo p.tables e below s₁ (own_F_own_pow m kk) s₁ (mkF m 1 #[.val (.int (Int32.ofNat kk))] [(.int (Int32.ofNat kk))]) := fun tt_ kk_ => r0 tt_ (by
      show Steps p.tables e below (s₁.setTop (mkF m 0 #[.val (.int (Int32.ofNat kk))] [])) _
      refine XS.iloadN X0.here hx rfl (hb hby own_d_method_4_code_0) rfl ?_
      show Steps p.tables e below (s₁.setTop (mkF m 1 #[.val (.int (Int32.ofNat kk))] [(.int (Int32.ofNat kk))])) _
      exact kk_)
  by_cases hc2 : (Int32.ofNat kk) = (0 : Int32)
  · have hkv : kk = 0 := (own_eqN (by omega) (by decide)).mp hc2
    obtain ⟨fs, hr, hrun, hended, hW, hsame⟩ := X0.leave (v := some (.int (1 : Int32))) (fun h => by rw [Bd.returns] at h; cases h)
    refine ⟨_, _, r1 _ ?_, hrun, hended, _, _, rfl, ?_, ⟨_, rfl⟩, hW, hsame.mono (by decide) (by decide)⟩
    · show Steps p.tables e below (s₁.setTop (mkF m 1 #[.val (.int (Int32.ofNat kk))] [(.int (Int32.ofNat kk))])) _
      refine XS.ifNo X0.here hx rfl (hb hby own_d_method_4_code_1) rfl ((if0 _ _).trans (teq hc2).2) ?_
      show Steps p.tables e below (s₁.setTop (mkF m 4 #[.val (.int (Int32.ofNat kk))] [])) _
      refine XS.iconst X0.here hx rfl (hb hby own_d_method_4_code_4) ?_
      show Steps p.tables e below (s₁.setTop (mkF m 5 #[.val (.int (Int32.ofNat kk))] [(.int (1 : Int32))])) _
      exact retI X0 hx Bd.returns (hb hby own_d_method_4_code_5) hr
    · show Q_own_pow Z kk h0 n0 _ s₁.heap _
      rw [e0]
      exact ⟨(by rw [hkv]; rfl), N0, rfl⟩
  · have r3 : GoTo p.tables e below s₁ (own_F_own_pow m kk) s₁ (mkF m 8 #[.val (.int (Int32.ofNat kk))] [(.int (1 : Int32)), (.int (Int32.ofNat kk))]) := fun tt_ kk_ => r1 tt_ (by
        show Steps p.tables e below (s₁.setTop (mkF m 1 #[.val (.int (Int32.ofNat kk))] [(.int (Int32.ofNat kk))])) _
        refine XS.ifYes X0.here hx rfl (pc0 := 1) (pc' := 6) rfl (hb hby own_d_method_4_code_1) rfl ((if0 _ _).trans (feq hc2).2) (by decide) (by decide) ?_
        show Steps p.tables e below (s₁.setTop (mkF m 6 #[.val (.int (Int32.ofNat kk))] [])) _
        refine XS.iloadN X0.here hx rfl (hb hby own_d_method_4_code_6) rfl ?_
        show Steps p.tables e below (s₁.setTop (mkF m 7 #[.val (.int (Int32.ofNat kk))] [(.int (Int32.ofNat kk))])) _
        refine XS.iconst X0.here hx rfl (hb hby own_d_method_4_code_7) ?_
        show Steps p.tables e below (s₁.setTop (mkF m 8 #[.val (.int (Int32.ofNat kk))] [(.int (1 : Int32)), (.int (Int32.ofNat kk))])) _
        exact kk_)
    by_cases hc4 : (Int32.ofNat kk) = (1 : Int32)
    · have hkv : kk = 1 := (own_eqN (by omega) (by decide)).mp hc4
      obtain ⟨fs, hr, hrun, hended, hW, hsame⟩ := X0.leave (v := some (.int (10 : Int32))) (fun h => by rw [Bd.returns] at h; cases h)
      refine ⟨_, _, r3 _ ?_, hrun, hended, _, _, rfl, ?_, ⟨_, rfl⟩, hW, hsame.mono (by decide) (by decide)⟩
      · show Steps p.tables e below (s₁.setTop (mkF m 8 #[.val (.int (Int32.ofNat kk))] [(.int (1 : Int32)), (.int (Int32.ofNat kk))])) _
        refine XS.icmpNo X0.here hx rfl (hb hby own_d_method_4_code_8) rfl (teq hc4).2 ?_
        show Steps p.tables e below (s₁.setTop (mkF m 11 #[.val (.int (Int32.ofNat kk))] [])) _
        refine XS.bipush X0.here hx rfl (hb hby own_d_method_4_code_11) ?_
        show Steps p.tables e below (s₁.setTop (mkF m 13 #[.val (.int (Int32.ofNat kk))] [(.int (10 : Int32))])) _
        exact retI X0 hx Bd.returns (hb hby own_d_method_4_code_13) hr
      · show Q_own_pow Z kk h0 n0 _ s₁.heap _
        rw [e0]
        exact ⟨(by rw [hkv]; rfl), N0, rfl⟩
    · have r5 : GoTo p.tables e below s₁ (own_F_own_pow m kk) s₁ (mkF m 16 #[.val (.int (Int32.ofNat kk))] [(.int (2 : Int32)), (.int (Int32.ofNat kk))]) := fun tt_ kk_ => r3 tt_ (by
          show Steps p.tables e below (s₁.setTop (mkF m 8 #[.val (.int (Int32.ofNat kk))] [(.int (1 : Int32)), (.int (Int32.ofNat kk))])) _
          refine XS.icmpYes X0.here hx rfl (pc0 := 8) (pc' := 14) rfl (hb hby own_d_method_4_code_8) rfl (feq hc4).2 (by decide) (by decide) ?_
          show Steps p.tables e below (s₁.setTop (mkF m 14 #[.val (.int (Int32.ofNat kk))] [])) _
          refine XS.iloadN X0.here hx rfl (hb hby own_d_method_4_code_14) rfl ?_
          show Steps p.tables e below (s₁.setTop (mkF m 15 #[.val (.int (Int32.ofNat kk))] [(.int (Int32.ofNat kk))])) _
          refine XS.iconst X0.here hx rfl (hb hby own_d_method_4_code_15) ?_
          show Steps p.tables e below (s₁.setTop (mkF m 16 #[.val (.int (Int32.ofNat kk))] [(.int (2 : Int32)), (.int (Int32.ofNat kk))])) _
          exact kk_)
      by_cases hc6 : (Int32.ofNat kk) = (2 : Int32)
      · have hkv : kk = 2 := (own_eqN (by omega) (by decide)).mp hc6
        obtain ⟨fs, hr, hrun, hended, hW, hsame⟩ := X0.leave (v := some (.int (100 : Int32))) (fun h => by rw [Bd.returns] at h; cases h)
        refine ⟨_, _, r5 _ ?_, hrun, hended, _, _, rfl, ?_, ⟨_, rfl⟩, hW, hsame.mono (by decide) (by decide)⟩
        · show Steps p.tables e below (s₁.setTop (mkF m 16 #[.val (.int (Int32.ofNat kk))] [(.int (2 : Int32)), (.int (Int32.ofNat kk))])) _
          refine XS.icmpNo X0.here hx rfl (hb hby own_d_method_4_code_16) rfl (teq hc6).2 ?_
          show Steps p.tables e below (s₁.setTop (mkF m 19 #[.val (.int (Int32.ofNat kk))] [])) _
          refine XS.bipush X0.here hx rfl (hb hby own_d_method_4_code_19) ?_
          show Steps p.tables e below (s₁.setTop (mkF m 21 #[.val (.int (Int32.ofNat kk))] [(.int (100 : Int32))])) _
          exact retI X0 hx Bd.returns (hb hby own_d_method_4_code_21) hr
        · show Q_own_pow Z kk h0 n0 _ s₁.heap _
          rw [e0]
          exact ⟨(by rw [hkv]; rfl), N0, rfl⟩
      · have r7 : GoTo p.tables e below s₁ (own_F_own_pow m kk) s₁ (mkF m 24 #[.val (.int (Int32.ofNat kk))] [(.int (3 : Int32)), (.int (Int32.ofNat kk))]) := fun tt_ kk_ => r5 tt_ (by
            show Steps p.tables e below (s₁.setTop (mkF m 16 #[.val (.int (Int32.ofNat kk))] [(.int (2 : Int32)), (.int (Int32.ofNat kk))])) _
            refine XS.icmpYes X0.here hx rfl (pc0 := 16) (pc' := 22) rfl (hb hby own_d_method_4_code_16) rfl (feq hc6).2 (by decide) (by decide) ?_
            show Steps p.tables e below (s₁.setTop (mkF m 22 #[.val (.int (Int32.ofNat kk))] [])) _
            refine XS.iloadN X0.here hx rfl (hb hby own_d_method_4_code_22) rfl ?_
            show Steps p.tables e below (s₁.setTop (mkF m 23 #[.val (.int (Int32.ofNat kk))] [(.int (Int32.ofNat kk))])) _
            refine XS.iconst X0.here hx rfl (hb hby own_d_method_4_code_23) ?_
            show Steps p.tables e below (s₁.setTop (mkF m 24 #[.val (.int (Int32.ofNat kk))] [(.int (3 : Int32)), (.int (Int32.ofNat kk))])) _
            exact kk_)
        by_cases hc8 : (Int32.ofNat kk) = (3 : Int32)
        · have hkv : kk = 3 := (own_eqN (by omega) (by decide)).mp hc8
          obtain ⟨fs, hr, hrun, hended, hW, hsame⟩ := X0.leave (v := some (.int (1000 : Int32))) (fun h => by rw [Bd.returns] at h; cases h)
          refine ⟨_, _, r7 _ ?_, hrun, hended, _, _, rfl, ?_, ⟨_, rfl⟩, hW, hsame.mono (by decide) (by decide)⟩
          · show Steps p.tables e below (s₁.setTop (mkF m 24 #[.val (.int (Int32.ofNat kk))] [(.int (3 : Int32)), (.int (Int32.ofNat kk))])) _
            refine XS.icmpNo X0.here hx rfl (hb hby own_d_method_4_code_24) rfl (teq hc8).2 ?_
            show Steps p.tables e below (s₁.setTop (mkF m 27 #[.val (.int (Int32.ofNat kk))] [])) _
            refine XS.sipush X0.here hx rfl (hb hby own_d_method_4_code_27) ?_
            show Steps p.tables e below (s₁.setTop (mkF m 30 #[.val (.int (Int32.ofNat kk))] [(.int (1000 : Int32))])) _
            exact retI X0 hx Bd.returns (hb hby own_d_method_4_code_30) hr
          · show Q_own_pow Z kk h0 n0 _ s₁.heap _
            rw [e0]
            exact ⟨(by rw [hkv]; rfl), N0, rfl⟩
        · have r9 : GoTo p.tables e below s₁ (own_F_own_pow m kk) s₁ (mkF m 33 #[.val (.int (Int32.ofNat kk))] [(.int (4 : Int32)), (.int (Int32.ofNat kk))]) := fun tt_ kk_ => r7 tt_ (by
              show Steps p.tables e below (s₁.setTop (mkF m 24 #[.val (.int (Int32.ofNat kk))] [(.int (3 : Int32)), (.int (Int32.ofNat kk))])) _
              refine XS.icmpYes X0.here hx rfl (pc0 := 24) (pc' := 31) rfl (hb hby own_d_method_4_code_24) rfl (feq hc8).2 (by decide) (by decide) ?_
              show Steps p.tables e below (s₁.setTop (mkF m 31 #[.val (.int (Int32.ofNat kk))] [])) _
              refine XS.iloadN X0.here hx rfl (hb hby own_d_method_4_code_31) rfl ?_
              show Steps p.tables e below (s₁.setTop (mkF m 32 #[.val (.int (Int32.ofNat kk))] [(.int (Int32.ofNat kk))])) _
              refine XS.iconst X0.here hx rfl (hb hby own_d_method_4_code_32) ?_
              show Steps p.tables e below (s₁.setTop (mkF m 33 #[.val (.int (Int32.ofNat kk))] [(.int (4 : Int32)), (.int (Int32.ofNat kk))])) _
              exact kk_)
          by_cases hc10 : (Int32.ofNat kk) = (4 : Int32)
          · have hkv : kk = 4 := (own_eqN (by omega) (by decide)).mp hc10
            obtain ⟨fs, hr, hrun, hended, hW, hsame⟩ := X0.leave (v := some (.int (10000 : Int32))) (fun h => by rw [Bd.returns] at h; cases h)
            refine ⟨_, _, r9 _ ?_, hrun, hended, _, _, rfl, ?_, ⟨_, rfl⟩, hW, hsame.mono (by decide) (by decide)⟩
            · show Steps p.tables e below (s₁.setTop (mkF m 33 #[.val (.int (Int32.ofNat kk))] [(.int (4 : Int32)), (.int (Int32.ofNat kk))])) _
              refine XS.icmpNo X0.here hx rfl (hb hby own_d_method_4_code_33) rfl (teq hc10).2 ?_
              show Steps p.tables e below (s₁.setTop (mkF m 36 #[.val (.int (Int32.ofNat kk))] [])) _
              refine XS.sipush X0.here hx rfl (hb hby own_d_method_4_code_36) ?_
              show Steps p.tables e below (s₁.setTop (mkF m 39 #[.val (.int (Int32.ofNat kk))] [(.int (10000 : Int32))])) _
              exact retI X0 hx Bd.returns (hb hby own_d_method_4_code_39) hr
            · show Q_own_pow Z kk h0 n0 _ s₁.heap _
              rw [e0]
              exact ⟨(by rw [hkv]; rfl), N0, rfl⟩
          · have r11 : GoTo p.tables e below s₁ (own_F_own_pow m kk) s₁ (mkF m 42 #[.val (.int (Int32.ofNat kk))] [(.int (5 : Int32)), (.int (Int32.ofNat kk))]) := fun tt_ kk_ => r9 tt_ (by
                show Steps p.tables e below (s₁.setTop (mkF m 33 #[.val (.int (Int32.ofNat kk))] [(.int (4 : Int32)), (.int (Int32.ofNat kk))])) _
                refine XS.icmpYes X0.here hx rfl (pc0 := 33) (pc' := 40) rfl (hb hby own_d_method_4_code_33) rfl (feq hc10).2 (by decide) (by decide) ?_
                show Steps p.tables e below (s₁.setTop (mkF m 40 #[.val (.int (Int32.ofNat kk))] [])) _
                refine XS.iloadN X0.here hx rfl (hb hby own_d_method_4_code_40) rfl ?_
                show Steps p.tables e below (s₁.setTop (mkF m 41 #[.val (.int (Int32.ofNat kk))] [(.int (Int32.ofNat kk))])) _
                refine XS.iconst X0.here hx rfl (hb hby own_d_method_4_code_41) ?_
                show Steps p.tables e below (s₁.setTop (mkF m 42 #[.val (.int (Int32.ofNat kk))] [(.int (5 : Int32)), (.int (Int32.ofNat kk))])) _
                exact kk_)
            by_cases hc12 : (Int32.ofNat kk) = (5 : Int32)
            · have hkv : kk = 5 := (own_eqN (by omega) (by decide)).mp hc12
              obtain ⟨fs, hr, hrun, hended, hW, hsame⟩ := X0.leave (v := some (.int (100000 : Int32))) (fun h => by rw [Bd.returns] at h; cases h)
              refine ⟨_, _, r11 _ ?_, hrun, hended, _, _, rfl, ?_, ⟨_, rfl⟩, hW, hsame.mono (by decide) (by decide)⟩
              · show Steps p.tables e below (s₁.setTop (mkF m 42 #[.val (.int (Int32.ofNat kk))] [(.int (5 : Int32)), (.int (Int32.ofNat kk))])) _
                refine XS.icmpNo X0.here hx rfl (hb hby own_d_method_4_code_42) rfl (teq hc12).2 ?_
                show Steps p.tables e below (s₁.setTop (mkF m 45 #[.val (.int (Int32.ofNat kk))] [])) _
                refine X0.ldcI hx hown (mvT hZ (hw _ (List.mem_of_getElem? (i := 219) rfl))) rfl (hb hby own_d_method_4_code_45) ?_
                show Steps p.tables e below (s₁.setTop (mkF m 47 #[.val (.int (Int32.ofNat kk))] [(.int (100000 : Int32))])) _
                exact retI X0 hx Bd.returns (hb hby own_d_method_4_code_47) hr
              · show Q_own_pow Z kk h0 n0 _ s₁.heap _
                rw [e0]
                exact ⟨(by rw [hkv]; rfl), N0, rfl⟩
            · have r13 : GoTo p.tables e below s₁ (own_F_own_pow m kk) s₁ (mkF m 51 #[.val (.int (Int32.ofNat kk))] [(.int (6 : Int32)), (.int (Int32.ofNat kk))]) := fun tt_ kk_ => r11 tt_ (by
                  show Steps p.tables e below (s₁.setTop (mkF m 42 #[.val (.int (Int32.ofNat kk))] [(.int (5 : Int32)), (.int (Int32.ofNat kk))])) _
                  refine XS.icmpYes X0.here hx rfl (pc0 := 42) (pc' := 48) rfl (hb hby own_d_method_4_code_42) rfl (feq hc12).2 (by decide) (by decide) ?_
                  show Steps p.tables e below (s₁.setTop (mkF m 48 #[.val (.int (Int32.ofNat kk))] [])) _
                  refine XS.iloadN X0.here hx rfl (hb hby own_d_method_4_code_48) rfl ?_
                  show Steps p.tables e below (s₁.setTop (mkF m 49 #[.val (.int (Int32.ofNat kk))] [(.int (Int32.ofNat kk))])) _
                  refine XS.bipush X0.here hx rfl (hb hby own_d_method_4_code_49) ?_
                  show Steps p.tables e below (s₁.setTop (mkF m 51 #[.val (.int (Int32.ofNat kk))] [(.int (6 : Int32)), (.int (Int32.ofNat kk))])) _
                  exact kk_)
              by_cases hc14 : (Int32.ofNat kk) = (6 : Int32)
              · have hkv : kk = 6 := (own_eqN (by omega) (by decide)).mp hc14
                obtain ⟨fs, hr, hrun, hended, hW, hsame⟩ := X0.leave (v := some (.int (1000000 : Int32))) (fun h => by rw [Bd.returns] at h; cases h)
                refine ⟨_, _, r13 _ ?_, hrun, hended, _, _, rfl, ?_, ⟨_, rfl⟩, hW, hsame.mono (by decide) (by decide)⟩
                · show Steps p.tables e below (s₁.setTop (mkF m 51 #[.val (.int (Int32.ofNat kk))] [(.int (6 : Int32)), (.int (Int32.ofNat kk))])) _
                  refine XS.icmpNo X0.here hx rfl (hb hby own_d_method_4_code_51) rfl (teq hc14).2 ?_
                  show Steps p.tables e below (s₁.setTop (mkF m 54 #[.val (.int (Int32.ofNat kk))] [])) _
                  refine X0.ldcI hx hown (mvT hZ (hw _ (List.mem_of_getElem? (i := 220) rfl))) rfl (hb hby own_d_method_4_code_54) ?_
                  show Steps p.tables e below (s₁.setTop (mkF m 56 #[.val (.int (Int32.ofNat kk))] [(.int (1000000 : Int32))])) _
                  exact retI X0 hx Bd.returns (hb hby own_d_method_4_code_56) hr
                · show Q_own_pow Z kk h0 n0 _ s₁.heap _
                  rw [e0]
                  exact ⟨(by rw [hkv]; rfl), N0, rfl⟩
              · have r15 : GoTo p.tables e below s₁ (own_F_own_pow m kk) s₁ (mkF m 60 #[.val (.int (Int32.ofNat kk))] [(.int (7 : Int32)), (.int (Int32.ofNat kk))]) := fun tt_ kk_ => r13 tt_ (by
                    show Steps p.tables e below (s₁.setTop (mkF m 51 #[.val (.int (Int32.ofNat kk))] [(.int (6 : Int32)), (.int (Int32.ofNat kk))])) _
                    refine XS.icmpYes X0.here hx rfl (pc0 := 51) (pc' := 57) rfl (hb hby own_d_method_4_code_51) rfl (feq hc14).2 (by decide) (by decide) ?_
                    show Steps p.tables e below (s₁.setTop (mkF m 57 #[.val (.int (Int32.ofNat kk))] [])) _
                    refine XS.iloadN X0.here hx rfl (hb hby own_d_method_4_code_57) rfl ?_
                    show Steps p.tables e below (s₁.setTop (mkF m 58 #[.val (.int (Int32.ofNat kk))] [(.int (Int32.ofNat kk))])) _
                    refine XS.bipush X0.here hx rfl (hb hby own_d_method_4_code_58) ?_
                    show Steps p.tables e below (s₁.setTop (mkF m 60 #[.val (.int (Int32.ofNat kk))] [(.int (7 : Int32)), (.int (Int32.ofNat kk))])) _
                    exact kk_)
                by_cases hc16 : (Int32.ofNat kk) = (7 : Int32)
                · have hkv : kk = 7 := (own_eqN (by omega) (by decide)).mp hc16
                  obtain ⟨fs, hr, hrun, hended, hW, hsame⟩ := X0.leave (v := some (.int (10000000 : Int32))) (fun h => by rw [Bd.returns] at h; cases h)
                  refine ⟨_, _, r15 _ ?_, hrun, hended, _, _, rfl, ?_, ⟨_, rfl⟩, hW, hsame.mono (by decide) (by decide)⟩
                  · show Steps p.tables e below (s₁.setTop (mkF m 60 #[.val (.int (Int32.ofNat kk))] [(.int (7 : Int32)), (.int (Int32.ofNat kk))])) _
                    refine XS.icmpNo X0.here hx rfl (hb hby own_d_method_4_code_60) rfl (teq hc16).2 ?_
                    show Steps p.tables e below (s₁.setTop (mkF m 63 #[.val (.int (Int32.ofNat kk))] [])) _
                    refine X0.ldcI hx hown (mvT hZ (hw _ (List.mem_of_getElem? (i := 221) rfl))) rfl (hb hby own_d_method_4_code_63) ?_
                    show Steps p.tables e below (s₁.setTop (mkF m 65 #[.val (.int (Int32.ofNat kk))] [(.int (10000000 : Int32))])) _
                    exact retI X0 hx Bd.returns (hb hby own_d_method_4_code_65) hr
                  · show Q_own_pow Z kk h0 n0 _ s₁.heap _
                    rw [e0]
                    exact ⟨(by rw [hkv]; rfl), N0, rfl⟩
                · have r17 : GoTo p.tables e below s₁ (own_F_own_pow m kk) s₁ (mkF m 69 #[.val (.int (Int32.ofNat kk))] [(.int (8 : Int32)), (.int (Int32.ofNat kk))]) := fun tt_ kk_ => r15 tt_ (by
                      show Steps p.tables e below (s₁.setTop (mkF m 60 #[.val (.int (Int32.ofNat kk))] [(.int (7 : Int32)), (.int (Int32.ofNat kk))])) _
                      refine XS.icmpYes X0.here hx rfl (pc0 := 60) (pc' := 66) rfl (hb hby own_d_method_4_code_60) rfl (feq hc16).2 (by decide) (by decide) ?_
                      show Steps p.tables e below (s₁.setTop (mkF m 66 #[.val (.int (Int32.ofNat kk))] [])) _
                      refine XS.iloadN X0.here hx rfl (hb hby own_d_method_4_code_66) rfl ?_
                      show Steps p.tables e below (s₁.setTop (mkF m 67 #[.val (.int (Int32.ofNat kk))] [(.int (Int32.ofNat kk))])) _
                      refine XS.bipush X0.here hx rfl (hb hby own_d_method_4_code_67) ?_
                      show Steps p.tables e below (s₁.setTop (mkF m 69 #[.val (.int (Int32.ofNat kk))] [(.int (8 : Int32)), (.int (Int32.ofNat kk))])) _
                      exact kk_)
                  by_cases hc18 : (Int32.ofNat kk) = (8 : Int32)
                  · have hkv : kk = 8 := (own_eqN (by omega) (by decide)).mp hc18
                    obtain ⟨fs, hr, hrun, hended, hW, hsame⟩ := X0.leave (v := some (.int (100000000 : Int32))) (fun h => by rw [Bd.returns] at h; cases h)
                    refine ⟨_, _, r17 _ ?_, hrun, hended, _, _, rfl, ?_, ⟨_, rfl⟩, hW, hsame.mono (by decide) (by decide)⟩
                    · show Steps p.tables e below (s₁.setTop (mkF m 69 #[.val (.int (Int32.ofNat kk))] [(.int (8 : Int32)), (.int (Int32.ofNat kk))])) _
                      refine XS.icmpNo X0.here hx rfl (hb hby own_d_method_4_code_69) rfl (teq hc18).2 ?_
                      show Steps p.tables e below (s₁.setTop (mkF m 72 #[.val (.int (Int32.ofNat kk))] [])) _
                      refine X0.ldcI hx hown (mvT hZ (hw _ (List.mem_of_getElem? (i := 222) rfl))) rfl (hb hby own_d_method_4_code_72) ?_
                      show Steps p.tables e below (s₁.setTop (mkF m 74 #[.val (.int (Int32.ofNat kk))] [(.int (100000000 : Int32))])) _
                      exact retI X0 hx Bd.returns (hb hby own_d_method_4_code_74) hr
                    · show Q_own_pow Z kk h0 n0 _ s₁.heap _
                      rw [e0]
                      exact ⟨(by rw [hkv]; rfl), N0, rfl⟩
                  · have hz0 : ¬ kk = 0 := fun q => hc2 ((own_eqN (b := 0) (by omega) (by decide)).mpr q)
                    have hz1 : ¬ kk = 1 := fun q => hc4 ((own_eqN (b := 1) (by omega) (by decide)).mpr q)
                    have hz2 : ¬ kk = 2 := fun q => hc6 ((own_eqN (b := 2) (by omega) (by decide)).mpr q)
                    have hz3 : ¬ kk = 3 := fun q => hc8 ((own_eqN (b := 3) (by omega) (by decide)).mpr q)
                    have hz4 : ¬ kk = 4 := fun q => hc10 ((own_eqN (b := 4) (by omega) (by decide)).mpr q)
                    have hz5 : ¬ kk = 5 := fun q => hc12 ((own_eqN (b := 5) (by omega) (by decide)).mpr q)
                    have hz6 : ¬ kk = 6 := fun q => hc14 ((own_eqN (b := 6) (by omega) (by decide)).mpr q)
                    have hz7 : ¬ kk = 7 := fun q => hc16 ((own_eqN (b := 7) (by omega) (by decide)).mpr q)
                    have hz8 : ¬ kk = 8 := fun q => hc18 ((own_eqN (b := 8) (by omega) (by decide)).mpr q)
                    have hkv : kk = 9 := by omega
                    obtain ⟨fs, hr, hrun, hended, hW, hsame⟩ := X0.leave (v := some (.int (1000000000 : Int32))) (fun h => by rw [Bd.returns] at h; cases h)
                    refine ⟨_, _, r17 _ ?_, hrun, hended, _, _, rfl, ?_, ⟨_, rfl⟩, hW, hsame.mono (by decide) (by decide)⟩
                    · show Steps p.tables e below (s₁.setTop (mkF m 69 #[.val (.int (Int32.ofNat kk))] [(.int (8 : Int32)), (.int (Int32.ofNat kk))])) _
                      refine XS.icmpYes X0.here hx rfl (pc0 := 69) (pc' := 75) rfl (hb hby own_d_method_4_code_69) rfl (feq hc18).2 (by decide) (by decide) ?_
                      show Steps p.tables e below (s₁.setTop (mkF m 75 #[.val (.int (Int32.ofNat kk))] [])) _
                      refine X0.ldcI hx hown (mvT hZ (hw _ (List.mem_of_getElem? (i := 223) rfl))) rfl (hb hby own_d_method_4_code_75) ?_
                      show Steps p.tables e below (s₁.setTop (mkF m 77 #[.val (.int (Int32.ofNat kk))] [(.int (1000000000 : Int32))])) _
                      exact retI X0 hx Bd.returns (hb hby own_d_method_4_code_77) hr
                    · show Q_own_pow Z kk h0 n0 _ s₁.heap _
                      rw [e0]
                      exact ⟨(by rw [hkv]; rfl), N0, rfl⟩
theorem own_pn_own_digit : plainName "com/example/myna/myna/limits/RateLimitToStringPinLaw" = true := by first | (simp [plainName, overriddenIn]; done) | decide +kernel
theorem own_ef_own_digit (m : MethodId) (y : Addr) (off : Nat) (vv : Int32) (nn : Nat) (kk : Nat) : entryFrame m #[(.ref y), (.int (Int32.ofNat off)), (.int vv), (.int (Int32.ofNat (Jvm.Free.SBG.digits nn))), (.int (Int32.ofNat kk))] 6 = mkF m 0 #[.val (.ref y), .val (.int (Int32.ofNat off)), .val (.int vv), .val (.int (Int32.ofNat (Jvm.Free.SBG.digits nn))), .val (.int (Int32.ofNat kk)), .unset] [] := by first | (simp [entryFrame, mkF, argsToLocals, own_cI, own_cJ, own_cR, own_cN]; done) | rfl
abbrev own_F_own_digit (m : MethodId) (y : Addr) (off : Nat) (vv : Int32) (nn : Nat) (kk : Nat) : JFrame := entryFrame m #[(.ref y), (.int (Int32.ofNat off)), (.int vv), (.int (Int32.ofNat (Jvm.Free.SBG.digits nn))), (.int (Int32.ofNat kk))] 6
def Q_own_digit (Z : State) (y : Addr) (ty : Addr) (ky : ClassId) (ds : List Int32) (off : Nat) (vv : Int32) (nn : Nat) (kk : Nat) (gCS : Int32) (gFM : Value) (h0 : Heap) (n0 : Nat) (v : Option Value) (h : Heap) (L : List Loc) : Prop := v = some (.int (1 : Int32)) ∧ Fr n0 L ∧ h = h0
set_option maxRecDepth 65536 in
set_option maxHeartbeats 40000000 in
theorem own_digit (l : Launch) (Z : State) (a0 : Array Value) (hw : ∀ d ∈ tables_1, d.before a0 Z = true) (ws : List Jvm.Cond) (y : Addr) (ty : Addr) (ky : ClassId) (ds : List Int32) (off : Nat) (vv : Int32) (nn : Nat) (kk : Nat) (gCS : Int32) (gFM : Value) (h0 : Heap) (n0 : Nat) (O0 : Old Z n0 h0) (hp0 : own_Str Z h0 y ty ky ds) (hvn : vv.toInt = nn) (hfit : off + (Jvm.Free.SBG.digits nn) ≤ ds.length) (hat : ∀ t, t < (Jvm.Free.SBG.digits nn) → ds.getD (off + t) 0 = (own_dec nn).getD t 0) (hp4 : Sta Z Z.heap "java/lang/String" "COMPACT_STRINGS" "Z" (.int gCS)) (hG1 : ¬ gCS = (0 : Int32)) (hp6 : Sta Z Z.heap "jdk/internal/util/Preconditions" "SIOOBE_FORMATTER" "Ljava/util/function/BiFunction;" gFM) (hG3 : gFM.isRef = true) (hkk : kk ≤ 9) :
    MetFree l (⟨"com/example/myna/myna/limits/RateLimitToStringPinLaw", "digit", "(Ljava/lang/String;IIII)Z"⟩ : MethodName) (head1 (Jvm.Cond.code (⟨"com/example/myna/myna/limits/RateLimitToStringPinLaw", "digit", "(Ljava/lang/String;IIII)Z"⟩ : MethodName) method_6_code 6 (some .boolean) :: ws) ({ frames := 4, cells := 0, slots := 0, locals := 53 } : Room)) (fun aa_ U_ => aa_ = #[(.ref y), (.int (Int32.ofNat off)), (.int vv), (.int (Int32.ofNat (Jvm.Free.SBG.digits nn))), (.int (Int32.ofNat kk))] ∧ Z.Warmed39 U_.vm ∧ U_.heap = h0) (fun _ _ _ _ _ => True) (fun _ U_ o_ V_ => ∃ v_ L_, o_ = .returned v_ ∧ Q_own_digit Z y ty ky ds off vv nn kk gCS gFM h0 n0 v_ V_.heap L_ ∧ FrameEnd U_ o_ V_ L_ ({ frames := 4, cells := 0, slots := 0, locals := 53 } : Room).cells ({ frames := 4, cells := 0, slots := 0, locals := 53 } : Room).slots) := by
  refine MetFree.of_bodySF (plainFor_of_name own_pn_own_digit) hisR ?_
  intro p e s m args below meth c s₁ Bd hml0 hP hK
  obtain ⟨rfl, hZ, hh⟩ := hP
  have hx := Bd.exec
  have hby := Bd.bytes
  have hml : c.maxLocals = 6 := hml0
  have hown : s.vm.findClass "com/example/myna/myna/limits/RateLimitToStringPinLaw" = some m.cls := findClass_of_methodNamed Bd.named
  have hnm := (name_of_methodNamed Bd.named Bd.method).1
  have X0 : Stand p l e ({ frames := 4, cells := 0, slots := 0, locals := 53 } : Room) s m #[(.ref y), (.int (Int32.ofNat off)), (.int vv), (.int (Int32.ofNat (Jvm.Free.SBG.digits nn))), (.int (Int32.ofNat kk))] below meth c s₁ [] 0 0 := Stand.of_body Bd
  have e0 : s₁.heap = h0 := by rw [← hh, Bd.state]; rfl
  have N0 := Fr.nil n0
  have K0 : Keep h0 h0 [] := Keep.refl _ _
  have r0 : GoTo p.tables e below s₁ (own_F_own_digit m y off vv nn kk) s₁ (mkF m 0 #[.val (.ref y), .val (.int (Int32.ofNat off)), .val (.int vv), .val (.int (Int32.ofNat (Jvm.Free.SBG.digits nn))), .val (.int (Int32.ofNat kk)), .unset] []) := fun tt_ kk_ => castTop (own_ef_own_digit m y off vv nn kk) kk_
  have hdg := Jvm.Free.SBG.digits_pos nn
  have hn31 := own_lt31 hvn
  have hdl := hp0.2.2.2.2.2
  have r1 : GoTo p.tables e below s₁ (own_F_own_digit m y off vv nn kk) s₁ (mkF m 3 #[.val (.ref y), .val (.int (Int32.ofNat off)), .val (.int vv), .val (.int (Int32.ofNat (Jvm.Free.SBG.digits nn))), .val (.int (Int32.ofNat kk)), .unset] [(.int (Int32.ofNat (Jvm.Free.SBG.digits nn))), (.int (Int32.ofNat kk))]) := fun tt_ kk_ => r0 tt_ (by
      show Steps p.tables e below (s₁.setTop (mkF m 0 #[.val (.ref y), .val (.int (Int32.ofNat off)), .val (.int vv), .val (.int (Int32.ofNat (Jvm.Free.SBG.digits nn))), .val (.int (Int32.ofNat kk)), .unset] [])) _
      refine XS.iload X0.here hx rfl (hb hby own_d_method_6_code_0) rfl ?_
      show Steps p.tables e below (s₁.setTop (mkF m 2 #[.val (.ref y), .val (.int (Int32.ofNat off)), .val (.int vv), .val (.int (Int32.ofNat (Jvm.Free.SBG.digits nn))), .val (.int (Int32.ofNat kk)), .unset] [(.int (Int32.ofNat kk))])) _
      refine XS.iloadN X0.here hx rfl (hb hby own_d_method_6_code_2) rfl ?_
      show Steps p.tables e below (s₁.setTop (mkF m 3 #[.val (.ref y), .val (.int (Int32.ofNat off)), .val (.int vv), .val (.int (Int32.ofNat (Jvm.Free.SBG.digits nn))), .val (.int (Int32.ofNat kk)), .unset] [(.int (Int32.ofNat (Jvm.Free.SBG.digits nn))), (.int (Int32.ofNat kk))])) _
      exact kk_)
  by_cases hkd : kk < (Jvm.Free.SBG.digits nn)
  · have r2 : GoTo p.tables e below s₁ (own_F_own_digit m y off vv nn kk) s₁ (mkF m 12 #[.val (.ref y), .val (.int (Int32.ofNat off)), .val (.int vv), .val (.int (Int32.ofNat (Jvm.Free.SBG.digits nn))), .val (.int (Int32.ofNat kk)), .unset] [(.int ((Int32.ofNat (Jvm.Free.SBG.digits nn)) - (1 : Int32))), (.int vv)]) := fun tt_ kk_ => r1 tt_ (by
        show Steps p.tables e below (s₁.setTop (mkF m 3 #[.val (.ref y), .val (.int (Int32.ofNat off)), .val (.int vv), .val (.int (Int32.ofNat (Jvm.Free.SBG.digits nn))), .val (.int (Int32.ofNat kk)), .unset] [(.int (Int32.ofNat (Jvm.Free.SBG.digits nn))), (.int (Int32.ofNat kk))])) _
        refine XS.icmpYes X0.here hx rfl (pc0 := 3) (pc' := 8) rfl (hb hby own_d_method_6_code_3) rfl (tlt ((own_ltN (by omega) (by omega)).mpr hkd)).1 (by decide) (by decide) ?_
        show Steps p.tables e below (s₁.setTop (mkF m 8 #[.val (.ref y), .val (.int (Int32.ofNat off)), .val (.int vv), .val (.int (Int32.ofNat (Jvm.Free.SBG.digits nn))), .val (.int (Int32.ofNat kk)), .unset] [])) _
        refine XS.iloadN X0.here hx rfl (hb hby own_d_method_6_code_8) rfl ?_
        show Steps p.tables e below (s₁.setTop (mkF m 9 #[.val (.ref y), .val (.int (Int32.ofNat off)), .val (.int vv), .val (.int (Int32.ofNat (Jvm.Free.SBG.digits nn))), .val (.int (Int32.ofNat kk)), .unset] [(.int vv)])) _
        refine XS.iloadN X0.here hx rfl (hb hby own_d_method_6_code_9) rfl ?_
        show Steps p.tables e below (s₁.setTop (mkF m 10 #[.val (.ref y), .val (.int (Int32.ofNat off)), .val (.int vv), .val (.int (Int32.ofNat (Jvm.Free.SBG.digits nn))), .val (.int (Int32.ofNat kk)), .unset] [(.int (Int32.ofNat (Jvm.Free.SBG.digits nn))), (.int vv)])) _
        refine XS.iconst X0.here hx rfl (hb hby own_d_method_6_code_10) ?_
        show Steps p.tables e below (s₁.setTop (mkF m 11 #[.val (.ref y), .val (.int (Int32.ofNat off)), .val (.int vv), .val (.int (Int32.ofNat (Jvm.Free.SBG.digits nn))), .val (.int (Int32.ofNat kk)), .unset] [(.int (1 : Int32)), (.int (Int32.ofNat (Jvm.Free.SBG.digits nn))), (.int vv)])) _
        refine XS.isub X0.here hx rfl (hb hby own_d_method_6_code_11) rfl ?_
        show Steps p.tables e below (s₁.setTop (mkF m 12 #[.val (.ref y), .val (.int (Int32.ofNat off)), .val (.int vv), .val (.int (Int32.ofNat (Jvm.Free.SBG.digits nn))), .val (.int (Int32.ofNat kk)), .unset] [(.int ((Int32.ofNat (Jvm.Free.SBG.digits nn)) - (1 : Int32))), (.int vv)])) _
        exact kk_)
    have r3 : GoTo p.tables e below s₁ (own_F_own_digit m y off vv nn kk) s₁ (mkF m 12 #[.val (.ref y), .val (.int (Int32.ofNat off)), .val (.int vv), .val (.int (Int32.ofNat (Jvm.Free.SBG.digits nn))), .val (.int (Int32.ofNat kk)), .unset] [(.int (Int32.ofNat ((Jvm.Free.SBG.digits nn) - 1))), (.int vv)]) := Eq.mp (congrArg (fun zz_ => GoTo p.tables e below s₁ (own_F_own_digit m y off vv nn kk) s₁ (mkF m 12 #[.val (.ref y), .val (.int (Int32.ofNat off)), .val (.int vv), .val (.int (Int32.ofNat (Jvm.Free.SBG.digits nn))), .val (.int (Int32.ofNat kk)), .unset] [(.int zz_), (.int vv)])) (show ((Int32.ofNat (Jvm.Free.SBG.digits nn)) - (1 : Int32)) = (Int32.ofNat ((Jvm.Free.SBG.digits nn) - 1)) from (own_subN (b := 1) (by omega)))) r2
    have r4 : GoTo p.tables e below s₁ (own_F_own_digit m y off vv nn kk) s₁ (mkF m 15 #[.val (.ref y), .val (.int (Int32.ofNat off)), .val (.int vv), .val (.int (Int32.ofNat (Jvm.Free.SBG.digits nn))), .val (.int (Int32.ofNat kk)), .unset] [(.int ((Int32.ofNat ((Jvm.Free.SBG.digits nn) - 1)) - (Int32.ofNat kk))), (.int vv)]) := fun tt_ kk_ => r3 tt_ (by
        show Steps p.tables e below (s₁.setTop (mkF m 12 #[.val (.ref y), .val (.int (Int32.ofNat off)), .val (.int vv), .val (.int (Int32.ofNat (Jvm.Free.SBG.digits nn))), .val (.int (Int32.ofNat kk)), .unset] [(.int (Int32.ofNat ((Jvm.Free.SBG.digits nn) - 1))), (.int vv)])) _
        refine XS.iload X0.here hx rfl (hb hby own_d_method_6_code_12) rfl ?_
        show Steps p.tables e below (s₁.setTop (mkF m 14 #[.val (.ref y), .val (.int (Int32.ofNat off)), .val (.int vv), .val (.int (Int32.ofNat (Jvm.Free.SBG.digits nn))), .val (.int (Int32.ofNat kk)), .unset] [(.int (Int32.ofNat kk)), (.int (Int32.ofNat ((Jvm.Free.SBG.digits nn) - 1))), (.int vv)])) _
        refine XS.isub X0.here hx rfl (hb hby own_d_method_6_code_14) rfl ?_
        show Steps p.tables e below (s₁.setTop (mkF m 15 #[.val (.ref y), .val (.int (Int32.ofNat off)), .val (.int vv), .val (.int (Int32.ofNat (Jvm.Free.SBG.digits nn))), .val (.int (Int32.ofNat kk)), .unset] [(.int ((Int32.ofNat ((Jvm.Free.SBG.digits nn) - 1)) - (Int32.ofNat kk))), (.int vv)])) _
        exact kk_)
    have r5 : GoTo p.tables e below s₁ (own_F_own_digit m y off vv nn kk) s₁ (mkF m 15 #[.val (.ref y), .val (.int (Int32.ofNat off)), .val (.int vv), .val (.int (Int32.ofNat (Jvm.Free.SBG.digits nn))), .val (.int (Int32.ofNat kk)), .unset] [(.int (Int32.ofNat ((Jvm.Free.SBG.digits nn) - 1 - kk))), (.int vv)]) := Eq.mp (congrArg (fun zz_ => GoTo p.tables e below s₁ (own_F_own_digit m y off vv nn kk) s₁ (mkF m 15 #[.val (.ref y), .val (.int (Int32.ofNat off)), .val (.int vv), .val (.int (Int32.ofNat (Jvm.Free.SBG.digits nn))), .val (.int (Int32.ofNat kk)), .unset] [(.int zz_), (.int vv)])) (show ((Int32.ofNat ((Jvm.Free.SBG.digits nn) - 1)) - (Int32.ofNat kk)) = (Int32.ofNat ((Jvm.Free.SBG.digits nn) - 1 - kk)) from (own_subN (by omega)))) r4
    obtain ⟨_, _, ⟨T6, L6, k6, n6⟩, -, X6, ⟨Lc6, hQ6, l6, y6, z6⟩, st6⟩ := Jvm.LawKit.callS X0 hx (y := (⟨"com/example/myna/myna/limits/RateLimitToStringPinLaw", "pow10", "(I)I"⟩ : MethodName)) hown (mvT hZ (hw _ (List.mem_of_getElem? (i := 198) rfl))) (mvT hZ (hw _ (List.mem_of_getElem? (i := 199) rfl))) (mvT hZ (hw _ (List.mem_of_getElem? (i := 167) rfl))) (mvT hZ (hw _ (List.mem_of_getElem? (i := 200) rfl))) (by decide) (backOf (W := 1) (own_pow l Z a0 hw [] (((Jvm.Free.SBG.digits nn) - 1 - kk)) h0 n0 (O0.keep K0 all0) (by omega)) hZ (hw _ (List.mem_of_getElem? (i := 200) rfl)) (hw _ (List.mem_of_getElem? (i := 167) rfl)) (by decide) (by decide)) (g := (mkF m 15 #[.val (.ref y), .val (.int (Int32.ofNat off)), .val (.int vv), .val (.int (Int32.ofNat (Jvm.Free.SBG.digits nn))), .val (.int (Int32.ofNat kk)), .unset] [(.int (Int32.ofNat ((Jvm.Free.SBG.digits nn) - 1 - kk))), (.int vv)])) rfl (by rw [hml]; rfl) (argsL := [(.int (Int32.ofNat ((Jvm.Free.SBG.digits nn) - 1 - kk)))]) (rest := [(.int vv)]) (lenOf own_pd3 rfl) rfl (by show 2 * 0 + _ ≤ _; exact Nat.le_of_eq rfl) (hb hby own_d_method_6_code_15) (fun _ _ => ⟨rfl, e0, (by decide : 0 + 0 ≤ _), (by decide : 0 + 0 ≤ _)⟩)
    dsimp only [Pt.U, Pt.locs, Pt.cells, Pt.slots] at X6 l6 y6 z6 st6 hQ6
    subst l6 y6 z6
    obtain ⟨rfl, Nq6, hh6⟩ := hQ6
    have N6 := Fr.app N0 Nq6
    have hp10 := own_p10 (e := ((Jvm.Free.SBG.digits nn) - 1 - kk)) (by omega)
    have r7 : GoTo p.tables e below s₁ (own_F_own_digit m y off vv nn kk) T6 (mkF m 19 #[.val (.ref y), .val (.int (Int32.ofNat off)), .val (.int vv), .val (.int (Int32.ofNat (Jvm.Free.SBG.digits nn))), .val (.int (Int32.ofNat kk)), .unset] [(.int (vv / (Int32.ofNat (10 ^ ((Jvm.Free.SBG.digits nn) - 1 - kk)))))]) := fun tt_ kk_ => r5 tt_ (by
        show Steps p.tables e below (s₁.setTop (mkF m 15 #[.val (.ref y), .val (.int (Int32.ofNat off)), .val (.int vv), .val (.int (Int32.ofNat (Jvm.Free.SBG.digits nn))), .val (.int (Int32.ofNat kk)), .unset] [(.int (Int32.ofNat ((Jvm.Free.SBG.digits nn) - 1 - kk))), (.int vv)])) _
        refine st6 _ ?_
        show Steps p.tables e below (T6.setTop (mkF m 18 #[.val (.ref y), .val (.int (Int32.ofNat off)), .val (.int vv), .val (.int (Int32.ofNat (Jvm.Free.SBG.digits nn))), .val (.int (Int32.ofNat kk)), .unset] [(.int (Int32.ofNat (10 ^ ((Jvm.Free.SBG.digits nn) - 1 - kk)))), (.int vv)])) _
        refine XS.idiv X6.here hx rfl (hb hby own_d_method_6_code_18) rfl (own_p10nz (by omega)) ?_
        show Steps p.tables e below (T6.setTop (mkF m 19 #[.val (.ref y), .val (.int (Int32.ofNat off)), .val (.int vv), .val (.int (Int32.ofNat (Jvm.Free.SBG.digits nn))), .val (.int (Int32.ofNat kk)), .unset] [(.int (vv / (Int32.ofNat (10 ^ ((Jvm.Free.SBG.digits nn) - 1 - kk)))))])) _
        exact kk_)
    have r8 : GoTo p.tables e below s₁ (own_F_own_digit m y off vv nn kk) T6 (mkF m 19 #[.val (.ref y), .val (.int (Int32.ofNat off)), .val (.int vv), .val (.int (Int32.ofNat (Jvm.Free.SBG.digits nn))), .val (.int (Int32.ofNat kk)), .unset] [(.int (Int32.ofNat (nn / 10 ^ ((Jvm.Free.SBG.digits nn) - 1 - kk))))]) := Eq.mp (congrArg (fun zz_ => GoTo p.tables e below s₁ (own_F_own_digit m y off vv nn kk) T6 (mkF m 19 #[.val (.ref y), .val (.int (Int32.ofNat off)), .val (.int vv), .val (.int (Int32.ofNat (Jvm.Free.SBG.digits nn))), .val (.int (Int32.ofNat kk)), .unset] [(.int zz_)])) (show (vv / (Int32.ofNat (10 ^ ((Jvm.Free.SBG.digits nn) - 1 - kk)))) = (Int32.ofNat (nn / 10 ^ ((Jvm.Free.SBG.digits nn) - 1 - kk))) from (own_divN hvn (by omega) (own_p10pos _)))) r7
    have hdv : nn / 10 ^ ((Jvm.Free.SBG.digits nn) - 1 - kk) ≤ nn := Nat.div_le_self _ _
    have r9 : GoTo p.tables e below s₁ (own_F_own_digit m y off vv nn kk) T6 (mkF m 22 #[.val (.ref y), .val (.int (Int32.ofNat off)), .val (.int vv), .val (.int (Int32.ofNat (Jvm.Free.SBG.digits nn))), .val (.int (Int32.ofNat kk)), .unset] [(.int ((Int32.ofNat (nn / 10 ^ ((Jvm.Free.SBG.digits nn) - 1 - kk))) % (10 : Int32)))]) := fun tt_ kk_ => r8 tt_ (by
        show Steps p.tables e below (T6.setTop (mkF m 19 #[.val (.ref y), .val (.int (Int32.ofNat off)), .val (.int vv), .val (.int (Int32.ofNat (Jvm.Free.SBG.digits nn))), .val (.int (Int32.ofNat kk)), .unset] [(.int (Int32.ofNat (nn / 10 ^ ((Jvm.Free.SBG.digits nn) - 1 - kk))))])) _
        refine XS.bipush X6.here hx rfl (hb hby own_d_method_6_code_19) ?_
        show Steps p.tables e below (T6.setTop (mkF m 21 #[.val (.ref y), .val (.int (Int32.ofNat off)), .val (.int vv), .val (.int (Int32.ofNat (Jvm.Free.SBG.digits nn))), .val (.int (Int32.ofNat kk)), .unset] [(.int (10 : Int32)), (.int (Int32.ofNat (nn / 10 ^ ((Jvm.Free.SBG.digits nn) - 1 - kk))))])) _
        refine iremM X6 hx rfl (hb hby own_d_method_6_code_21) rfl (by decide) ?_
        show Steps p.tables e below (T6.setTop (mkF m 22 #[.val (.ref y), .val (.int (Int32.ofNat off)), .val (.int vv), .val (.int (Int32.ofNat (Jvm.Free.SBG.digits nn))), .val (.int (Int32.ofNat kk)), .unset] [(.int ((Int32.ofNat (nn / 10 ^ ((Jvm.Free.SBG.digits nn) - 1 - kk))) % (10 : Int32)))])) _
        exact kk_)
    have r10 : GoTo p.tables e below s₁ (own_F_own_digit m y off vv nn kk) T6 (mkF m 22 #[.val (.ref y), .val (.int (Int32.ofNat off)), .val (.int vv), .val (.int (Int32.ofNat (Jvm.Free.SBG.digits nn))), .val (.int (Int32.ofNat kk)), .unset] [(.int (Int32.ofNat (nn / 10 ^ ((Jvm.Free.SBG.digits nn) - 1 - kk) % 10)))]) := Eq.mp (congrArg (fun zz_ => GoTo p.tables e below s₁ (own_F_own_digit m y off vv nn kk) T6 (mkF m 22 #[.val (.ref y), .val (.int (Int32.ofNat off)), .val (.int vv), .val (.int (Int32.ofNat (Jvm.Free.SBG.digits nn))), .val (.int (Int32.ofNat kk)), .unset] [(.int zz_)])) (show ((Int32.ofNat (nn / 10 ^ ((Jvm.Free.SBG.digits nn) - 1 - kk))) % (10 : Int32)) = (Int32.ofNat (nn / 10 ^ ((Jvm.Free.SBG.digits nn) - 1 - kk) % 10)) from (own_modN (k := 10) (by omega) (by decide)))) r9
    have r11 : GoTo p.tables e below s₁ (own_F_own_digit m y off vv nn kk) T6 (mkF m 29 #[.val (.ref y), .val (.int (Int32.ofNat off)), .val (.int vv), .val (.int (Int32.ofNat (Jvm.Free.SBG.digits nn))), .val (.int (Int32.ofNat kk)), .val (.int (Int32.ofNat (nn / 10 ^ ((Jvm.Free.SBG.digits nn) - 1 - kk) % 10)))] [(.int ((Int32.ofNat off) + (Int32.ofNat kk))), (.ref y)]) := fun tt_ kk_ => r10 tt_ (by
        show Steps p.tables e below (T6.setTop (mkF m 22 #[.val (.ref y), .val (.int (Int32.ofNat off)), .val (.int vv), .val (.int (Int32.ofNat (Jvm.Free.SBG.digits nn))), .val (.int (Int32.ofNat kk)), .unset] [(.int (Int32.ofNat (nn / 10 ^ ((Jvm.Free.SBG.digits nn) - 1 - kk) % 10)))])) _
        refine XS.istore X6.here hx rfl (hb hby own_d_method_6_code_22) rfl (l' := #[.val (.ref y), .val (.int (Int32.ofNat off)), .val (.int vv), .val (.int (Int32.ofNat (Jvm.Free.SBG.digits nn))), .val (.int (Int32.ofNat kk)), .val (.int (Int32.ofNat (nn / 10 ^ ((Jvm.Free.SBG.digits nn) - 1 - kk) % 10)))]) rfl ?_
        show Steps p.tables e below (T6.setTop (mkF m 24 #[.val (.ref y), .val (.int (Int32.ofNat off)), .val (.int vv), .val (.int (Int32.ofNat (Jvm.Free.SBG.digits nn))), .val (.int (Int32.ofNat kk)), .val (.int (Int32.ofNat (nn / 10 ^ ((Jvm.Free.SBG.digits nn) - 1 - kk) % 10)))] [])) _
        refine XS.aloadN X6.here hx rfl (hb hby own_d_method_6_code_24) rfl rfl ?_
        show Steps p.tables e below (T6.setTop (mkF m 25 #[.val (.ref y), .val (.int (Int32.ofNat off)), .val (.int vv), .val (.int (Int32.ofNat (Jvm.Free.SBG.digits nn))), .val (.int (Int32.ofNat kk)), .val (.int (Int32.ofNat (nn / 10 ^ ((Jvm.Free.SBG.digits nn) - 1 - kk) % 10)))] [(.ref y)])) _
        refine XS.iloadN X6.here hx rfl (hb hby own_d_method_6_code_25) rfl ?_
        show Steps p.tables e below (T6.setTop (mkF m 26 #[.val (.ref y), .val (.int (Int32.ofNat off)), .val (.int vv), .val (.int (Int32.ofNat (Jvm.Free.SBG.digits nn))), .val (.int (Int32.ofNat kk)), .val (.int (Int32.ofNat (nn / 10 ^ ((Jvm.Free.SBG.digits nn) - 1 - kk) % 10)))] [(.int (Int32.ofNat off)), (.ref y)])) _
        refine XS.iload X6.here hx rfl (hb hby own_d_method_6_code_26) rfl ?_
        show Steps p.tables e below (T6.setTop (mkF m 28 #[.val (.ref y), .val (.int (Int32.ofNat off)), .val (.int vv), .val (.int (Int32.ofNat (Jvm.Free.SBG.digits nn))), .val (.int (Int32.ofNat kk)), .val (.int (Int32.ofNat (nn / 10 ^ ((Jvm.Free.SBG.digits nn) - 1 - kk) % 10)))] [(.int (Int32.ofNat kk)), (.int (Int32.ofNat off)), (.ref y)])) _
        refine XS.iadd X6.here hx rfl (hb hby own_d_method_6_code_28) rfl ?_
        show Steps p.tables e below (T6.setTop (mkF m 29 #[.val (.ref y), .val (.int (Int32.ofNat off)), .val (.int vv), .val (.int (Int32.ofNat (Jvm.Free.SBG.digits nn))), .val (.int (Int32.ofNat kk)), .val (.int (Int32.ofNat (nn / 10 ^ ((Jvm.Free.SBG.digits nn) - 1 - kk) % 10)))] [(.int ((Int32.ofNat off) + (Int32.ofNat kk))), (.ref y)])) _
        exact kk_)
    have r12 : GoTo p.tables e below s₁ (own_F_own_digit m y off vv nn kk) T6 (mkF m 29 #[.val (.ref y), .val (.int (Int32.ofNat off)), .val (.int vv), .val (.int (Int32.ofNat (Jvm.Free.SBG.digits nn))), .val (.int (Int32.ofNat kk)), .val (.int (Int32.ofNat (nn / 10 ^ ((Jvm.Free.SBG.digits nn) - 1 - kk) % 10)))] [(.int (Int32.ofNat (off + kk))), (.ref y)]) := Eq.mp (congrArg (fun zz_ => GoTo p.tables e below s₁ (own_F_own_digit m y off vv nn kk) T6 (mkF m 29 #[.val (.ref y), .val (.int (Int32.ofNat off)), .val (.int vv), .val (.int (Int32.ofNat (Jvm.Free.SBG.digits nn))), .val (.int (Int32.ofNat kk)), .val (.int (Int32.ofNat (nn / 10 ^ ((Jvm.Free.SBG.digits nn) - 1 - kk) % 10)))] [(.int zz_), (.ref y)])) (show ((Int32.ofNat off) + (Int32.ofNat kk)) = (Int32.ofNat (off + kk)) from own_addN)) r11
    obtain ⟨cq13, kq13, qa13, qb13, qc13⟩ := isOf hZ hh6 hp0.1
    obtain ⟨_, _, ⟨T13, L13, k13, n13⟩, -, X13, ⟨Lc13, hQ13, l13, y13, z13⟩, st13⟩ := X6.virtualBack hx (y := (⟨"java/lang/String", "charAt", "(I)C"⟩ : MethodName)) (z := (⟨"java/lang/String", "charAt", "(I)C"⟩ : MethodName)) hown (mvT hZ (hw _ (List.mem_of_getElem? (i := 170) rfl))) (mvT hZ (hw _ (List.mem_of_getElem? (i := 171) rfl))) (notFace_of_selects (args := #[]) (mvT hZ (hw _ (List.mem_of_getElem? (i := 173) rfl)))) (mvT hZ (hw _ (List.mem_of_getElem? (i := 173) rfl))) (mvT hZ (hw _ (List.mem_of_getElem? (i := 172) rfl))) (by decide) (backOf (W := 0) (own_chAt l Z a0 hw [] (y) (ty) (ky) (ds) ((off + kk)) (gCS) (gFM) h0 n0 (O0.keep K0 all0) (hp0) (by omega) (hp4) (hG1) (hp6) (hG3)) hZ (hw _ (List.mem_of_getElem? (i := 174) rfl)) (hw _ (List.mem_of_getElem? (i := 38) rfl)) (by decide) (by decide)) qa13 qc13 (g := (mkF m 29 #[.val (.ref y), .val (.int (Int32.ofNat off)), .val (.int vv), .val (.int (Int32.ofNat (Jvm.Free.SBG.digits nn))), .val (.int (Int32.ofNat kk)), .val (.int (Int32.ofNat (nn / 10 ^ ((Jvm.Free.SBG.digits nn) - 1 - kk) % 10)))] [(.int (Int32.ofNat (off + kk))), (.ref y)])) rfl (by rw [hml]; rfl) (Steps.refl _) (argsL := [(.int (Int32.ofNat (off + kk)))]) (rest := []) (lenOf own_pd21 rfl) rfl (by show 2 * 0 + _ ≤ _; exact Nat.le_of_eq rfl) (hb hby own_d_method_6_code_29) (fun _ _ => ⟨rfl, hh6, (by decide : 0 + 0 ≤ _), (by decide : 0 + 0 ≤ _)⟩)
    dsimp only [Pt.U, Pt.locs, Pt.cells, Pt.slots] at X13 l13 y13 z13 st13 hQ13
    subst l13 y13 z13
    obtain ⟨rfl, Nq13, hh13⟩ := hQ13
    have N13 := Fr.app N6 Nq13
    have r14 : GoTo p.tables e below s₁ (own_F_own_digit m y off vv nn kk) T13 (mkF m 32 #[.val (.ref y), .val (.int (Int32.ofNat off)), .val (.int vv), .val (.int (Int32.ofNat (Jvm.Free.SBG.digits nn))), .val (.int (Int32.ofNat kk)), .val (.int (Int32.ofNat (nn / 10 ^ ((Jvm.Free.SBG.digits nn) - 1 - kk) % 10)))] [(.int (ds.getD (off + kk) 0))]) := fun tt_ kk_ => r12 tt_ (by
        show Steps p.tables e below (T6.setTop (mkF m 29 #[.val (.ref y), .val (.int (Int32.ofNat off)), .val (.int vv), .val (.int (Int32.ofNat (Jvm.Free.SBG.digits nn))), .val (.int (Int32.ofNat kk)), .val (.int (Int32.ofNat (nn / 10 ^ ((Jvm.Free.SBG.digits nn) - 1 - kk) % 10)))] [(.int (Int32.ofNat (off + kk))), (.ref y)])) _
        refine st13.trans ?_
        show Steps p.tables e below (T13.setTop (mkF m 32 #[.val (.ref y), .val (.int (Int32.ofNat off)), .val (.int vv), .val (.int (Int32.ofNat (Jvm.Free.SBG.digits nn))), .val (.int (Int32.ofNat kk)), .val (.int (Int32.ofNat (nn / 10 ^ ((Jvm.Free.SBG.digits nn) - 1 - kk) % 10)))] [(.int (ds.getD (off + kk) 0))])) _
        exact kk_)
    have r15 : GoTo p.tables e below s₁ (own_F_own_digit m y off vv nn kk) T13 (mkF m 32 #[.val (.ref y), .val (.int (Int32.ofNat off)), .val (.int vv), .val (.int (Int32.ofNat (Jvm.Free.SBG.digits nn))), .val (.int (Int32.ofNat kk)), .val (.int (Int32.ofNat (nn / 10 ^ ((Jvm.Free.SBG.digits nn) - 1 - kk) % 10)))] [(.int (Int32.ofNat (48 + nn / 10 ^ ((Jvm.Free.SBG.digits nn) - 1 - kk) % 10)))]) := Eq.mp (congrArg (fun zz_ => GoTo p.tables e below s₁ (own_F_own_digit m y off vv nn kk) T13 (mkF m 32 #[.val (.ref y), .val (.int (Int32.ofNat off)), .val (.int vv), .val (.int (Int32.ofNat (Jvm.Free.SBG.digits nn))), .val (.int (Int32.ofNat kk)), .val (.int (Int32.ofNat (nn / 10 ^ ((Jvm.Free.SBG.digits nn) - 1 - kk) % 10)))] [(.int zz_)])) (show (ds.getD (off + kk) 0) = (Int32.ofNat (48 + nn / 10 ^ ((Jvm.Free.SBG.digits nn) - 1 - kk) % 10)) from ((hat kk hkd).trans (own_dec_at _ _ hkd)))) r14
    have r16 : GoTo p.tables e below s₁ (own_F_own_digit m y off vv nn kk) T13 (mkF m 38 #[.val (.ref y), .val (.int (Int32.ofNat off)), .val (.int vv), .val (.int (Int32.ofNat (Jvm.Free.SBG.digits nn))), .val (.int (Int32.ofNat kk)), .val (.int (Int32.ofNat (nn / 10 ^ ((Jvm.Free.SBG.digits nn) - 1 - kk) % 10)))] [(.int (((48 : Int32) + (Int32.ofNat (nn / 10 ^ ((Jvm.Free.SBG.digits nn) - 1 - kk) % 10))).toUInt32.toUInt16.toUInt32.toInt32)), (.int (Int32.ofNat (48 + nn / 10 ^ ((Jvm.Free.SBG.digits nn) - 1 - kk) % 10)))]) := fun tt_ kk_ => r15 tt_ (by
        show Steps p.tables e below (T13.setTop (mkF m 32 #[.val (.ref y), .val (.int (Int32.ofNat off)), .val (.int vv), .val (.int (Int32.ofNat (Jvm.Free.SBG.digits nn))), .val (.int (Int32.ofNat kk)), .val (.int (Int32.ofNat (nn / 10 ^ ((Jvm.Free.SBG.digits nn) - 1 - kk) % 10)))] [(.int (Int32.ofNat (48 + nn / 10 ^ ((Jvm.Free.SBG.digits nn) - 1 - kk) % 10)))])) _
        refine XS.bipush X13.here hx rfl (hb hby own_d_method_6_code_32) ?_
        show Steps p.tables e below (T13.setTop (mkF m 34 #[.val (.ref y), .val (.int (Int32.ofNat off)), .val (.int vv), .val (.int (Int32.ofNat (Jvm.Free.SBG.digits nn))), .val (.int (Int32.ofNat kk)), .val (.int (Int32.ofNat (nn / 10 ^ ((Jvm.Free.SBG.digits nn) - 1 - kk) % 10)))] [(.int (48 : Int32)), (.int (Int32.ofNat (48 + nn / 10 ^ ((Jvm.Free.SBG.digits nn) - 1 - kk) % 10)))])) _
        refine XS.iload X13.here hx rfl (hb hby own_d_method_6_code_34) rfl ?_
        show Steps p.tables e below (T13.setTop (mkF m 36 #[.val (.ref y), .val (.int (Int32.ofNat off)), .val (.int vv), .val (.int (Int32.ofNat (Jvm.Free.SBG.digits nn))), .val (.int (Int32.ofNat kk)), .val (.int (Int32.ofNat (nn / 10 ^ ((Jvm.Free.SBG.digits nn) - 1 - kk) % 10)))] [(.int (Int32.ofNat (nn / 10 ^ ((Jvm.Free.SBG.digits nn) - 1 - kk) % 10))), (.int (48 : Int32)), (.int (Int32.ofNat (48 + nn / 10 ^ ((Jvm.Free.SBG.digits nn) - 1 - kk) % 10)))])) _
        refine XS.iadd X13.here hx rfl (hb hby own_d_method_6_code_36) rfl ?_
        show Steps p.tables e below (T13.setTop (mkF m 37 #[.val (.ref y), .val (.int (Int32.ofNat off)), .val (.int vv), .val (.int (Int32.ofNat (Jvm.Free.SBG.digits nn))), .val (.int (Int32.ofNat kk)), .val (.int (Int32.ofNat (nn / 10 ^ ((Jvm.Free.SBG.digits nn) - 1 - kk) % 10)))] [(.int ((48 : Int32) + (Int32.ofNat (nn / 10 ^ ((Jvm.Free.SBG.digits nn) - 1 - kk) % 10)))), (.int (Int32.ofNat (48 + nn / 10 ^ ((Jvm.Free.SBG.digits nn) - 1 - kk) % 10)))])) _
        refine XS.i2c X13.here hx rfl (hb hby own_d_method_6_code_37) rfl ?_
        show Steps p.tables e below (T13.setTop (mkF m 38 #[.val (.ref y), .val (.int (Int32.ofNat off)), .val (.int vv), .val (.int (Int32.ofNat (Jvm.Free.SBG.digits nn))), .val (.int (Int32.ofNat kk)), .val (.int (Int32.ofNat (nn / 10 ^ ((Jvm.Free.SBG.digits nn) - 1 - kk) % 10)))] [(.int (((48 : Int32) + (Int32.ofNat (nn / 10 ^ ((Jvm.Free.SBG.digits nn) - 1 - kk) % 10))).toUInt32.toUInt16.toUInt32.toInt32)), (.int (Int32.ofNat (48 + nn / 10 ^ ((Jvm.Free.SBG.digits nn) - 1 - kk) % 10)))])) _
        exact kk_)
    have r17 : GoTo p.tables e below s₁ (own_F_own_digit m y off vv nn kk) T13 (mkF m 38 #[.val (.ref y), .val (.int (Int32.ofNat off)), .val (.int vv), .val (.int (Int32.ofNat (Jvm.Free.SBG.digits nn))), .val (.int (Int32.ofNat kk)), .val (.int (Int32.ofNat (nn / 10 ^ ((Jvm.Free.SBG.digits nn) - 1 - kk) % 10)))] [(.int (Int32.ofNat (48 + nn / 10 ^ ((Jvm.Free.SBG.digits nn) - 1 - kk) % 10))), (.int (Int32.ofNat (48 + nn / 10 ^ ((Jvm.Free.SBG.digits nn) - 1 - kk) % 10)))]) := Eq.mp (congrArg (fun zz_ => GoTo p.tables e below s₁ (own_F_own_digit m y off vv nn kk) T13 (mkF m 38 #[.val (.ref y), .val (.int (Int32.ofNat off)), .val (.int vv), .val (.int (Int32.ofNat (Jvm.Free.SBG.digits nn))), .val (.int (Int32.ofNat kk)), .val (.int (Int32.ofNat (nn / 10 ^ ((Jvm.Free.SBG.digits nn) - 1 - kk) % 10)))] [(.int zz_), (.int (Int32.ofNat (48 + nn / 10 ^ ((Jvm.Free.SBG.digits nn) - 1 - kk) % 10)))])) (show (((48 : Int32) + (Int32.ofNat (nn / 10 ^ ((Jvm.Free.SBG.digits nn) - 1 - kk) % 10))).toUInt32.toUInt16.toUInt32.toInt32) = (Int32.ofNat (48 + nn / 10 ^ ((Jvm.Free.SBG.digits nn) - 1 - kk) % 10)) from (own_dch _ (by omega)))) r16
    obtain ⟨fs, hr, hrun, hended, hW, hsame⟩ := X13.leave (v := some (.int (nar .boolean (1 : Int32)))) (fun h => by rw [Bd.returns] at h; cases h)
    refine ⟨_, _, r17 _ ?_, hrun, hended, _, _, rfl, ?_, ⟨_, rfl⟩, hW, hsame.mono (by decide) (by decide)⟩
    · show Steps p.tables e below (T13.setTop (mkF m 38 #[.val (.ref y), .val (.int (Int32.ofNat off)), .val (.int vv), .val (.int (Int32.ofNat (Jvm.Free.SBG.digits nn))), .val (.int (Int32.ofNat kk)), .val (.int (Int32.ofNat (nn / 10 ^ ((Jvm.Free.SBG.digits nn) - 1 - kk) % 10)))] [(.int (Int32.ofNat (48 + nn / 10 ^ ((Jvm.Free.SBG.digits nn) - 1 - kk) % 10))), (.int (Int32.ofNat (48 + nn / 10 ^ ((Jvm.Free.SBG.digits nn) - 1 - kk) % 10)))])) _
      refine XS.icmpNo X13.here hx rfl (hb hby own_d_method_6_code_38) rfl (teq rfl).2 ?_
      show Steps p.tables e below (T13.setTop (mkF m 41 #[.val (.ref y), .val (.int (Int32.ofNat off)), .val (.int vv), .val (.int (Int32.ofNat (Jvm.Free.SBG.digits nn))), .val (.int (Int32.ofNat kk)), .val (.int (Int32.ofNat (nn / 10 ^ ((Jvm.Free.SBG.digits nn) - 1 - kk) % 10)))] [])) _
      refine XS.iconst X13.here hx rfl (hb hby own_d_method_6_code_41) ?_
      show Steps p.tables e below (T13.setTop (mkF m 42 #[.val (.ref y), .val (.int (Int32.ofNat off)), .val (.int vv), .val (.int (Int32.ofNat (Jvm.Free.SBG.digits nn))), .val (.int (Int32.ofNat kk)), .val (.int (Int32.ofNat (nn / 10 ^ ((Jvm.Free.SBG.digits nn) - 1 - kk) % 10)))] [(.int (1 : Int32))])) _
      refine XS.goto X13.here hx rfl (pc0 := 42) (pc' := 46) rfl (hb hby own_d_method_6_code_42) (by decide) (by decide) ?_
      show Steps p.tables e below (T13.setTop (mkF m 46 #[.val (.ref y), .val (.int (Int32.ofNat off)), .val (.int vv), .val (.int (Int32.ofNat (Jvm.Free.SBG.digits nn))), .val (.int (Int32.ofNat kk)), .val (.int (Int32.ofNat (nn / 10 ^ ((Jvm.Free.SBG.digits nn) - 1 - kk) % 10)))] [(.int (1 : Int32))])) _
      exact retN X13 hx (t := .boolean) Bd.returns (by simp) (hb hby own_d_method_6_code_46) hr
    · show Q_own_digit Z y ty ky ds off vv nn kk gCS gFM h0 n0 _ T13.heap _
      rw [hh13]
      exact ⟨rfl, N13, rfl⟩
  · obtain ⟨fs, hr, hrun, hended, hW, hsame⟩ := X0.leave (v := some (.int (nar .boolean (1 : Int32)))) (fun h => by rw [Bd.returns] at h; cases h)
    refine ⟨_, _, r1 _ ?_, hrun, hended, _, _, rfl, ?_, ⟨_, rfl⟩, hW, hsame.mono (by decide) (by decide)⟩
    · show Steps p.tables e below (s₁.setTop (mkF m 3 #[.val (.ref y), .val (.int (Int32.ofNat off)), .val (.int vv), .val (.int (Int32.ofNat (Jvm.Free.SBG.digits nn))), .val (.int (Int32.ofNat kk)), .unset] [(.int (Int32.ofNat (Jvm.Free.SBG.digits nn))), (.int (Int32.ofNat kk))])) _
      refine XS.icmpNo X0.here hx rfl (hb hby own_d_method_6_code_3) rfl (flt (fun q => hkd ((own_ltN (by omega) (by omega)).mp q))).1 ?_
      show Steps p.tables e below (s₁.setTop (mkF m 6 #[.val (.ref y), .val (.int (Int32.ofNat off)), .val (.int vv), .val (.int (Int32.ofNat (Jvm.Free.SBG.digits nn))), .val (.int (Int32.ofNat kk)), .unset] [])) _
      refine XS.iconst X0.here hx rfl (hb hby own_d_method_6_code_6) ?_
      show Steps p.tables e below (s₁.setTop (mkF m 7 #[.val (.ref y), .val (.int (Int32.ofNat off)), .val (.int vv), .val (.int (Int32.ofNat (Jvm.Free.SBG.digits nn))), .val (.int (Int32.ofNat kk)), .unset] [(.int (1 : Int32))])) _
      exact retN X0 hx (t := .boolean) Bd.returns (by simp) (hb hby own_d_method_6_code_7) hr
    · show Q_own_digit Z y ty ky ds off vv nn kk gCS gFM h0 n0 _ s₁.heap _
      rw [e0]
      exact ⟨rfl, N0, rfl⟩
theorem own_pn_own_number : plainName "com/example/myna/myna/limits/RateLimitToStringPinLaw" = true := by first | (simp [plainName, overriddenIn]; done) | decide +kernel
theorem own_ef_own_number (m : MethodId) (y : Addr) (off : Nat) (vv : Int32) (nn : Nat) : entryFrame m #[(.ref y), (.int (Int32.ofNat off)), (.int vv), (.int (Int32.ofNat (Jvm.Free.SBG.digits nn)))] 4 = mkF m 0 #[.val (.ref y), .val (.int (Int32.ofNat off)), .val (.int vv), .val (.int (Int32.ofNat (Jvm.Free.SBG.digits nn)))] [] := by first | (simp [entryFrame, mkF, argsToLocals, own_cI, own_cJ, own_cR, own_cN]; done) | rfl
abbrev own_F_own_number (m : MethodId) (y : Addr) (off : Nat) (vv : Int32) (nn : Nat) : JFrame := entryFrame m #[(.ref y), (.int (Int32.ofNat off)), (.int vv), (.int (Int32.ofNat (Jvm.Free.SBG.digits nn)))] 4
def Q_own_number (Z : State) (y : Addr) (ty : Addr) (ky : ClassId) (ds : List Int32) (off : Nat) (vv : Int32) (nn : Nat) (gCS : Int32) (gFM : Value) (h0 : Heap) (n0 : Nat) (v : Option Value) (h : Heap) (L : List Loc) : Prop := v = some (.int (1 : Int32)) ∧ Fr n0 L ∧ h = h0
set_option maxRecDepth 65536 in
set_option maxHeartbeats 40000000 in
theorem own_number (l : Launch) (Z : State) (a0 : Array Value) (hw : ∀ d ∈ tables_1, d.before a0 Z = true) (ws : List Jvm.Cond) (y : Addr) (ty : Addr) (ky : ClassId) (ds : List Int32) (off : Nat) (vv : Int32) (nn : Nat) (gCS : Int32) (gFM : Value) (h0 : Heap) (n0 : Nat) (O0 : Old Z n0 h0) (hp0 : own_Str Z h0 y ty ky ds) (hvn : vv.toInt = nn) (hfit : off + (Jvm.Free.SBG.digits nn) ≤ ds.length) (hat : ∀ t, t < (Jvm.Free.SBG.digits nn) → ds.getD (off + t) 0 = (own_dec nn).getD t 0) (hp4 : Sta Z Z.heap "java/lang/String" "COMPACT_STRINGS" "Z" (.int gCS)) (hG1 : ¬ gCS = (0 : Int32)) (hp6 : Sta Z Z.heap "jdk/internal/util/Preconditions" "SIOOBE_FORMATTER" "Ljava/util/function/BiFunction;" gFM) (hG3 : gFM.isRef = true) :
    MetFree l (⟨"com/example/myna/myna/limits/RateLimitToStringPinLaw", "number", "(Ljava/lang/String;III)Z"⟩ : MethodName) (head1 (Jvm.Cond.code (⟨"com/example/myna/myna/limits/RateLimitToStringPinLaw", "number", "(Ljava/lang/String;III)Z"⟩ : MethodName) method_5_code 4 (some .boolean) :: ws) ({ frames := 5, cells := 0, slots := 0, locals := 70 } : Room)) (fun aa_ U_ => aa_ = #[(.ref y), (.int (Int32.ofNat off)), (.int vv), (.int (Int32.ofNat (Jvm.Free.SBG.digits nn)))] ∧ Z.Warmed39 U_.vm ∧ U_.heap = h0) (fun _ _ _ _ _ => True) (fun _ U_ o_ V_ => ∃ v_ L_, o_ = .returned v_ ∧ Q_own_number Z y ty ky ds off vv nn gCS gFM h0 n0 v_ V_.heap L_ ∧ FrameEnd U_ o_ V_ L_ ({ frames := 5, cells := 0, slots := 0, locals := 70 } : Room).cells ({ frames := 5, cells := 0, slots := 0, locals := 70 } : Room).slots) := by
  refine MetFree.of_bodySF (plainFor_of_name own_pn_own_number) hisR ?_
  intro p e s m args below meth c s₁ Bd hml0 hP hK
  obtain ⟨rfl, hZ, hh⟩ := hP
  have hx := Bd.exec
  have hby := Bd.bytes
  have hml : c.maxLocals = 4 := hml0
  have hown : s.vm.findClass "com/example/myna/myna/limits/RateLimitToStringPinLaw" = some m.cls := findClass_of_methodNamed Bd.named
  have hnm := (name_of_methodNamed Bd.named Bd.method).1
  have X0 : Stand p l e ({ frames := 5, cells := 0, slots := 0, locals := 70 } : Room) s m #[(.ref y), (.int (Int32.ofNat off)), (.int vv), (.int (Int32.ofNat (Jvm.Free.SBG.digits nn)))] below meth c s₁ [] 0 0 := Stand.of_body Bd
  have e0 : s₁.heap = h0 := by rw [← hh, Bd.state]; rfl
  have N0 := Fr.nil n0
  have K0 : Keep h0 h0 [] := Keep.refl _ _
  have r0 : GoTo p.tables e below s₁ (own_F_own_number m y off vv nn) s₁ (mkF m 0 #[.val (.ref y), .val (.int (Int32.ofNat off)), .val (.int vv), .val (.int (Int32.ofNat (Jvm.Free.SBG.digits nn)))] []) := fun tt_ kk_ => castTop (own_ef_own_number m y off vv nn) kk_
  obtain ⟨_, _, ⟨T1, L1, k1, n1⟩, -, X1, ⟨Lc1, hQ1, l1, y1, z1⟩, st1⟩ := Jvm.LawKit.callS X0 hx (y := (⟨"com/example/myna/myna/limits/RateLimitToStringPinLaw", "digit", "(Ljava/lang/String;IIII)Z"⟩ : MethodName)) hown (mvT hZ (hw _ (List.mem_of_getElem? (i := 195) rfl))) (mvT hZ (hw _ (List.mem_of_getElem? (i := 196) rfl))) (mvT hZ (hw _ (List.mem_of_getElem? (i := 167) rfl))) (mvT hZ (hw _ (List.mem_of_getElem? (i := 197) rfl))) (by decide) (backOf (W := 0) (own_digit l Z a0 hw [] (y) (ty) (ky) (ds) (off) (vv) (nn) (0) (gCS) (gFM) h0 n0 (O0.keep K0 all0) (hp0) (hvn) (hfit) (hat) (hp4) (hG1) (hp6) (hG3) (by decide)) hZ (hw _ (List.mem_of_getElem? (i := 197) rfl)) (hw _ (List.mem_of_getElem? (i := 167) rfl)) (by decide) (by decide)) (g := (mkF m 5 #[.val (.ref y), .val (.int (Int32.ofNat off)), .val (.int vv), .val (.int (Int32.ofNat (Jvm.Free.SBG.digits nn)))] [(.int (0 : Int32)), (.int (Int32.ofNat (Jvm.Free.SBG.digits nn))), (.int vv), (.int (Int32.ofNat off)), (.ref y)])) rfl (by rw [hml]; rfl) (argsL := [(.ref y), (.int (Int32.ofNat off)), (.int vv), (.int (Int32.ofNat (Jvm.Free.SBG.digits nn))), (.int (0 : Int32))]) (rest := []) (lenOf own_pd22 rfl) rfl (by show 2 * 0 + _ ≤ _; exact Nat.le_of_eq rfl) (hb hby own_d_method_5_code_5) (fun _ _ => ⟨rfl, e0, (by decide : 0 + 0 ≤ _), (by decide : 0 + 0 ≤ _)⟩)
  dsimp only [Pt.U, Pt.locs, Pt.cells, Pt.slots] at X1 l1 y1 z1 st1 hQ1
  subst l1 y1 z1
  obtain ⟨rfl, Nq1, hh1⟩ := hQ1
  have N1 := Fr.app N0 Nq1
  obtain ⟨_, _, ⟨T2, L2, k2, n2⟩, -, X2, ⟨Lc2, hQ2, l2, y2, z2⟩, st2⟩ := Jvm.LawKit.callS X1 hx (y := (⟨"com/example/myna/myna/limits/RateLimitToStringPinLaw", "digit", "(Ljava/lang/String;IIII)Z"⟩ : MethodName)) hown (mvT hZ (hw _ (List.mem_of_getElem? (i := 195) rfl))) (mvT hZ (hw _ (List.mem_of_getElem? (i := 196) rfl))) (mvT hZ (hw _ (List.mem_of_getElem? (i := 167) rfl))) (mvT hZ (hw _ (List.mem_of_getElem? (i := 197) rfl))) (by decide) (backOf (W := 0) (own_digit l Z a0 hw [] (y) (ty) (ky) (ds) (off) (vv) (nn) (1) (gCS) (gFM) h0 n0 (O0.keep K0 all0) (hp0) (hvn) (hfit) (hat) (hp4) (hG1) (hp6) (hG3) (by decide)) hZ (hw _ (List.mem_of_getElem? (i := 197) rfl)) (hw _ (List.mem_of_getElem? (i := 167) rfl)) (by decide) (by decide)) (g := (mkF m 16 #[.val (.ref y), .val (.int (Int32.ofNat off)), .val (.int vv), .val (.int (Int32.ofNat (Jvm.Free.SBG.digits nn)))] [(.int (1 : Int32)), (.int (Int32.ofNat (Jvm.Free.SBG.digits nn))), (.int vv), (.int (Int32.ofNat off)), (.ref y)])) rfl (by rw [hml]; rfl) (argsL := [(.ref y), (.int (Int32.ofNat off)), (.int vv), (.int (Int32.ofNat (Jvm.Free.SBG.digits nn))), (.int (1 : Int32))]) (rest := []) (lenOf own_pd22 rfl) rfl (by show 2 * 0 + _ ≤ _; exact Nat.le_of_eq rfl) (hb hby own_d_method_5_code_16) (fun _ _ => ⟨rfl, hh1, (by decide : 0 + 0 ≤ _), (by decide : 0 + 0 ≤ _)⟩)
  dsimp only [Pt.U, Pt.locs, Pt.cells, Pt.slots] at X2 l2 y2 z2 st2 hQ2
  subst l2 y2 z2
  obtain ⟨rfl, Nq2, hh2⟩ := hQ2
  have N2 := Fr.app N1 Nq2
  obtain ⟨_, _, ⟨T3, L3, k3, n3⟩, -, X3, ⟨Lc3, hQ3, l3, y3, z3⟩, st3⟩ := Jvm.LawKit.callS X2 hx (y := (⟨"com/example/myna/myna/limits/RateLimitToStringPinLaw", "digit", "(Ljava/lang/String;IIII)Z"⟩ : MethodName)) hown (mvT hZ (hw _ (List.mem_of_getElem? (i := 195) rfl))) (mvT hZ (hw _ (List.mem_of_getElem? (i := 196) rfl))) (mvT hZ (hw _ (List.mem_of_getElem? (i := 167) rfl))) (mvT hZ (hw _ (List.mem_of_getElem? (i := 197) rfl))) (by decide) (backOf (W := 0) (own_digit l Z a0 hw [] (y) (ty) (ky) (ds) (off) (vv) (nn) (2) (gCS) (gFM) h0 n0 (O0.keep K0 all0) (hp0) (hvn) (hfit) (hat) (hp4) (hG1) (hp6) (hG3) (by decide)) hZ (hw _ (List.mem_of_getElem? (i := 197) rfl)) (hw _ (List.mem_of_getElem? (i := 167) rfl)) (by decide) (by decide)) (g := (mkF m 27 #[.val (.ref y), .val (.int (Int32.ofNat off)), .val (.int vv), .val (.int (Int32.ofNat (Jvm.Free.SBG.digits nn)))] [(.int (2 : Int32)), (.int (Int32.ofNat (Jvm.Free.SBG.digits nn))), (.int vv), (.int (Int32.ofNat off)), (.ref y)])) rfl (by rw [hml]; rfl) (argsL := [(.ref y), (.int (Int32.ofNat off)), (.int vv), (.int (Int32.ofNat (Jvm.Free.SBG.digits nn))), (.int (2 : Int32))]) (rest := []) (lenOf own_pd22 rfl) rfl (by show 2 * 0 + _ ≤ _; exact Nat.le_of_eq rfl) (hb hby own_d_method_5_code_27) (fun _ _ => ⟨rfl, hh2, (by decide : 0 + 0 ≤ _), (by decide : 0 + 0 ≤ _)⟩)
  dsimp only [Pt.U, Pt.locs, Pt.cells, Pt.slots] at X3 l3 y3 z3 st3 hQ3
  subst l3 y3 z3
  obtain ⟨rfl, Nq3, hh3⟩ := hQ3
  have N3 := Fr.app N2 Nq3
  obtain ⟨_, _, ⟨T4, L4, k4, n4⟩, -, X4, ⟨Lc4, hQ4, l4, y4, z4⟩, st4⟩ := Jvm.LawKit.callS X3 hx (y := (⟨"com/example/myna/myna/limits/RateLimitToStringPinLaw", "digit", "(Ljava/lang/String;IIII)Z"⟩ : MethodName)) hown (mvT hZ (hw _ (List.mem_of_getElem? (i := 195) rfl))) (mvT hZ (hw _ (List.mem_of_getElem? (i := 196) rfl))) (mvT hZ (hw _ (List.mem_of_getElem? (i := 167) rfl))) (mvT hZ (hw _ (List.mem_of_getElem? (i := 197) rfl))) (by decide) (backOf (W := 0) (own_digit l Z a0 hw [] (y) (ty) (ky) (ds) (off) (vv) (nn) (3) (gCS) (gFM) h0 n0 (O0.keep K0 all0) (hp0) (hvn) (hfit) (hat) (hp4) (hG1) (hp6) (hG3) (by decide)) hZ (hw _ (List.mem_of_getElem? (i := 197) rfl)) (hw _ (List.mem_of_getElem? (i := 167) rfl)) (by decide) (by decide)) (g := (mkF m 38 #[.val (.ref y), .val (.int (Int32.ofNat off)), .val (.int vv), .val (.int (Int32.ofNat (Jvm.Free.SBG.digits nn)))] [(.int (3 : Int32)), (.int (Int32.ofNat (Jvm.Free.SBG.digits nn))), (.int vv), (.int (Int32.ofNat off)), (.ref y)])) rfl (by rw [hml]; rfl) (argsL := [(.ref y), (.int (Int32.ofNat off)), (.int vv), (.int (Int32.ofNat (Jvm.Free.SBG.digits nn))), (.int (3 : Int32))]) (rest := []) (lenOf own_pd22 rfl) rfl (by show 2 * 0 + _ ≤ _; exact Nat.le_of_eq rfl) (hb hby own_d_method_5_code_38) (fun _ _ => ⟨rfl, hh3, (by decide : 0 + 0 ≤ _), (by decide : 0 + 0 ≤ _)⟩)
  dsimp only [Pt.U, Pt.locs, Pt.cells, Pt.slots] at X4 l4 y4 z4 st4 hQ4
  subst l4 y4 z4
  obtain ⟨rfl, Nq4, hh4⟩ := hQ4
  have N4 := Fr.app N3 Nq4
  obtain ⟨_, _, ⟨T5, L5, k5, n5⟩, -, X5, ⟨Lc5, hQ5, l5, y5, z5⟩, st5⟩ := Jvm.LawKit.callS X4 hx (y := (⟨"com/example/myna/myna/limits/RateLimitToStringPinLaw", "digit", "(Ljava/lang/String;IIII)Z"⟩ : MethodName)) hown (mvT hZ (hw _ (List.mem_of_getElem? (i := 195) rfl))) (mvT hZ (hw _ (List.mem_of_getElem? (i := 196) rfl))) (mvT hZ (hw _ (List.mem_of_getElem? (i := 167) rfl))) (mvT hZ (hw _ (List.mem_of_getElem? (i := 197) rfl))) (by decide) (backOf (W := 0) (own_digit l Z a0 hw [] (y) (ty) (ky) (ds) (off) (vv) (nn) (4) (gCS) (gFM) h0 n0 (O0.keep K0 all0) (hp0) (hvn) (hfit) (hat) (hp4) (hG1) (hp6) (hG3) (by decide)) hZ (hw _ (List.mem_of_getElem? (i := 197) rfl)) (hw _ (List.mem_of_getElem? (i := 167) rfl)) (by decide) (by decide)) (g := (mkF m 49 #[.val (.ref y), .val (.int (Int32.ofNat off)), .val (.int vv), .val (.int (Int32.ofNat (Jvm.Free.SBG.digits nn)))] [(.int (4 : Int32)), (.int (Int32.ofNat (Jvm.Free.SBG.digits nn))), (.int vv), (.int (Int32.ofNat off)), (.ref y)])) rfl (by rw [hml]; rfl) (argsL := [(.ref y), (.int (Int32.ofNat off)), (.int vv), (.int (Int32.ofNat (Jvm.Free.SBG.digits nn))), (.int (4 : Int32))]) (rest := []) (lenOf own_pd22 rfl) rfl (by show 2 * 0 + _ ≤ _; exact Nat.le_of_eq rfl) (hb hby own_d_method_5_code_49) (fun _ _ => ⟨rfl, hh4, (by decide : 0 + 0 ≤ _), (by decide : 0 + 0 ≤ _)⟩)
  dsimp only [Pt.U, Pt.locs, Pt.cells, Pt.slots] at X5 l5 y5 z5 st5 hQ5
  subst l5 y5 z5
  obtain ⟨rfl, Nq5, hh5⟩ := hQ5
  have N5 := Fr.app N4 Nq5
  obtain ⟨_, _, ⟨T6, L6, k6, n6⟩, -, X6, ⟨Lc6, hQ6, l6, y6, z6⟩, st6⟩ := Jvm.LawKit.callS X5 hx (y := (⟨"com/example/myna/myna/limits/RateLimitToStringPinLaw", "digit", "(Ljava/lang/String;IIII)Z"⟩ : MethodName)) hown (mvT hZ (hw _ (List.mem_of_getElem? (i := 195) rfl))) (mvT hZ (hw _ (List.mem_of_getElem? (i := 196) rfl))) (mvT hZ (hw _ (List.mem_of_getElem? (i := 167) rfl))) (mvT hZ (hw _ (List.mem_of_getElem? (i := 197) rfl))) (by decide) (backOf (W := 0) (own_digit l Z a0 hw [] (y) (ty) (ky) (ds) (off) (vv) (nn) (5) (gCS) (gFM) h0 n0 (O0.keep K0 all0) (hp0) (hvn) (hfit) (hat) (hp4) (hG1) (hp6) (hG3) (by decide)) hZ (hw _ (List.mem_of_getElem? (i := 197) rfl)) (hw _ (List.mem_of_getElem? (i := 167) rfl)) (by decide) (by decide)) (g := (mkF m 60 #[.val (.ref y), .val (.int (Int32.ofNat off)), .val (.int vv), .val (.int (Int32.ofNat (Jvm.Free.SBG.digits nn)))] [(.int (5 : Int32)), (.int (Int32.ofNat (Jvm.Free.SBG.digits nn))), (.int vv), (.int (Int32.ofNat off)), (.ref y)])) rfl (by rw [hml]; rfl) (argsL := [(.ref y), (.int (Int32.ofNat off)), (.int vv), (.int (Int32.ofNat (Jvm.Free.SBG.digits nn))), (.int (5 : Int32))]) (rest := []) (lenOf own_pd22 rfl) rfl (by show 2 * 0 + _ ≤ _; exact Nat.le_of_eq rfl) (hb hby own_d_method_5_code_60) (fun _ _ => ⟨rfl, hh5, (by decide : 0 + 0 ≤ _), (by decide : 0 + 0 ≤ _)⟩)
  dsimp only [Pt.U, Pt.locs, Pt.cells, Pt.slots] at X6 l6 y6 z6 st6 hQ6
  subst l6 y6 z6
  obtain ⟨rfl, Nq6, hh6⟩ := hQ6
  have N6 := Fr.app N5 Nq6
  obtain ⟨_, _, ⟨T7, L7, k7, n7⟩, -, X7, ⟨Lc7, hQ7, l7, y7, z7⟩, st7⟩ := Jvm.LawKit.callS X6 hx (y := (⟨"com/example/myna/myna/limits/RateLimitToStringPinLaw", "digit", "(Ljava/lang/String;IIII)Z"⟩ : MethodName)) hown (mvT hZ (hw _ (List.mem_of_getElem? (i := 195) rfl))) (mvT hZ (hw _ (List.mem_of_getElem? (i := 196) rfl))) (mvT hZ (hw _ (List.mem_of_getElem? (i := 167) rfl))) (mvT hZ (hw _ (List.mem_of_getElem? (i := 197) rfl))) (by decide) (backOf (W := 0) (own_digit l Z a0 hw [] (y) (ty) (ky) (ds) (off) (vv) (nn) (6) (gCS) (gFM) h0 n0 (O0.keep K0 all0) (hp0) (hvn) (hfit) (hat) (hp4) (hG1) (hp6) (hG3) (by decide)) hZ (hw _ (List.mem_of_getElem? (i := 197) rfl)) (hw _ (List.mem_of_getElem? (i := 167) rfl)) (by decide) (by decide)) (g := (mkF m 72 #[.val (.ref y), .val (.int (Int32.ofNat off)), .val (.int vv), .val (.int (Int32.ofNat (Jvm.Free.SBG.digits nn)))] [(.int (6 : Int32)), (.int (Int32.ofNat (Jvm.Free.SBG.digits nn))), (.int vv), (.int (Int32.ofNat off)), (.ref y)])) rfl (by rw [hml]; rfl) (argsL := [(.ref y), (.int (Int32.ofNat off)), (.int vv), (.int (Int32.ofNat (Jvm.Free.SBG.digits nn))), (.int (6 : Int32))]) (rest := []) (lenOf own_pd22 rfl) rfl (by show 2 * 0 + _ ≤ _; exact Nat.le_of_eq rfl) (hb hby own_d_method_5_code_72) (fun _ _ => ⟨rfl, hh6, (by decide : 0 + 0 ≤ _), (by decide : 0 + 0 ≤ _)⟩)
  dsimp only [Pt.U, Pt.locs, Pt.cells, Pt.slots] at X7 l7 y7 z7 st7 hQ7
  subst l7 y7 z7
  obtain ⟨rfl, Nq7, hh7⟩ := hQ7
  have N7 := Fr.app N6 Nq7
  obtain ⟨_, _, ⟨T8, L8, k8, n8⟩, -, X8, ⟨Lc8, hQ8, l8, y8, z8⟩, st8⟩ := Jvm.LawKit.callS X7 hx (y := (⟨"com/example/myna/myna/limits/RateLimitToStringPinLaw", "digit", "(Ljava/lang/String;IIII)Z"⟩ : MethodName)) hown (mvT hZ (hw _ (List.mem_of_getElem? (i := 195) rfl))) (mvT hZ (hw _ (List.mem_of_getElem? (i := 196) rfl))) (mvT hZ (hw _ (List.mem_of_getElem? (i := 167) rfl))) (mvT hZ (hw _ (List.mem_of_getElem? (i := 197) rfl))) (by decide) (backOf (W := 0) (own_digit l Z a0 hw [] (y) (ty) (ky) (ds) (off) (vv) (nn) (7) (gCS) (gFM) h0 n0 (O0.keep K0 all0) (hp0) (hvn) (hfit) (hat) (hp4) (hG1) (hp6) (hG3) (by decide)) hZ (hw _ (List.mem_of_getElem? (i := 197) rfl)) (hw _ (List.mem_of_getElem? (i := 167) rfl)) (by decide) (by decide)) (g := (mkF m 84 #[.val (.ref y), .val (.int (Int32.ofNat off)), .val (.int vv), .val (.int (Int32.ofNat (Jvm.Free.SBG.digits nn)))] [(.int (7 : Int32)), (.int (Int32.ofNat (Jvm.Free.SBG.digits nn))), (.int vv), (.int (Int32.ofNat off)), (.ref y)])) rfl (by rw [hml]; rfl) (argsL := [(.ref y), (.int (Int32.ofNat off)), (.int vv), (.int (Int32.ofNat (Jvm.Free.SBG.digits nn))), (.int (7 : Int32))]) (rest := []) (lenOf own_pd22 rfl) rfl (by show 2 * 0 + _ ≤ _; exact Nat.le_of_eq rfl) (hb hby own_d_method_5_code_84) (fun _ _ => ⟨rfl, hh7, (by decide : 0 + 0 ≤ _), (by decide : 0 + 0 ≤ _)⟩)
  dsimp only [Pt.U, Pt.locs, Pt.cells, Pt.slots] at X8 l8 y8 z8 st8 hQ8
  subst l8 y8 z8
  obtain ⟨rfl, Nq8, hh8⟩ := hQ8
  have N8 := Fr.app N7 Nq8
  obtain ⟨_, _, ⟨T9, L9, k9, n9⟩, -, X9, ⟨Lc9, hQ9, l9, y9, z9⟩, st9⟩ := Jvm.LawKit.callS X8 hx (y := (⟨"com/example/myna/myna/limits/RateLimitToStringPinLaw", "digit", "(Ljava/lang/String;IIII)Z"⟩ : MethodName)) hown (mvT hZ (hw _ (List.mem_of_getElem? (i := 195) rfl))) (mvT hZ (hw _ (List.mem_of_getElem? (i := 196) rfl))) (mvT hZ (hw _ (List.mem_of_getElem? (i := 167) rfl))) (mvT hZ (hw _ (List.mem_of_getElem? (i := 197) rfl))) (by decide) (backOf (W := 0) (own_digit l Z a0 hw [] (y) (ty) (ky) (ds) (off) (vv) (nn) (8) (gCS) (gFM) h0 n0 (O0.keep K0 all0) (hp0) (hvn) (hfit) (hat) (hp4) (hG1) (hp6) (hG3) (by decide)) hZ (hw _ (List.mem_of_getElem? (i := 197) rfl)) (hw _ (List.mem_of_getElem? (i := 167) rfl)) (by decide) (by decide)) (g := (mkF m 96 #[.val (.ref y), .val (.int (Int32.ofNat off)), .val (.int vv), .val (.int (Int32.ofNat (Jvm.Free.SBG.digits nn)))] [(.int (8 : Int32)), (.int (Int32.ofNat (Jvm.Free.SBG.digits nn))), (.int vv), (.int (Int32.ofNat off)), (.ref y)])) rfl (by rw [hml]; rfl) (argsL := [(.ref y), (.int (Int32.ofNat off)), (.int vv), (.int (Int32.ofNat (Jvm.Free.SBG.digits nn))), (.int (8 : Int32))]) (rest := []) (lenOf own_pd22 rfl) rfl (by show 2 * 0 + _ ≤ _; exact Nat.le_of_eq rfl) (hb hby own_d_method_5_code_96) (fun _ _ => ⟨rfl, hh8, (by decide : 0 + 0 ≤ _), (by decide : 0 + 0 ≤ _)⟩)
  dsimp only [Pt.U, Pt.locs, Pt.cells, Pt.slots] at X9 l9 y9 z9 st9 hQ9
  subst l9 y9 z9
  obtain ⟨rfl, Nq9, hh9⟩ := hQ9
  have N9 := Fr.app N8 Nq9
  obtain ⟨_, _, ⟨T10, L10, k10, n10⟩, -, X10, ⟨Lc10, hQ10, l10, y10, z10⟩, st10⟩ := Jvm.LawKit.callS X9 hx (y := (⟨"com/example/myna/myna/limits/RateLimitToStringPinLaw", "digit", "(Ljava/lang/String;IIII)Z"⟩ : MethodName)) hown (mvT hZ (hw _ (List.mem_of_getElem? (i := 195) rfl))) (mvT hZ (hw _ (List.mem_of_getElem? (i := 196) rfl))) (mvT hZ (hw _ (List.mem_of_getElem? (i := 167) rfl))) (mvT hZ (hw _ (List.mem_of_getElem? (i := 197) rfl))) (by decide) (backOf (W := 0) (own_digit l Z a0 hw [] (y) (ty) (ky) (ds) (off) (vv) (nn) (9) (gCS) (gFM) h0 n0 (O0.keep K0 all0) (hp0) (hvn) (hfit) (hat) (hp4) (hG1) (hp6) (hG3) (by decide)) hZ (hw _ (List.mem_of_getElem? (i := 197) rfl)) (hw _ (List.mem_of_getElem? (i := 167) rfl)) (by decide) (by decide)) (g := (mkF m 108 #[.val (.ref y), .val (.int (Int32.ofNat off)), .val (.int vv), .val (.int (Int32.ofNat (Jvm.Free.SBG.digits nn)))] [(.int (9 : Int32)), (.int (Int32.ofNat (Jvm.Free.SBG.digits nn))), (.int vv), (.int (Int32.ofNat off)), (.ref y)])) rfl (by rw [hml]; rfl) (argsL := [(.ref y), (.int (Int32.ofNat off)), (.int vv), (.int (Int32.ofNat (Jvm.Free.SBG.digits nn))), (.int (9 : Int32))]) (rest := []) (lenOf own_pd22 rfl) rfl (by show 2 * 0 + _ ≤ _; exact Nat.le_of_eq rfl) (hb hby own_d_method_5_code_108) (fun _ _ => ⟨rfl, hh9, (by decide : 0 + 0 ≤ _), (by decide : 0 + 0 ≤ _)⟩)
  dsimp only [Pt.U, Pt.locs, Pt.cells, Pt.slots] at X10 l10 y10 z10 st10 hQ10
  subst l10 y10 z10
  obtain ⟨rfl, Nq10, hh10⟩ := hQ10
  have N10 := Fr.app N9 Nq10
  obtain ⟨fs, hr, hrun, hended, hW, hsame⟩ := X10.leave (v := some (.int (nar .boolean (1 : Int32)))) (fun h => by rw [Bd.returns] at h; cases h)
  refine ⟨_, _, r0 _ ?_, hrun, hended, _, _, rfl, ?_, ⟨_, rfl⟩, hW, hsame.mono (by decide) (by decide)⟩
  · show Steps p.tables e below (s₁.setTop (mkF m 0 #[.val (.ref y), .val (.int (Int32.ofNat off)), .val (.int vv), .val (.int (Int32.ofNat (Jvm.Free.SBG.digits nn)))] [])) _
    refine XS.aloadN X0.here hx rfl (hb hby own_d_method_5_code_0) rfl rfl ?_
    show Steps p.tables e below (s₁.setTop (mkF m 1 #[.val (.ref y), .val (.int (Int32.ofNat off)), .val (.int vv), .val (.int (Int32.ofNat (Jvm.Free.SBG.digits nn)))] [(.ref y)])) _
    refine XS.iloadN X0.here hx rfl (hb hby own_d_method_5_code_1) rfl ?_
    show Steps p.tables e below (s₁.setTop (mkF m 2 #[.val (.ref y), .val (.int (Int32.ofNat off)), .val (.int vv), .val (.int (Int32.ofNat (Jvm.Free.SBG.digits nn)))] [(.int (Int32.ofNat off)), (.ref y)])) _
    refine XS.iloadN X0.here hx rfl (hb hby own_d_method_5_code_2) rfl ?_
    show Steps p.tables e below (s₁.setTop (mkF m 3 #[.val (.ref y), .val (.int (Int32.ofNat off)), .val (.int vv), .val (.int (Int32.ofNat (Jvm.Free.SBG.digits nn)))] [(.int vv), (.int (Int32.ofNat off)), (.ref y)])) _
    refine XS.iloadN X0.here hx rfl (hb hby own_d_method_5_code_3) rfl ?_
    show Steps p.tables e below (s₁.setTop (mkF m 4 #[.val (.ref y), .val (.int (Int32.ofNat off)), .val (.int vv), .val (.int (Int32.ofNat (Jvm.Free.SBG.digits nn)))] [(.int (Int32.ofNat (Jvm.Free.SBG.digits nn))), (.int vv), (.int (Int32.ofNat off)), (.ref y)])) _
    refine XS.iconst X0.here hx rfl (hb hby own_d_method_5_code_4) ?_
    show Steps p.tables e below (s₁.setTop (mkF m 5 #[.val (.ref y), .val (.int (Int32.ofNat off)), .val (.int vv), .val (.int (Int32.ofNat (Jvm.Free.SBG.digits nn)))] [(.int (0 : Int32)), (.int (Int32.ofNat (Jvm.Free.SBG.digits nn))), (.int vv), (.int (Int32.ofNat off)), (.ref y)])) _
    refine st1 _ ?_
    show Steps p.tables e below (T1.setTop (mkF m 8 #[.val (.ref y), .val (.int (Int32.ofNat off)), .val (.int vv), .val (.int (Int32.ofNat (Jvm.Free.SBG.digits nn)))] [(.int (1 : Int32))])) _
    refine XS.ifNo X1.here hx rfl (hb hby own_d_method_5_code_8) rfl ((if0 _ _).trans (feq (by decide)).1) ?_
    show Steps p.tables e below (T1.setTop (mkF m 11 #[.val (.ref y), .val (.int (Int32.ofNat off)), .val (.int vv), .val (.int (Int32.ofNat (Jvm.Free.SBG.digits nn)))] [])) _
    refine XS.aloadN X1.here hx rfl (hb hby own_d_method_5_code_11) rfl rfl ?_
    show Steps p.tables e below (T1.setTop (mkF m 12 #[.val (.ref y), .val (.int (Int32.ofNat off)), .val (.int vv), .val (.int (Int32.ofNat (Jvm.Free.SBG.digits nn)))] [(.ref y)])) _
    refine XS.iloadN X1.here hx rfl (hb hby own_d_method_5_code_12) rfl ?_
    show Steps p.tables e below (T1.setTop (mkF m 13 #[.val (.ref y), .val (.int (Int32.ofNat off)), .val (.int vv), .val (.int (Int32.ofNat (Jvm.Free.SBG.digits nn)))] [(.int (Int32.ofNat off)), (.ref y)])) _
    refine XS.iloadN X1.here hx rfl (hb hby own_d_method_5_code_13) rfl ?_
    show Steps p.tables e below (T1.setTop (mkF m 14 #[.val (.ref y), .val (.int (Int32.ofNat off)), .val (.int vv), .val (.int (Int32.ofNat (Jvm.Free.SBG.digits nn)))] [(.int vv), (.int (Int32.ofNat off)), (.ref y)])) _
    refine XS.iloadN X1.here hx rfl (hb hby own_d_method_5_code_14) rfl ?_
    show Steps p.tables e below (T1.setTop (mkF m 15 #[.val (.ref y), .val (.int (Int32.ofNat off)), .val (.int vv), .val (.int (Int32.ofNat (Jvm.Free.SBG.digits nn)))] [(.int (Int32.ofNat (Jvm.Free.SBG.digits nn))), (.int vv), (.int (Int32.ofNat off)), (.ref y)])) _
    refine XS.iconst X1.here hx rfl (hb hby own_d_method_5_code_15) ?_
    show Steps p.tables e below (T1.setTop (mkF m 16 #[.val (.ref y), .val (.int (Int32.ofNat off)), .val (.int vv), .val (.int (Int32.ofNat (Jvm.Free.SBG.digits nn)))] [(.int (1 : Int32)), (.int (Int32.ofNat (Jvm.Free.SBG.digits nn))), (.int vv), (.int (Int32.ofNat off)), (.ref y)])) _
    refine st2 _ ?_
    show Steps p.tables e below (T2.setTop (mkF m 19 #[.val (.ref y), .val (.int (Int32.ofNat off)), .val (.int vv), .val (.int (Int32.ofNat (Jvm.Free.SBG.digits nn)))] [(.int (1 : Int32))])) _
    refine XS.ifNo X2.here hx rfl (hb hby own_d_method_5_code_19) rfl ((if0 _ _).trans (feq (by decide)).1) ?_
    show Steps p.tables e below (T2.setTop (mkF m 22 #[.val (.ref y), .val (.int (Int32.ofNat off)), .val (.int vv), .val (.int (Int32.ofNat (Jvm.Free.SBG.digits nn)))] [])) _
    refine XS.aloadN X2.here hx rfl (hb hby own_d_method_5_code_22) rfl rfl ?_
    show Steps p.tables e below (T2.setTop (mkF m 23 #[.val (.ref y), .val (.int (Int32.ofNat off)), .val (.int vv), .val (.int (Int32.ofNat (Jvm.Free.SBG.digits nn)))] [(.ref y)])) _
    refine XS.iloadN X2.here hx rfl (hb hby own_d_method_5_code_23) rfl ?_
    show Steps p.tables e below (T2.setTop (mkF m 24 #[.val (.ref y), .val (.int (Int32.ofNat off)), .val (.int vv), .val (.int (Int32.ofNat (Jvm.Free.SBG.digits nn)))] [(.int (Int32.ofNat off)), (.ref y)])) _
    refine XS.iloadN X2.here hx rfl (hb hby own_d_method_5_code_24) rfl ?_
    show Steps p.tables e below (T2.setTop (mkF m 25 #[.val (.ref y), .val (.int (Int32.ofNat off)), .val (.int vv), .val (.int (Int32.ofNat (Jvm.Free.SBG.digits nn)))] [(.int vv), (.int (Int32.ofNat off)), (.ref y)])) _
    refine XS.iloadN X2.here hx rfl (hb hby own_d_method_5_code_25) rfl ?_
    show Steps p.tables e below (T2.setTop (mkF m 26 #[.val (.ref y), .val (.int (Int32.ofNat off)), .val (.int vv), .val (.int (Int32.ofNat (Jvm.Free.SBG.digits nn)))] [(.int (Int32.ofNat (Jvm.Free.SBG.digits nn))), (.int vv), (.int (Int32.ofNat off)), (.ref y)])) _
    refine XS.iconst X2.here hx rfl (hb hby own_d_method_5_code_26) ?_
    show Steps p.tables e below (T2.setTop (mkF m 27 #[.val (.ref y), .val (.int (Int32.ofNat off)), .val (.int vv), .val (.int (Int32.ofNat (Jvm.Free.SBG.digits nn)))] [(.int (2 : Int32)), (.int (Int32.ofNat (Jvm.Free.SBG.digits nn))), (.int vv), (.int (Int32.ofNat off)), (.ref y)])) _
    refine st3 _ ?_
    show Steps p.tables e below (T3.setTop (mkF m 30 #[.val (.ref y), .val (.int (Int32.ofNat off)), .val (.int vv), .val (.int (Int32.ofNat (Jvm.Free.SBG.digits nn)))] [(.int (1 : Int32))])) _
    refine XS.ifNo X3.here hx rfl (hb hby own_d_method_5_code_30) rfl ((if0 _ _).trans (feq (by decide)).1) ?_
    show Steps p.tables e below (T3.setTop (mkF m 33 #[.val (.ref y), .val (.int (Int32.ofNat off)), .val (.int vv), .val (.int (Int32.ofNat (Jvm.Free.SBG.digits nn)))] [])) _
    refine XS.aloadN X3.here hx rfl (hb hby own_d_method_5_code_33) rfl rfl ?_
    show Steps p.tables e below (T3.setTop (mkF m 34 #[.val (.ref y), .val (.int (Int32.ofNat off)), .val (.int vv), .val (.int (Int32.ofNat (Jvm.Free.SBG.digits nn)))] [(.ref y)])) _
    refine XS.iloadN X3.here hx rfl (hb hby own_d_method_5_code_34) rfl ?_
    show Steps p.tables e below (T3.setTop (mkF m 35 #[.val (.ref y), .val (.int (Int32.ofNat off)), .val (.int vv), .val (.int (Int32.ofNat (Jvm.Free.SBG.digits nn)))] [(.int (Int32.ofNat off)), (.ref y)])) _
    refine XS.iloadN X3.here hx rfl (hb hby own_d_method_5_code_35) rfl ?_
    show Steps p.tables e below (T3.setTop (mkF m 36 #[.val (.ref y), .val (.int (Int32.ofNat off)), .val (.int vv), .val (.int (Int32.ofNat (Jvm.Free.SBG.digits nn)))] [(.int vv), (.int (Int32.ofNat off)), (.ref y)])) _
    refine XS.iloadN X3.here hx rfl (hb hby own_d_method_5_code_36) rfl ?_
    show Steps p.tables e below (T3.setTop (mkF m 37 #[.val (.ref y), .val (.int (Int32.ofNat off)), .val (.int vv), .val (.int (Int32.ofNat (Jvm.Free.SBG.digits nn)))] [(.int (Int32.ofNat (Jvm.Free.SBG.digits nn))), (.int vv), (.int (Int32.ofNat off)), (.ref y)])) _
    refine XS.iconst X3.here hx rfl (hb hby own_d_method_5_code_37) ?_
    show Steps p.tables e below (T3.setTop (mkF m 38 #[.val (.ref y), .val (.int (Int32.ofNat off)), .val (.int vv), .val (.int (Int32.ofNat (Jvm.Free.SBG.digits nn)))] [(.int (3 : Int32)), (.int (Int32.ofNat (Jvm.Free.SBG.digits nn))), (.int vv), (.int (Int32.ofNat off)), (.ref y)])) _
    refine st4 _ ?_
    show Steps p.tables e below (T4.setTop (mkF m 41 #[.val (.ref y), .val (.int (Int32.ofNat off)), .val (.int vv), .val (.int (Int32.ofNat (Jvm.Free.SBG.digits nn)))] [(.int (1 : Int32))])) _
    refine XS.ifNo X4.here hx rfl (hb hby own_d_method_5_code_41) rfl ((if0 _ _).trans (feq (by decide)).1) ?_
    show Steps p.tables e below (T4.setTop (mkF m 44 #[.val (.ref y), .val (.int (Int32.ofNat off)), .val (.int vv), .val (.int (Int32.ofNat (Jvm.Free.SBG.digits nn)))] [])) _
    refine XS.aloadN X4.here hx rfl (hb hby own_d_method_5_code_44) rfl rfl ?_
    show Steps p.tables e below (T4.setTop (mkF m 45 #[.val (.ref y), .val (.int (Int32.ofNat off)), .val (.int vv), .val (.int (Int32.ofNat (Jvm.Free.SBG.digits nn)))] [(.ref y)])) _
    refine XS.iloadN X4.here hx rfl (hb hby own_d_method_5_code_45) rfl ?_
    show Steps p.tables e below (T4.setTop (mkF m 46 #[.val (.ref y), .val (.int (Int32.ofNat off)), .val (.int vv), .val (.int (Int32.ofNat (Jvm.Free.SBG.digits nn)))] [(.int (Int32.ofNat off)), (.ref y)])) _
    refine XS.iloadN X4.here hx rfl (hb hby own_d_method_5_code_46) rfl ?_
    show Steps p.tables e below (T4.setTop (mkF m 47 #[.val (.ref y), .val (.int (Int32.ofNat off)), .val (.int vv), .val (.int (Int32.ofNat (Jvm.Free.SBG.digits nn)))] [(.int vv), (.int (Int32.ofNat off)), (.ref y)])) _
    refine XS.iloadN X4.here hx rfl (hb hby own_d_method_5_code_47) rfl ?_
    show Steps p.tables e below (T4.setTop (mkF m 48 #[.val (.ref y), .val (.int (Int32.ofNat off)), .val (.int vv), .val (.int (Int32.ofNat (Jvm.Free.SBG.digits nn)))] [(.int (Int32.ofNat (Jvm.Free.SBG.digits nn))), (.int vv), (.int (Int32.ofNat off)), (.ref y)])) _
    refine XS.iconst X4.here hx rfl (hb hby own_d_method_5_code_48) ?_
    show Steps p.tables e below (T4.setTop (mkF m 49 #[.val (.ref y), .val (.int (Int32.ofNat off)), .val (.int vv), .val (.int (Int32.ofNat (Jvm.Free.SBG.digits nn)))] [(.int (4 : Int32)), (.int (Int32.ofNat (Jvm.Free.SBG.digits nn))), (.int vv), (.int (Int32.ofNat off)), (.ref y)])) _
    refine st5 _ ?_
    show Steps p.tables e below (T5.setTop (mkF m 52 #[.val (.ref y), .val (.int (Int32.ofNat off)), .val (.int vv), .val (.int (Int32.ofNat (Jvm.Free.SBG.digits nn)))] [(.int (1 : Int32))])) _
    refine XS.ifNo X5.here hx rfl (hb hby own_d_method_5_code_52) rfl ((if0 _ _).trans (feq (by decide)).1) ?_
    show Steps p.tables e below (T5.setTop (mkF m 55 #[.val (.ref y), .val (.int (Int32.ofNat off)), .val (.int vv), .val (.int (Int32.ofNat (Jvm.Free.SBG.digits nn)))] [])) _
    refine XS.aloadN X5.here hx rfl (hb hby own_d_method_5_code_55) rfl rfl ?_
    show Steps p.tables e below (T5.setTop (mkF m 56 #[.val (.ref y), .val (.int (Int32.ofNat off)), .val (.int vv), .val (.int (Int32.ofNat (Jvm.Free.SBG.digits nn)))] [(.ref y)])) _
    refine XS.iloadN X5.here hx rfl (hb hby own_d_method_5_code_56) rfl ?_
    show Steps p.tables e below (T5.setTop (mkF m 57 #[.val (.ref y), .val (.int (Int32.ofNat off)), .val (.int vv), .val (.int (Int32.ofNat (Jvm.Free.SBG.digits nn)))] [(.int (Int32.ofNat off)), (.ref y)])) _
    refine XS.iloadN X5.here hx rfl (hb hby own_d_method_5_code_57) rfl ?_
    show Steps p.tables e below (T5.setTop (mkF m 58 #[.val (.ref y), .val (.int (Int32.ofNat off)), .val (.int vv), .val (.int (Int32.ofNat (Jvm.Free.SBG.digits nn)))] [(.int vv), (.int (Int32.ofNat off)), (.ref y)])) _
    refine XS.iloadN X5.here hx rfl (hb hby own_d_method_5_code_58) rfl ?_
    show Steps p.tables e below (T5.setTop (mkF m 59 #[.val (.ref y), .val (.int (Int32.ofNat off)), .val (.int vv), .val (.int (Int32.ofNat (Jvm.Free.SBG.digits nn)))] [(.int (Int32.ofNat (Jvm.Free.SBG.digits nn))), (.int vv), (.int (Int32.ofNat off)), (.ref y)])) _
    refine XS.iconst X5.here hx rfl (hb hby own_d_method_5_code_59) ?_
    show Steps p.tables e below (T5.setTop (mkF m 60 #[.val (.ref y), .val (.int (Int32.ofNat off)), .val (.int vv), .val (.int (Int32.ofNat (Jvm.Free.SBG.digits nn)))] [(.int (5 : Int32)), (.int (Int32.ofNat (Jvm.Free.SBG.digits nn))), (.int vv), (.int (Int32.ofNat off)), (.ref y)])) _
    refine st6 _ ?_
    show Steps p.tables e below (T6.setTop (mkF m 63 #[.val (.ref y), .val (.int (Int32.ofNat off)), .val (.int vv), .val (.int (Int32.ofNat (Jvm.Free.SBG.digits nn)))] [(.int (1 : Int32))])) _
    refine XS.ifNo X6.here hx rfl (hb hby own_d_method_5_code_63) rfl ((if0 _ _).trans (feq (by decide)).1) ?_
    show Steps p.tables e below (T6.setTop (mkF m 66 #[.val (.ref y), .val (.int (Int32.ofNat off)), .val (.int vv), .val (.int (Int32.ofNat (Jvm.Free.SBG.digits nn)))] [])) _
    refine XS.aloadN X6.here hx rfl (hb hby own_d_method_5_code_66) rfl rfl ?_
    show Steps p.tables e below (T6.setTop (mkF m 67 #[.val (.ref y), .val (.int (Int32.ofNat off)), .val (.int vv), .val (.int (Int32.ofNat (Jvm.Free.SBG.digits nn)))] [(.ref y)])) _
    refine XS.iloadN X6.here hx rfl (hb hby own_d_method_5_code_67) rfl ?_
    show Steps p.tables e below (T6.setTop (mkF m 68 #[.val (.ref y), .val (.int (Int32.ofNat off)), .val (.int vv), .val (.int (Int32.ofNat (Jvm.Free.SBG.digits nn)))] [(.int (Int32.ofNat off)), (.ref y)])) _
    refine XS.iloadN X6.here hx rfl (hb hby own_d_method_5_code_68) rfl ?_
    show Steps p.tables e below (T6.setTop (mkF m 69 #[.val (.ref y), .val (.int (Int32.ofNat off)), .val (.int vv), .val (.int (Int32.ofNat (Jvm.Free.SBG.digits nn)))] [(.int vv), (.int (Int32.ofNat off)), (.ref y)])) _
    refine XS.iloadN X6.here hx rfl (hb hby own_d_method_5_code_69) rfl ?_
    show Steps p.tables e below (T6.setTop (mkF m 70 #[.val (.ref y), .val (.int (Int32.ofNat off)), .val (.int vv), .val (.int (Int32.ofNat (Jvm.Free.SBG.digits nn)))] [(.int (Int32.ofNat (Jvm.Free.SBG.digits nn))), (.int vv), (.int (Int32.ofNat off)), (.ref y)])) _
    refine XS.bipush X6.here hx rfl (hb hby own_d_method_5_code_70) ?_
    show Steps p.tables e below (T6.setTop (mkF m 72 #[.val (.ref y), .val (.int (Int32.ofNat off)), .val (.int vv), .val (.int (Int32.ofNat (Jvm.Free.SBG.digits nn)))] [(.int (6 : Int32)), (.int (Int32.ofNat (Jvm.Free.SBG.digits nn))), (.int vv), (.int (Int32.ofNat off)), (.ref y)])) _
    refine st7 _ ?_
    show Steps p.tables e below (T7.setTop (mkF m 75 #[.val (.ref y), .val (.int (Int32.ofNat off)), .val (.int vv), .val (.int (Int32.ofNat (Jvm.Free.SBG.digits nn)))] [(.int (1 : Int32))])) _
    refine XS.ifNo X7.here hx rfl (hb hby own_d_method_5_code_75) rfl ((if0 _ _).trans (feq (by decide)).1) ?_
    show Steps p.tables e below (T7.setTop (mkF m 78 #[.val (.ref y), .val (.int (Int32.ofNat off)), .val (.int vv), .val (.int (Int32.ofNat (Jvm.Free.SBG.digits nn)))] [])) _
    refine XS.aloadN X7.here hx rfl (hb hby own_d_method_5_code_78) rfl rfl ?_
    show Steps p.tables e below (T7.setTop (mkF m 79 #[.val (.ref y), .val (.int (Int32.ofNat off)), .val (.int vv), .val (.int (Int32.ofNat (Jvm.Free.SBG.digits nn)))] [(.ref y)])) _
    refine XS.iloadN X7.here hx rfl (hb hby own_d_method_5_code_79) rfl ?_
    show Steps p.tables e below (T7.setTop (mkF m 80 #[.val (.ref y), .val (.int (Int32.ofNat off)), .val (.int vv), .val (.int (Int32.ofNat (Jvm.Free.SBG.digits nn)))] [(.int (Int32.ofNat off)), (.ref y)])) _
    refine XS.iloadN X7.here hx rfl (hb hby own_d_method_5_code_80) rfl ?_
    show Steps p.tables e below (T7.setTop (mkF m 81 #[.val (.ref y), .val (.int (Int32.ofNat off)), .val (.int vv), .val (.int (Int32.ofNat (Jvm.Free.SBG.digits nn)))] [(.int vv), (.int (Int32.ofNat off)), (.ref y)])) _
    refine XS.iloadN X7.here hx rfl (hb hby own_d_method_5_code_81) rfl ?_
    show Steps p.tables e below (T7.setTop (mkF m 82 #[.val (.ref y), .val (.int (Int32.ofNat off)), .val (.int vv), .val (.int (Int32.ofNat (Jvm.Free.SBG.digits nn)))] [(.int (Int32.ofNat (Jvm.Free.SBG.digits nn))), (.int vv), (.int (Int32.ofNat off)), (.ref y)])) _
    refine XS.bipush X7.here hx rfl (hb hby own_d_method_5_code_82) ?_
    show Steps p.tables e below (T7.setTop (mkF m 84 #[.val (.ref y), .val (.int (Int32.ofNat off)), .val (.int vv), .val (.int (Int32.ofNat (Jvm.Free.SBG.digits nn)))] [(.int (7 : Int32)), (.int (Int32.ofNat (Jvm.Free.SBG.digits nn))), (.int vv), (.int (Int32.ofNat off)), (.ref y)])) _
    refine st8 _ ?_
    show Steps p.tables e below (T8.setTop (mkF m 87 #[.val (.ref y), .val (.int (Int32.ofNat off)), .val (.int vv), .val (.int (Int32.ofNat (Jvm.Free.SBG.digits nn)))] [(.int (1 : Int32))])) _
    refine XS.ifNo X8.here hx rfl (hb hby own_d_method_5_code_87) rfl ((if0 _ _).trans (feq (by decide)).1) ?_
    show Steps p.tables e below (T8.setTop (mkF m 90 #[.val (.ref y), .val (.int (Int32.ofNat off)), .val (.int vv), .val (.int (Int32.ofNat (Jvm.Free.SBG.digits nn)))] [])) _
    refine XS.aloadN X8.here hx rfl (hb hby own_d_method_5_code_90) rfl rfl ?_
    show Steps p.tables e below (T8.setTop (mkF m 91 #[.val (.ref y), .val (.int (Int32.ofNat off)), .val (.int vv), .val (.int (Int32.ofNat (Jvm.Free.SBG.digits nn)))] [(.ref y)])) _
    refine XS.iloadN X8.here hx rfl (hb hby own_d_method_5_code_91) rfl ?_
    show Steps p.tables e below (T8.setTop (mkF m 92 #[.val (.ref y), .val (.int (Int32.ofNat off)), .val (.int vv), .val (.int (Int32.ofNat (Jvm.Free.SBG.digits nn)))] [(.int (Int32.ofNat off)), (.ref y)])) _
    refine XS.iloadN X8.here hx rfl (hb hby own_d_method_5_code_92) rfl ?_
    show Steps p.tables e below (T8.setTop (mkF m 93 #[.val (.ref y), .val (.int (Int32.ofNat off)), .val (.int vv), .val (.int (Int32.ofNat (Jvm.Free.SBG.digits nn)))] [(.int vv), (.int (Int32.ofNat off)), (.ref y)])) _
    refine XS.iloadN X8.here hx rfl (hb hby own_d_method_5_code_93) rfl ?_
    show Steps p.tables e below (T8.setTop (mkF m 94 #[.val (.ref y), .val (.int (Int32.ofNat off)), .val (.int vv), .val (.int (Int32.ofNat (Jvm.Free.SBG.digits nn)))] [(.int (Int32.ofNat (Jvm.Free.SBG.digits nn))), (.int vv), (.int (Int32.ofNat off)), (.ref y)])) _
    refine XS.bipush X8.here hx rfl (hb hby own_d_method_5_code_94) ?_
    show Steps p.tables e below (T8.setTop (mkF m 96 #[.val (.ref y), .val (.int (Int32.ofNat off)), .val (.int vv), .val (.int (Int32.ofNat (Jvm.Free.SBG.digits nn)))] [(.int (8 : Int32)), (.int (Int32.ofNat (Jvm.Free.SBG.digits nn))), (.int vv), (.int (Int32.ofNat off)), (.ref y)])) _
    refine st9 _ ?_
    show Steps p.tables e below (T9.setTop (mkF m 99 #[.val (.ref y), .val (.int (Int32.ofNat off)), .val (.int vv), .val (.int (Int32.ofNat (Jvm.Free.SBG.digits nn)))] [(.int (1 : Int32))])) _
    refine XS.ifNo X9.here hx rfl (hb hby own_d_method_5_code_99) rfl ((if0 _ _).trans (feq (by decide)).1) ?_
    show Steps p.tables e below (T9.setTop (mkF m 102 #[.val (.ref y), .val (.int (Int32.ofNat off)), .val (.int vv), .val (.int (Int32.ofNat (Jvm.Free.SBG.digits nn)))] [])) _
    refine XS.aloadN X9.here hx rfl (hb hby own_d_method_5_code_102) rfl rfl ?_
    show Steps p.tables e below (T9.setTop (mkF m 103 #[.val (.ref y), .val (.int (Int32.ofNat off)), .val (.int vv), .val (.int (Int32.ofNat (Jvm.Free.SBG.digits nn)))] [(.ref y)])) _
    refine XS.iloadN X9.here hx rfl (hb hby own_d_method_5_code_103) rfl ?_
    show Steps p.tables e below (T9.setTop (mkF m 104 #[.val (.ref y), .val (.int (Int32.ofNat off)), .val (.int vv), .val (.int (Int32.ofNat (Jvm.Free.SBG.digits nn)))] [(.int (Int32.ofNat off)), (.ref y)])) _
    refine XS.iloadN X9.here hx rfl (hb hby own_d_method_5_code_104) rfl ?_
    show Steps p.tables e below (T9.setTop (mkF m 105 #[.val (.ref y), .val (.int (Int32.ofNat off)), .val (.int vv), .val (.int (Int32.ofNat (Jvm.Free.SBG.digits nn)))] [(.int vv), (.int (Int32.ofNat off)), (.ref y)])) _
    refine XS.iloadN X9.here hx rfl (hb hby own_d_method_5_code_105) rfl ?_
    show Steps p.tables e below (T9.setTop (mkF m 106 #[.val (.ref y), .val (.int (Int32.ofNat off)), .val (.int vv), .val (.int (Int32.ofNat (Jvm.Free.SBG.digits nn)))] [(.int (Int32.ofNat (Jvm.Free.SBG.digits nn))), (.int vv), (.int (Int32.ofNat off)), (.ref y)])) _
    refine XS.bipush X9.here hx rfl (hb hby own_d_method_5_code_106) ?_
    show Steps p.tables e below (T9.setTop (mkF m 108 #[.val (.ref y), .val (.int (Int32.ofNat off)), .val (.int vv), .val (.int (Int32.ofNat (Jvm.Free.SBG.digits nn)))] [(.int (9 : Int32)), (.int (Int32.ofNat (Jvm.Free.SBG.digits nn))), (.int vv), (.int (Int32.ofNat off)), (.ref y)])) _
    refine st10 _ ?_
    show Steps p.tables e below (T10.setTop (mkF m 111 #[.val (.ref y), .val (.int (Int32.ofNat off)), .val (.int vv), .val (.int (Int32.ofNat (Jvm.Free.SBG.digits nn)))] [(.int (1 : Int32))])) _
    refine XS.ifNo X10.here hx rfl (hb hby own_d_method_5_code_111) rfl ((if0 _ _).trans (feq (by decide)).1) ?_
    show Steps p.tables e below (T10.setTop (mkF m 114 #[.val (.ref y), .val (.int (Int32.ofNat off)), .val (.int vv), .val (.int (Int32.ofNat (Jvm.Free.SBG.digits nn)))] [])) _
    refine XS.iconst X10.here hx rfl (hb hby own_d_method_5_code_114) ?_
    show Steps p.tables e below (T10.setTop (mkF m 115 #[.val (.ref y), .val (.int (Int32.ofNat off)), .val (.int vv), .val (.int (Int32.ofNat (Jvm.Free.SBG.digits nn)))] [(.int (1 : Int32))])) _
    refine XS.goto X10.here hx rfl (pc0 := 115) (pc' := 119) rfl (hb hby own_d_method_5_code_115) (by decide) (by decide) ?_
    show Steps p.tables e below (T10.setTop (mkF m 119 #[.val (.ref y), .val (.int (Int32.ofNat off)), .val (.int vv), .val (.int (Int32.ofNat (Jvm.Free.SBG.digits nn)))] [(.int (1 : Int32))])) _
    exact retN X10 hx (t := .boolean) Bd.returns (by simp) (hb hby own_d_method_5_code_119) hr
  · show Q_own_number Z y ty ky ds off vv nn gCS gFM h0 n0 _ T10.heap _
    rw [hh10]
    exact ⟨rfl, N10, rfl⟩
theorem own_pn_own_rlin : plainName "com/example/myna/myna/limits/RateLimit" = true := by first | (simp [plainName, overriddenIn]; done) | decide +kernel
theorem own_ef_own_rlin (m : MethodId) (a : Addr) (v1 : Int32) (v2 : Int32) : entryFrame m #[(.ref a), (.int v1), (.int v2)] 3 = mkF m 0 #[.val (.ref a), .val (.int v1), .val (.int v2)] [] := by first | (simp [entryFrame, mkF, argsToLocals, own_cI, own_cJ, own_cR, own_cN]; done) | rfl
abbrev own_F_own_rlin (m : MethodId) (a : Addr) (v1 : Int32) (v2 : Int32) : JFrame := entryFrame m #[(.ref a), (.int v1), (.int v2)] 3
def Q_own_rlin (Z : State) (a : Addr) (v1 : Int32) (v2 : Int32) (h0 : Heap) (n0 : Nat) (v : Option Value) (h : Heap) (L : List Loc) : Prop := v = none ∧ Fr n0 L ∧ Keep h0 h [a] ∧ (Fld Z h a "com/example/myna/myna/limits/RateLimit" "requests" "I" (.int v1)) ∧ (Fld Z h a "com/example/myna/myna/limits/RateLimit" "seconds" "I" (.int v2))
set_option maxRecDepth 65536 in
set_option maxHeartbeats 40000000 in
theorem own_rlin (l : Launch) (Z : State) (a0 : Array Value) (hw : ∀ d ∈ tables_1, d.before a0 Z = true) (ws : List Jvm.Cond) (a : Addr) (v1 : Int32) (v2 : Int32) (h0 : Heap) (n0 : Nat) (O0 : Old Z n0 h0) (hp0 : Exa Z h0 a "com/example/myna/myna/limits/RateLimit") (hp1 : n0 ≤ a) (hp2 : Fld Z h0 a "com/example/myna/myna/limits/RateLimit" "requests" "I" (.int (0 : Int32))) (hp3 : Fld Z h0 a "com/example/myna/myna/limits/RateLimit" "seconds" "I" (.int (0 : Int32))) (hr1 : ¬ v1 < (1 : Int32)) (hr2 : ¬ v2 < (1 : Int32)) :
    MetFree l (⟨"com/example/myna/myna/limits/RateLimit", "<init>", "(II)V"⟩ : MethodName) (head1 (Jvm.Cond.code (⟨"com/example/myna/myna/limits/RateLimit", "<init>", "(II)V"⟩ : MethodName) prog_14_method_1_code 3 none :: ws) ({ frames := 2, cells := 0, slots := 0, locals := 24 } : Room)) (fun aa_ U_ => aa_ = #[(.ref a), (.int v1), (.int v2)] ∧ Z.Warmed39 U_.vm ∧ U_.heap = h0) (fun _ _ _ _ _ => True) (fun _ U_ o_ V_ => ∃ v_ L_, o_ = .returned v_ ∧ Q_own_rlin Z a v1 v2 h0 n0 v_ V_.heap L_ ∧ FrameEnd U_ o_ V_ L_ ({ frames := 2, cells := 0, slots := 0, locals := 24 } : Room).cells ({ frames := 2, cells := 0, slots := 0, locals := 24 } : Room).slots) := by
  refine MetFree.of_bodySF (plainFor_of_name own_pn_own_rlin) hisR ?_
  intro p e s m args below meth c s₁ Bd hml0 hP hK
  obtain ⟨rfl, hZ, hh⟩ := hP
  have hx := Bd.exec
  have hby := Bd.bytes
  have hml : c.maxLocals = 3 := hml0
  have hown : s.vm.findClass "com/example/myna/myna/limits/RateLimit" = some m.cls := findClass_of_methodNamed Bd.named
  have hnm := (name_of_methodNamed Bd.named Bd.method).1
  have X0 : Stand p l e ({ frames := 2, cells := 0, slots := 0, locals := 24 } : Room) s m #[(.ref a), (.int v1), (.int v2)] below meth c s₁ [] 0 0 := Stand.of_body Bd
  have e0 : s₁.heap = h0 := by rw [← hh, Bd.state]; rfl
  have N0 := Fr.nil n0
  have K0 : Keep h0 h0 [a] := Keep.refl _ _
  have r0 : GoTo p.tables e below s₁ (own_F_own_rlin m a v1 v2) s₁ (mkF m 0 #[.val (.ref a), .val (.int v1), .val (.int v2)] []) := fun tt_ kk_ => castTop (own_ef_own_rlin m a v1 v2) kk_
  obtain ⟨_, _, ⟨T1, L1, k1, n1⟩, -, X1, ⟨Lc1, hQ1, l1, y1, z1⟩, st1⟩ := X0.specialBack hx (y := (⟨"java/lang/Record", "<init>", "()V"⟩ : MethodName)) rfl hown (mvT hZ (hw _ (List.mem_of_getElem? (i := 7) rfl))) (mvT hZ (hw _ (List.mem_of_getElem? (i := 8) rfl))) (mvT hZ (hw _ (List.mem_of_getElem? (i := 11) rfl))) (by decide) (backOf (W := 0) (own_rec l Z a0 hw [] (a) h0 n0 (O0.keep K0 (allS hp1 all0))) hZ (hw _ (List.mem_of_getElem? (i := 11) rfl)) (hw _ (List.mem_of_getElem? (i := 10) rfl)) (by decide) (by decide)) (g := (mkF m 1 #[.val (.ref a), .val (.int v1), .val (.int v2)] [(.ref a)])) rfl (by rw [hml]; rfl) (Steps.refl _) (a := a) (argsL := []) (rest := []) (lenOf own_pd23 rfl) rfl (by show 2 * 0 + _ ≤ _; exact Nat.le_of_eq rfl) (hb hby own_d_prog_14_method_1_code_1) (fun _ _ => ⟨rfl, e0, (by decide : 0 + 0 ≤ _), (by decide : 0 + 0 ≤ _)⟩)
  dsimp only [Pt.U, Pt.locs, Pt.cells, Pt.slots] at X1 l1 y1 z1 st1 hQ1
  subst l1 y1 z1
  obtain ⟨rfl, Nq1, hh1⟩ := hQ1
  have N1 := Fr.app N0 Nq1
  obtain ⟨T2, h2, X2, e2, W2, st2⟩ := putF X1 hx hZ hown (host := "") (Or.inl (hw _ (List.mem_of_getElem? (i := 15) rfl))) Via.refl hh1 hp2 hp0 (Or.inr ⟨(hw _ (List.mem_of_getElem? (i := 16) rfl)), rfl, hnm⟩) (hw _ (List.mem_of_getElem? (i := 2) rfl)) (ty := .int) (by decide) rfl rfl (g := (mkF m 26 #[.val (.ref a), .val (.int v1), .val (.int v2)] [(.int v1), (.ref a)])) rfl rfl (hb hby own_d_prog_14_method_1_code_26)
  have K3 : Keep h0 h2 [a] := K0.wr W2 (Or.inl (List.mem_of_getElem? (i := 0) rfl))
  have Fw2 : Fld Z h2 a "com/example/myna/myna/limits/RateLimit" "requests" "I" (.int v1) := hp2.same W2
  have N2 := Fr.snoc X2 N1 hp1
  have f4 : Fld Z h2 a "com/example/myna/myna/limits/RateLimit" "seconds" "I" (.int (0 : Int32)) := (hp3.other W2 (Or.inr (Jvm.RoadKit.slot_ne (Or.inr (hw _ (List.mem_of_getElem? (i := 18) rfl))) (Or.inr (hw _ (List.mem_of_getElem? (i := 16) rfl))) (by decide) (t := .int) (t' := .int) (by decide) (by decide))))
  have f5 : Exa Z h2 a "com/example/myna/myna/limits/RateLimit" := (hp0.wr W2)
  obtain ⟨T6, h6, X6, e6, W6, st6⟩ := putF X2 hx hZ hown (host := "") (Or.inl (hw _ (List.mem_of_getElem? (i := 17) rfl))) Via.refl e2 f4 f5 (Or.inr ⟨(hw _ (List.mem_of_getElem? (i := 18) rfl)), rfl, hnm⟩) (hw _ (List.mem_of_getElem? (i := 2) rfl)) (ty := .int) (by decide) rfl rfl (g := (mkF m 31 #[.val (.ref a), .val (.int v1), .val (.int v2)] [(.int v2), (.ref a)])) rfl rfl (hb hby own_d_prog_14_method_1_code_31)
  have K7 : Keep h0 h6 [a] := K3.wr W6 (Or.inl (List.mem_of_getElem? (i := 0) rfl))
  have Fw6 : Fld Z h6 a "com/example/myna/myna/limits/RateLimit" "seconds" "I" (.int v2) := f4.same W6
  have N6 := Fr.snoc X6 N2 hp1
  obtain ⟨fs, hr, hrun, hended, hW, hsame⟩ := X6.leave (v := none) (fun _ => rfl)
  refine ⟨_, _, r0 _ ?_, hrun, hended, _, _, rfl, ?_, ⟨_, rfl⟩, hW, hsame.mono (by decide) (by decide)⟩
  · show Steps p.tables e below (s₁.setTop (mkF m 0 #[.val (.ref a), .val (.int v1), .val (.int v2)] [])) _
    refine XS.aloadN X0.here hx rfl (hb hby own_d_prog_14_method_1_code_0) rfl rfl ?_
    show Steps p.tables e below (s₁.setTop (mkF m 1 #[.val (.ref a), .val (.int v1), .val (.int v2)] [(.ref a)])) _
    refine st1.trans ?_
    show Steps p.tables e below (T1.setTop (mkF m 4 #[.val (.ref a), .val (.int v1), .val (.int v2)] [])) _
    refine XS.iloadN X1.here hx rfl (hb hby own_d_prog_14_method_1_code_4) rfl ?_
    show Steps p.tables e below (T1.setTop (mkF m 5 #[.val (.ref a), .val (.int v1), .val (.int v2)] [(.int v1)])) _
    refine XS.iconst X1.here hx rfl (hb hby own_d_prog_14_method_1_code_5) ?_
    show Steps p.tables e below (T1.setTop (mkF m 6 #[.val (.ref a), .val (.int v1), .val (.int v2)] [(.int (1 : Int32)), (.int v1)])) _
    refine XS.icmpNo X1.here hx rfl (hb hby own_d_prog_14_method_1_code_6) rfl (flt hr1).1 ?_
    show Steps p.tables e below (T1.setTop (mkF m 9 #[.val (.ref a), .val (.int v1), .val (.int v2)] [])) _
    refine XS.iloadN X1.here hx rfl (hb hby own_d_prog_14_method_1_code_9) rfl ?_
    show Steps p.tables e below (T1.setTop (mkF m 10 #[.val (.ref a), .val (.int v1), .val (.int v2)] [(.int v2)])) _
    refine XS.iconst X1.here hx rfl (hb hby own_d_prog_14_method_1_code_10) ?_
    show Steps p.tables e below (T1.setTop (mkF m 11 #[.val (.ref a), .val (.int v1), .val (.int v2)] [(.int (1 : Int32)), (.int v2)])) _
    refine XS.icmpYes X1.here hx rfl (pc0 := 11) (pc' := 24) rfl (hb hby own_d_prog_14_method_1_code_11) rfl (flt hr2).2.1 (by decide) (by decide) ?_
    show Steps p.tables e below (T1.setTop (mkF m 24 #[.val (.ref a), .val (.int v1), .val (.int v2)] [])) _
    refine XS.aloadN X1.here hx rfl (hb hby own_d_prog_14_method_1_code_24) rfl rfl ?_
    show Steps p.tables e below (T1.setTop (mkF m 25 #[.val (.ref a), .val (.int v1), .val (.int v2)] [(.ref a)])) _
    refine XS.iloadN X1.here hx rfl (hb hby own_d_prog_14_method_1_code_25) rfl ?_
    show Steps p.tables e below (T1.setTop (mkF m 26 #[.val (.ref a), .val (.int v1), .val (.int v2)] [(.int v1), (.ref a)])) _
    refine st2 _ ?_
    show Steps p.tables e below (T2.setTop (mkF m 29 #[.val (.ref a), .val (.int v1), .val (.int v2)] [])) _
    refine XS.aloadN X2.here hx rfl (hb hby own_d_prog_14_method_1_code_29) rfl rfl ?_
    show Steps p.tables e below (T2.setTop (mkF m 30 #[.val (.ref a), .val (.int v1), .val (.int v2)] [(.ref a)])) _
    refine XS.iloadN X2.here hx rfl (hb hby own_d_prog_14_method_1_code_30) rfl ?_
    show Steps p.tables e below (T2.setTop (mkF m 31 #[.val (.ref a), .val (.int v1), .val (.int v2)] [(.int v2), (.ref a)])) _
    refine st6 _ ?_
    show Steps p.tables e below (T6.setTop (mkF m 34 #[.val (.ref a), .val (.int v1), .val (.int v2)] [])) _
    exact X6.returnOut hx Bd.returns (hb hby own_d_prog_14_method_1_code_34) hr
  · show Q_own_rlin Z a v1 v2 h0 n0 _ T6.heap _
    rw [e6]
    have f8 : Fld Z h6 a "com/example/myna/myna/limits/RateLimit" "requests" "I" (.int v1) := (Fw2.other W6 (Or.inr (Jvm.RoadKit.slot_ne (Or.inr (hw _ (List.mem_of_getElem? (i := 16) rfl))) (Or.inr (hw _ (List.mem_of_getElem? (i := 18) rfl))) (by decide) (t := .int) (t' := .int) (by decide) (by decide))))
    exact ⟨rfl, N6, K7, f8, Fw6⟩
theorem own_pn_own_rts : plainName "com/example/myna/myna/limits/RateLimit" = true := by first | (simp [plainName, overriddenIn]; done) | decide +kernel
theorem own_ef_own_rts (m : MethodId) (a : Addr) : entryFrame m #[(.ref a)] 1 = mkF m 0 #[.val (.ref a)] [] := by first | (simp [entryFrame, mkF, argsToLocals, own_cI, own_cJ, own_cR, own_cN]; done) | rfl
abbrev own_F_own_rts (m : MethodId) (a : Addr) : JFrame := entryFrame m #[(.ref a)] 1
def Q_own_rts (Z : State) (a : Addr) (v1 : Int32) (v2 : Int32) (n1 : Nat) (n2 : Nat) (gCS : Int32) (ist : Addr) (dt1 : Addr) (dt2 : Addr) (cD1 : Cell) (cD2 : Cell) (h0 : Heap) (n0 : Nat) (v : Option Value) (h : Heap) (L : List Loc) : Prop := ∃ (x : Addr), ∃ (t : Addr), ∃ (kt : ClassId), v = some (.ref x) ∧ Fr n0 L ∧ Keep h0 h [] ∧ (h0.size ≤ x) ∧ (h0.size ≤ t) ∧ (t ≠ x) ∧ (own_Str Z h x t kt ((([] ++ own_dec n1) ++ [47]) ++ own_dec n2))
set_option maxRecDepth 65536 in
set_option maxHeartbeats 40000000 in
theorem own_rts (l : Launch) (Z : State) (a0 : Array Value) (hw : ∀ d ∈ tables_1, d.before a0 Z = true) (ws : List Jvm.Cond) (a : Addr) (v1 : Int32) (v2 : Int32) (n1 : Nat) (n2 : Nat) (gCS : Int32) (ist : Addr) (dt1 : Addr) (dt2 : Addr) (cD1 : Cell) (cD2 : Cell) (h0 : Heap) (n0 : Nat) (O0 : Old Z n0 h0) (hp0 : Exa Z h0 a "com/example/myna/myna/limits/RateLimit") (hp1 : Fld Z h0 a "com/example/myna/myna/limits/RateLimit" "requests" "I" (.int v1)) (hp2 : Fld Z h0 a "com/example/myna/myna/limits/RateLimit" "seconds" "I" (.int v2)) (hv1 : v1.toInt = n1) (hv2 : v2.toInt = n2) (hp5 : Sta Z Z.heap "java/lang/String" "COMPACT_STRINGS" "Z" (.int gCS)) (hG1 : ¬ gCS = (0 : Int32)) (hT1 : Jvm.Free.SBG.Tbl Z "DigitOnes" ist dt1 cD1) (hT2 : Jvm.Free.SBG.Tbl Z "DigitTens" ist dt2 cD2) (hO1 : Jvm.Free.SBG.Ones cD1) (hO2 : Jvm.Free.SBG.Tens cD2) (hp11 : ist < n0) (hp12 : dt1 < n0) (hp13 : dt2 < n0) (hD1 : Z.heap[dt1]? = some cD1) (hD2 : Z.heap[dt2]? = some cD2) (hEL : EW Z a0 consts_1) :
    MetFree l (⟨"com/example/myna/myna/limits/RateLimit", "toString", "()Ljava/lang/String;"⟩ : MethodName) (head1 (Jvm.Cond.code (⟨"com/example/myna/myna/limits/RateLimit", "toString", "()Ljava/lang/String;"⟩ : MethodName) prog_14_method_3_code 1 (some (.object "java/lang/String")) :: ws) ({ frames := 6, cells := 9, slots := 832, locals := 106 } : Room)) (fun aa_ U_ => aa_ = #[(.ref a)] ∧ Z.Warmed39 U_.vm ∧ U_.heap = h0 ∧ CHv Z consts_1 U_.vm h0) (fun _ _ _ _ _ => True) (fun _ U_ o_ V_ => ∃ v_ L_, o_ = .returned v_ ∧ Q_own_rts Z a v1 v2 n1 n2 gCS ist dt1 dt2 cD1 cD2 h0 n0 v_ V_.heap L_ ∧ CHr Z consts_1 U_.vm U_.heap V_.vm V_.heap ∧ ReturnedEndW U_ o_ V_ L_ ({ frames := 6, cells := 9, slots := 832, locals := 106 } : Room).cells ({ frames := 6, cells := 9, slots := 832, locals := 106 } : Room).slots) := by
  refine MetFree.of_bodySF (plainFor_of_name own_pn_own_rts) hisR ?_
  intro p e s m args below meth c s₁ Bd hml0 hP hK
  obtain ⟨rfl, hZ, hh, hC0⟩ := hP
  have hx := Bd.exec
  have hby := Bd.bytes
  have hml : c.maxLocals = 1 := hml0
  have hown : s.vm.findClass "com/example/myna/myna/limits/RateLimit" = some m.cls := findClass_of_methodNamed Bd.named
  have hnm := (name_of_methodNamed Bd.named Bd.method).1
  have X0 : Stand p l e ({ frames := 6, cells := 9, slots := 832, locals := 106 } : Room) s m #[(.ref a)] below meth c s₁ [] 0 0 := Stand.of_body Bd
  have e0 : s₁.heap = h0 := by rw [← hh, Bd.state]; rfl
  have N0 := Fr.nil n0
  have hS0 : s.Since s.vm 0 := (State.WarmedH.refl s).since 0
  have CA0 : CHr Z consts_1 s.vm h0 s.vm h0 := CHr.refl hC0
  have KA0 : Keep h0 h0 [] := Keep.refl _ _
  have K0 : Keep h0 h0 [] := Keep.refl _ _
  have r0 : GoTo p.tables e below s₁ (own_F_own_rts m a) s₁ (mkF m 0 #[.val (.ref a)] []) := fun tt_ kk_ => castTop (own_ef_own_rts m a) kk_
  have hd1 := Jvm.Free.SBG.digits_pos n1
  have hd2 := Jvm.Free.SBG.digits_pos n2
  have hl1 : (([] : List Int32) ++ own_dec n1).length = Jvm.Free.SBG.digits n1 := by rw [List.nil_append, own_dec_len]
  have hl2 : ((([] : List Int32) ++ own_dec n1) ++ [47]).length = Jvm.Free.SBG.digits n1 + 1 := by rw [List.length_append, hl1]; rfl
  have hl3 : (((([] ++ own_dec n1) ++ [47]) ++ own_dec n2) : List Int32).length = Jvm.Free.SBG.digits n1 + 1 + Jvm.Free.SBG.digits n2 := by rw [List.length_append, hl2, own_dec_len]
  have hl0 : ([] : List Int32).length = 0 := rfl
  have hls : ([47] : List Int32).length = 1 := rfl
  obtain ⟨T1, h1, X1, e1, E1, A1, D1, -, st1⟩ := newO X0 hx hZ hown (hw _ (List.mem_of_getElem? (i := 24) rfl)) (hw _ (List.mem_of_getElem? (i := 25) rfl)) (hw _ (List.mem_of_getElem? (i := 26) rfl)) e0 (g := (mkF m 0 #[.val (.ref a)] [])) rfl (hb hby own_d_prog_14_method_3_code_0) (by decide) (by decide)
  obtain ⟨b1, gg1⟩ : ∃ z, z = h0.size := ⟨_, rfl⟩
  rw [← gg1] at A1 D1 st1
  have ne2 : a ≠ b1 := Nat.ne_of_lt (Nat.lt_of_lt_of_le hp0.lt (Nat.le_of_eq gg1.symm))
  have g3 : n0 ≤ b1 := Nat.le_trans (Nat.le_trans (own_le O0) K0.1) (Nat.le_of_eq gg1.symm)
  have b4 : h0.size ≤ b1 := Nat.le_trans K0.1 (Nat.le_of_eq gg1.symm)
  have K5 : Keep h0 h1 [] := K0.ext E1
  obtain ⟨_, _, ⟨T6, L6, k6, n6⟩, -, X6, ⟨Lc6, hQ6, l6, y6, z6⟩, st6⟩ := X1.specialBack hx (y := (⟨"java/lang/StringBuilder", "<init>", "()V"⟩ : MethodName)) rfl hown (mvT hZ (hw _ (List.mem_of_getElem? (i := 27) rfl))) (mvT hZ (hw _ (List.mem_of_getElem? (i := 28) rfl))) (mvT hZ (hw _ (List.mem_of_getElem? (i := 29) rfl))) (by decide) (backOf (W := 1) (own_sbinit l Z a0 hw [] (b1) (gCS) h1 n0 (O0.keep K5 all0) (A1) (g3) ((D1 (Or.inl (hw _ (List.mem_of_getElem? (i := 41) rfl))) (ty := (.array .byte)) (by decide))) ((D1 (Or.inl (hw _ (List.mem_of_getElem? (i := 43) rfl))) (ty := .byte) (by decide))) ((D1 (Or.inl (hw _ (List.mem_of_getElem? (i := 55) rfl))) (ty := .int) (by decide))) (hp5) (hG1)) hZ (hw _ (List.mem_of_getElem? (i := 29) rfl)) (hw _ (List.mem_of_getElem? (i := 26) rfl)) (by decide) (by decide)) (g := (mkF m 4 #[.val (.ref a)] [(.ref b1), (.ref b1)])) rfl (by rw [hml]; rfl) (Steps.refl _) (a := b1) (argsL := []) (rest := [(.ref b1)]) (lenOf own_pd23 rfl) rfl (by show 2 * 0 + _ ≤ _; exact Nat.le_of_eq rfl) (hb hby own_d_prog_14_method_3_code_4) (fun _ _ => ⟨rfl, e1, (by decide : 1 + 1 ≤ _), (by decide : 4 + 16 ≤ _)⟩)
  dsimp only [Pt.U, Pt.locs, Pt.cells, Pt.slots] at X6 l6 y6 z6 st6 hQ6
  subst l6 y6 z6
  obtain ⟨d_6, kd_6, rfl, Nq6, Kq6, po6_0, po6_1, po6_2⟩ := hQ6
  have N6 := Fr.app N0 Nq6
  have ne7 : a ≠ d_6 := Nat.ne_of_lt (Nat.lt_of_lt_of_le (Nat.lt_of_lt_of_le hp0.lt E1.1) po6_0)
  have ne8 : b1 ≠ d_6 := Nat.ne_of_lt (Nat.lt_of_lt_of_le A1.lt po6_0)
  have g9 : n0 ≤ d_6 := Nat.le_trans (Nat.le_trans (own_le O0) K5.1) po6_0
  have b10 : h0.size ≤ d_6 := Nat.le_trans K5.1 po6_0
  have K11 : Keep h0 T6.heap [] := K5.trans Kq6 (allS (Or.inr b4) all0)
  have f12 : Fld Z T6.heap a "com/example/myna/myna/limits/RateLimit" "requests" "I" (.int v1) := ((hp1.ext E1).keep Kq6 (ninS ne2 nin0))
  obtain ⟨T13, X13, e13, st13⟩ := getF X6 hx hZ hown (host := "") (Or.inl (hw _ (List.mem_of_getElem? (i := 15) rfl))) Via.refl rfl f12 (g := (mkF m 8 #[.val (.ref a)] [(.ref a), (.ref b1)])) rfl rfl (hb hby own_d_prog_14_method_3_code_8)
  obtain ⟨cq14, kq14, qa14, qb14, qc14⟩ := isOf hZ e13 po6_2.1
  obtain ⟨_, _, ⟨T14, L14, k14, n14⟩, -, X14, ⟨Lc14, hQ14, l14, y14, z14⟩, st14⟩ := X13.virtualBack hx (y := (⟨"java/lang/StringBuilder", "append", "(I)Ljava/lang/StringBuilder;"⟩ : MethodName)) (z := (⟨"java/lang/StringBuilder", "append", "(I)Ljava/lang/StringBuilder;"⟩ : MethodName)) hown (mvT hZ (hw _ (List.mem_of_getElem? (i := 44) rfl))) (mvT hZ (hw _ (List.mem_of_getElem? (i := 45) rfl))) (notFace_of_selects (args := #[]) (mvT hZ (hw _ (List.mem_of_getElem? (i := 47) rfl)))) (mvT hZ (hw _ (List.mem_of_getElem? (i := 47) rfl))) (mvT hZ (hw _ (List.mem_of_getElem? (i := 46) rfl))) (by decide) (backOf (W := 0) (own_appI l Z a0 hw [] (b1) (d_6) (kd_6) (16) (([] : List Int32)) (v1) (n1) (gCS) (ist) (dt1) (dt2) (cD1) (cD2) T6.heap n0 (O0.keep K11 all0) (po6_2) (g3) (po6_1) (hv1) (by decide) (by intro q; rw [hl0] at q; omega) (by decide) (hp5) (hG1) (hT1) (hT2) (hO1) (hO2) (hp11) (hp12) (hp13) (hD1) (hD2)) hZ (hw _ (List.mem_of_getElem? (i := 48) rfl)) (hw _ (List.mem_of_getElem? (i := 26) rfl)) (by decide) (by decide)) qa14 qc14 (g := (mkF m 11 #[.val (.ref a)] [(.int v1), (.ref b1)])) rfl (by rw [hml]; rfl) (Steps.refl _) (argsL := [(.int v1)]) (rest := []) (lenOf own_pd24 rfl) rfl (by show 2 * 0 + _ ≤ _; exact Nat.le_of_eq rfl) (hb hby own_d_prog_14_method_3_code_11) (fun _ _ => ⟨rfl, e13, (by decide : 2 + 1 ≤ _), (by decide : 20 + 200 ≤ _)⟩)
  dsimp only [Pt.U, Pt.locs, Pt.cells, Pt.slots] at X14 l14 y14 z14 st14 hQ14
  subst l14 y14 z14
  obtain ⟨d2_14, k2_14, N2_14, rfl, Nq14, Kq14, po14_0, po14_1, po14_2, po14_3⟩ := hQ14
  have N14 := Fr.app N6 Nq14
  have ne15 : a ≠ d2_14 := own_orne po14_0 ne7 (Nat.lt_of_lt_of_le hp0.lt (Nat.le_trans E1.1 Kq6.1))
  have ne16 : b1 ≠ d2_14 := own_orne po14_0 ne8 (Nat.lt_of_lt_of_le A1.lt Kq6.1)
  have g17 : n0 ≤ d2_14 := own_orle po14_0 po6_1 (Nat.le_trans (own_le O0) K11.1)
  have b18 : h0.size ≤ d2_14 := own_orle po14_0 b10 K11.1
  have K19 : Keep h0 T14.heap [] := K11.trans Kq14 (allS (Or.inr b4) (allS (Or.inr b10) all0))
  have hA := po14_3
  have r20 : GoTo p.tables e below s₁ (own_F_own_rts m a) T14 (mkF m 14 #[.val (.ref a)] [(.ref b1)]) := fun tt_ kk_ => r0 tt_ (by
      show Steps p.tables e below (s₁.setTop (mkF m 0 #[.val (.ref a)] [])) _
      refine st1 _ ?_
      show Steps p.tables e below (T1.setTop (mkF m 3 #[.val (.ref a)] [(.ref b1)])) _
      refine XS.dup X1.here hx rfl (hb hby own_d_prog_14_method_3_code_3) rfl rfl ?_
      show Steps p.tables e below (T1.setTop (mkF m 4 #[.val (.ref a)] [(.ref b1), (.ref b1)])) _
      refine st6.trans ?_
      show Steps p.tables e below (T6.setTop (mkF m 7 #[.val (.ref a)] [(.ref b1)])) _
      refine XS.aloadN X6.here hx rfl (hb hby own_d_prog_14_method_3_code_7) rfl rfl ?_
      show Steps p.tables e below (T6.setTop (mkF m 8 #[.val (.ref a)] [(.ref a), (.ref b1)])) _
      refine st13 _ ?_
      show Steps p.tables e below (T13.setTop (mkF m 11 #[.val (.ref a)] [(.int v1), (.ref b1)])) _
      refine st14.trans ?_
      show Steps p.tables e below (T14.setTop (mkF m 14 #[.val (.ref a)] [(.ref b1)])) _
      exact kk_)
  have C21 : CHr Z consts_1 s.vm h0 s.vm T14.heap := CHr.keep K19 all0 hC0
  have Sf22 : Safe Z consts_1 s.vm T14.heap b1 := Safe.keep K19 all0 hC0 (Safe.new b4)
  have lt23 : b1 < T14.heap.size := (Nat.lt_of_lt_of_le A1.lt (Nat.le_trans Kq6.1 Kq14.1))
  have Sf24 : Safe Z consts_1 s.vm T14.heap d_6 := Safe.keep K19 all0 hC0 (Safe.new b10)
  have lt25 : d_6 < T14.heap.size := (Nat.lt_of_lt_of_le po6_2.2.2.2.2.1.lt Kq14.1)
  have Sf26 : Safe Z consts_1 s.vm T14.heap d2_14 := Safe.keep K19 all0 hC0 (Safe.new b18)
  have lt27 : d2_14 < T14.heap.size := po14_2.2.2.2.2.1.lt
  obtain ⟨a28, T28, h28, k28, t28, kb28, X28, e28, E28, hS28, hk28, hZ, hown, Ea28, Fc28, Fv28, Av28, la28, lb28, CC28, -, hne28, st28⟩ := ldcCH (s := s) (vm0 := s.vm) X14 hx hZ hown (hw _ (List.mem_of_getElem? (i := 74) rfl)) (fun d hd => hw d (own_in_sa d hd)) rfl hS0 (Nat.le_trans (Nat.zero_le _) K19.1) hEL (List.mem_of_getElem? (i := 0) rfl) C21.1 (vs := ((([47] : List Int32).map fun c => c.toInt8.toInt32).map Value.int)) (z := Int32.ofNat ([47] : List Int32).length) (by refine ⟨by decide, ?_⟩; first | rfl | decide +kernel) (by decide) (by decide) (g := (mkF m 14 #[.val (.ref a)] [(.ref b1)])) rfl (hb hby own_d_prog_14_method_3_code_14) (n := 4) (by decide) (by decide) (by decide) (by decide)
  have K29 : Keep h0 h28 [] := K19.ext E28
  have bz30 : h0.size ≤ b1 := Nat.le_trans KA0.1 b4
  have bz31 : h0.size ≤ d_6 := Nat.le_trans KA0.1 b10
  have bz32 : h0.size ≤ d2_14 := Nat.le_trans KA0.1 b18
  have CA33 : CHr Z consts_1 s.vm h0 T28.vm h28 := (CA0.trans C21).trans CC28
  have KA34 : Keep h0 h28 [] := KA0.trans K29 all0
  have O35 : Old Z n0 h28 := (O0.keep K29 all0)
  have Sf36 : Safe Z consts_1 T28.vm h28 b1 := CHr.safe CC28 lt23 Sf22
  have Sf37 : Safe Z consts_1 T28.vm h28 d_6 := CHr.safe CC28 lt25 Sf24
  have Sf38 : Safe Z consts_1 T28.vm h28 d2_14 := CHr.safe CC28 lt27 Sf26
  have K39 : Keep h28 h28 [b1, d_6, d2_14] := Keep.refl _ _
  have Sr28 : own_Str Z h28 a28 t28 kb28 ([47] : List Int32) := ⟨Ea28, Fv28, Fc28, Av28, own_allC (by decide) (own_all0), by decide⟩
  have f40 : own_SB Z h28 b1 d2_14 k2_14 N2_14 (([] : List Int32) ++ own_dec n1) := (po14_2.ext E28)
  have f42 : Exa Z h28 b1 "java/lang/StringBuilder" := (po14_2.1.ext E28)
  obtain ⟨cq41, kq41, qa41, qb41, qc41⟩ := isOf hZ e28 f42
  obtain ⟨_, _, ⟨T41, L41, k41, n41⟩, -, X41, ⟨Lc41, hQ41, l41, y41, z41⟩, st41⟩ := X28.virtualBack hx (y := (⟨"java/lang/StringBuilder", "append", "(Ljava/lang/String;)Ljava/lang/StringBuilder;"⟩ : MethodName)) (z := (⟨"java/lang/StringBuilder", "append", "(Ljava/lang/String;)Ljava/lang/StringBuilder;"⟩ : MethodName)) hown (mvT hZ (hw _ (List.mem_of_getElem? (i := 80) rfl))) (mvT hZ (hw _ (List.mem_of_getElem? (i := 81) rfl))) (notFace_of_selects (args := #[]) (mvT hZ (hw _ (List.mem_of_getElem? (i := 83) rfl)))) (mvT hZ (hw _ (List.mem_of_getElem? (i := 83) rfl))) (mvT hZ (hw _ (List.mem_of_getElem? (i := 82) rfl))) (by decide) (backOf (W := 0) (own_appS l Z a0 hw [] (b1) (d2_14) (k2_14) (N2_14) ((([] : List Int32) ++ own_dec n1)) (a28) (t28) (kb28) (([47] : List Int32)) (gCS) h28 n0 (O35.keep K39 (allS g3 (allS po6_1 (allS po14_1 all0)))) (f40) (g3) (po14_1) (Sr28) ((Ne.symm (hne28 _ Sf36).1)) ((Ne.symm (hne28 _ Sf38).1)) ((Ne.symm (hne28 _ Sf36).2)) ((Ne.symm (hne28 _ Sf38).2)) (by omega) (by intro q; rw [hl1, hls] at q; omega) (by omega) (hp5) (hG1)) hZ (hw _ (List.mem_of_getElem? (i := 84) rfl)) (hw _ (List.mem_of_getElem? (i := 26) rfl)) (by decide) (by decide)) qa41 qc41 (g := (mkF m 16 #[.val (.ref a)] [(.ref a28), (.ref b1)])) rfl (by rw [hml]; rfl) (Steps.refl _) (argsL := [(.ref a28)]) (rest := []) (lenOf own_pd25 rfl) rfl (by show 2 * 0 + _ ≤ _; exact Nat.le_of_eq rfl) (hb hby own_d_prog_14_method_3_code_16) (fun _ _ => ⟨rfl, e28, (by decide : 5 + 1 ≤ _), (by decide : 228 + 200 ≤ _)⟩)
  dsimp only [Pt.U, Pt.locs, Pt.cells, Pt.slots] at X41 l41 y41 z41 st41 hQ41
  subst l41 y41 z41
  obtain ⟨d2_41, k2_41, N2_41, rfl, Nq41, Kq41, po41_0, po41_1, po41_2, po41_3⟩ := hQ41
  have N41 := Fr.app N14 Nq41
  have ne43 : a ≠ d2_41 := own_orne po41_0 ne15 (Nat.lt_of_lt_of_le hp0.lt (Nat.le_trans (Nat.le_trans (Nat.le_trans E1.1 Kq6.1) Kq14.1) E28.1))
  have ne44 : b1 ≠ d2_41 := own_orne po41_0 ne16 (Nat.lt_of_lt_of_le A1.lt (Nat.le_trans (Nat.le_trans Kq6.1 Kq14.1) E28.1))
  have ne45 : a28 ≠ d2_41 := own_orne po41_0 (Ne.symm (hne28 _ Sf38).1) Sr28.1.lt
  have ne46 : t28 ≠ d2_41 := own_orne po41_0 (Ne.symm (hne28 _ Sf38).2) Sr28.2.2.2.1.lt
  have g47 : n0 ≤ d2_41 := own_orle po41_0 po14_1 (Nat.le_trans (own_le O35) K39.1)
  have K48 : Keep h28 T41.heap [b1, d_6, d2_14] := K39.trans Kq41 (allS (Or.inl (List.mem_of_getElem? (i := 0) rfl)) (allS (Or.inl (List.mem_of_getElem? (i := 2) rfl)) all0))
  have hB := po41_3
  have f49 : Fld Z T41.heap a "com/example/myna/myna/limits/RateLimit" "seconds" "I" (.int v2) := (((((hp2.ext E1).keep Kq6 (ninS ne2 nin0)).keep Kq14 (ninS ne2 (ninS ne7 nin0))).ext E28).keep Kq41 (ninS ne2 (ninS ne15 nin0)))
  obtain ⟨T50, X50, e50, st50⟩ := getF X41 hx hZ hown (host := "") (Or.inl (hw _ (List.mem_of_getElem? (i := 17) rfl))) Via.refl rfl f49 (g := (mkF m 20 #[.val (.ref a)] [(.ref a), (.ref b1)])) rfl rfl (hb hby own_d_prog_14_method_3_code_20)
  obtain ⟨cq51, kq51, qa51, qb51, qc51⟩ := isOf hZ e50 po41_2.1
  obtain ⟨_, _, ⟨T51, L51, k51, n51⟩, -, X51, ⟨Lc51, hQ51, l51, y51, z51⟩, st51⟩ := X50.virtualBack hx (y := (⟨"java/lang/StringBuilder", "append", "(I)Ljava/lang/StringBuilder;"⟩ : MethodName)) (z := (⟨"java/lang/StringBuilder", "append", "(I)Ljava/lang/StringBuilder;"⟩ : MethodName)) hown (mvT hZ (hw _ (List.mem_of_getElem? (i := 44) rfl))) (mvT hZ (hw _ (List.mem_of_getElem? (i := 45) rfl))) (notFace_of_selects (args := #[]) (mvT hZ (hw _ (List.mem_of_getElem? (i := 47) rfl)))) (mvT hZ (hw _ (List.mem_of_getElem? (i := 47) rfl))) (mvT hZ (hw _ (List.mem_of_getElem? (i := 46) rfl))) (by decide) (backOf (W := 0) (own_appI l Z a0 hw [] (b1) (d2_41) (k2_41) (N2_41) (((([] : List Int32) ++ own_dec n1) ++ ([47] : List Int32))) (v2) (n2) (gCS) (ist) (dt1) (dt2) (cD1) (cD2) T41.heap n0 (O35.keep K48 (allS g3 (allS po6_1 (allS po14_1 all0)))) (po41_2) (g3) (po41_1) (hv2) (by omega) (by intro q; rw [hl2] at q ⊢; omega) (by omega) (hp5) (hG1) (hT1) (hT2) (hO1) (hO2) (hp11) (hp12) (hp13) (hD1) (hD2)) hZ (hw _ (List.mem_of_getElem? (i := 48) rfl)) (hw _ (List.mem_of_getElem? (i := 26) rfl)) (by decide) (by decide)) qa51 qc51 (g := (mkF m 23 #[.val (.ref a)] [(.int v2), (.ref b1)])) rfl (by rw [hml]; rfl) (Steps.refl _) (argsL := [(.int v2)]) (rest := []) (lenOf own_pd24 rfl) rfl (by show 2 * 0 + _ ≤ _; exact Nat.le_of_eq rfl) (hb hby own_d_prog_14_method_3_code_23) (fun _ _ => ⟨rfl, e50, (by decide : 6 + 1 ≤ _), (by decide : 428 + 200 ≤ _)⟩)
  dsimp only [Pt.U, Pt.locs, Pt.cells, Pt.slots] at X51 l51 y51 z51 st51 hQ51
  subst l51 y51 z51
  obtain ⟨d2_51, k2_51, N2_51, rfl, Nq51, Kq51, po51_0, po51_1, po51_2, po51_3⟩ := hQ51
  have N51 := Fr.app N41 Nq51
  have ne52 : a ≠ d2_51 := own_orne po51_0 ne43 (Nat.lt_of_lt_of_le hp0.lt (Nat.le_trans (Nat.le_trans (Nat.le_trans (Nat.le_trans E1.1 Kq6.1) Kq14.1) E28.1) Kq41.1))
  have ne53 : b1 ≠ d2_51 := own_orne po51_0 ne44 (Nat.lt_of_lt_of_le A1.lt (Nat.le_trans (Nat.le_trans (Nat.le_trans Kq6.1 Kq14.1) E28.1) Kq41.1))
  have ne54 : a28 ≠ d2_51 := own_orne po51_0 ne45 (Nat.lt_of_lt_of_le Sr28.1.lt Kq41.1)
  have ne55 : t28 ≠ d2_51 := own_orne po51_0 ne46 (Nat.lt_of_lt_of_le Sr28.2.2.2.1.lt Kq41.1)
  have g56 : n0 ≤ d2_51 := own_orle po51_0 po41_1 (Nat.le_trans (own_le O35) K48.1)
  have K57 : Keep h28 T51.heap [b1, d_6, d2_14] := K48.trans Kq51 (allS (Or.inl (List.mem_of_getElem? (i := 0) rfl)) (allS ((po41_0).elim (fun q => Or.inl (q ▸ List.mem_of_getElem? (i := 2) rfl)) (fun q => Or.inr (Nat.le_trans K39.1 q))) all0))
  have hD := po51_3
  obtain ⟨cq58, kq58, qa58, qb58, qc58⟩ := isOf hZ rfl po51_2.1
  obtain ⟨_, _, ⟨T58, L58, k58, n58⟩, -, X58, ⟨Lc58, hQ58, l58, y58, z58⟩, st58⟩ := X51.virtualBack hx (y := (⟨"java/lang/StringBuilder", "toString", "()Ljava/lang/String;"⟩ : MethodName)) (z := (⟨"java/lang/StringBuilder", "toString", "()Ljava/lang/String;"⟩ : MethodName)) hown (mvT hZ (hw _ (List.mem_of_getElem? (i := 122) rfl))) (mvT hZ (hw _ (List.mem_of_getElem? (i := 123) rfl))) (notFace_of_selects (args := #[]) (mvT hZ (hw _ (List.mem_of_getElem? (i := 125) rfl)))) (mvT hZ (hw _ (List.mem_of_getElem? (i := 125) rfl))) (mvT hZ (hw _ (List.mem_of_getElem? (i := 124) rfl))) (by decide) (backOf (W := 0) (own_toStr l Z a0 hw [] (b1) (d2_51) (k2_51) (N2_51) ((((([] : List Int32) ++ own_dec n1) ++ ([47] : List Int32)) ++ own_dec n2)) (gCS) T51.heap n0 (O35.keep K57 (allS g3 (allS po6_1 (allS po14_1 all0)))) (po51_2) (by rw [hl3]; omega) (hp5) (hG1)) hZ (hw _ (List.mem_of_getElem? (i := 126) rfl)) (hw _ (List.mem_of_getElem? (i := 26) rfl)) (by decide) (by decide)) qa58 qc58 (g := (mkF m 26 #[.val (.ref a)] [(.ref b1)])) rfl (by rw [hml]; rfl) (Steps.refl _) (argsL := []) (rest := []) (lenOf own_pd26 rfl) rfl (by show 2 * 0 + _ ≤ _; exact Nat.le_of_eq rfl) (hb hby own_d_prog_14_method_3_code_26) (fun _ _ => ⟨rfl, rfl, (by decide : 7 + 2 ≤ _), (by decide : 628 + 204 ≤ _)⟩)
  dsimp only [Pt.U, Pt.locs, Pt.cells, Pt.slots] at X58 l58 y58 z58 st58 hQ58
  subst l58 y58 z58
  obtain ⟨x_58, t_58, kt_58, rfl, Nq58, Kq58, po58_0, po58_1, po58_2, po58_3⟩ := hQ58
  have N58 := Fr.app N51 Nq58
  have ne59 : a ≠ x_58 := Nat.ne_of_lt (Nat.lt_of_lt_of_le (Nat.lt_of_lt_of_le hp0.lt (Nat.le_trans (Nat.le_trans (Nat.le_trans (Nat.le_trans (Nat.le_trans E1.1 Kq6.1) Kq14.1) E28.1) Kq41.1) Kq51.1)) po58_0)
  have ne60 : b1 ≠ x_58 := Nat.ne_of_lt (Nat.lt_of_lt_of_le (Nat.lt_of_lt_of_le A1.lt (Nat.le_trans (Nat.le_trans (Nat.le_trans (Nat.le_trans Kq6.1 Kq14.1) E28.1) Kq41.1) Kq51.1)) po58_0)
  have ne61 : d_6 ≠ x_58 := Nat.ne_of_lt (Nat.lt_of_lt_of_le (Nat.lt_of_lt_of_le po6_2.2.2.2.2.1.lt (Nat.le_trans (Nat.le_trans (Nat.le_trans Kq14.1 E28.1) Kq41.1) Kq51.1)) po58_0)
  have ne62 : d2_14 ≠ x_58 := Nat.ne_of_lt (Nat.lt_of_lt_of_le (Nat.lt_of_lt_of_le po14_2.2.2.2.2.1.lt (Nat.le_trans (Nat.le_trans E28.1 Kq41.1) Kq51.1)) po58_0)
  have ne63 : a28 ≠ x_58 := Nat.ne_of_lt (Nat.lt_of_lt_of_le (Nat.lt_of_lt_of_le Sr28.1.lt (Nat.le_trans Kq41.1 Kq51.1)) po58_0)
  have ne64 : t28 ≠ x_58 := Nat.ne_of_lt (Nat.lt_of_lt_of_le (Nat.lt_of_lt_of_le Sr28.2.2.2.1.lt (Nat.le_trans Kq41.1 Kq51.1)) po58_0)
  have ne65 : d2_41 ≠ x_58 := Nat.ne_of_lt (Nat.lt_of_lt_of_le (Nat.lt_of_lt_of_le po41_2.2.2.2.2.1.lt Kq51.1) po58_0)
  have ne66 : d2_51 ≠ x_58 := Nat.ne_of_lt (Nat.lt_of_lt_of_le po51_2.2.2.2.2.1.lt po58_0)
  have g67 : n0 ≤ x_58 := Nat.le_trans (Nat.le_trans (own_le O35) K57.1) po58_0
  have b68 : h28.size ≤ x_58 := Nat.le_trans K57.1 po58_0
  have ne69 : a ≠ t_58 := Nat.ne_of_lt (Nat.lt_of_lt_of_le (Nat.lt_of_lt_of_le hp0.lt (Nat.le_trans (Nat.le_trans (Nat.le_trans (Nat.le_trans (Nat.le_trans E1.1 Kq6.1) Kq14.1) E28.1) Kq41.1) Kq51.1)) po58_1)
  have ne70 : b1 ≠ t_58 := Nat.ne_of_lt (Nat.lt_of_lt_of_le (Nat.lt_of_lt_of_le A1.lt (Nat.le_trans (Nat.le_trans (Nat.le_trans (Nat.le_trans Kq6.1 Kq14.1) E28.1) Kq41.1) Kq51.1)) po58_1)
  have ne71 : d_6 ≠ t_58 := Nat.ne_of_lt (Nat.lt_of_lt_of_le (Nat.lt_of_lt_of_le po6_2.2.2.2.2.1.lt (Nat.le_trans (Nat.le_trans (Nat.le_trans Kq14.1 E28.1) Kq41.1) Kq51.1)) po58_1)
  have ne72 : d2_14 ≠ t_58 := Nat.ne_of_lt (Nat.lt_of_lt_of_le (Nat.lt_of_lt_of_le po14_2.2.2.2.2.1.lt (Nat.le_trans (Nat.le_trans E28.1 Kq41.1) Kq51.1)) po58_1)
  have ne73 : a28 ≠ t_58 := Nat.ne_of_lt (Nat.lt_of_lt_of_le (Nat.lt_of_lt_of_le Sr28.1.lt (Nat.le_trans Kq41.1 Kq51.1)) po58_1)
  have ne74 : t28 ≠ t_58 := Nat.ne_of_lt (Nat.lt_of_lt_of_le (Nat.lt_of_lt_of_le Sr28.2.2.2.1.lt (Nat.le_trans Kq41.1 Kq51.1)) po58_1)
  have ne75 : d2_41 ≠ t_58 := Nat.ne_of_lt (Nat.lt_of_lt_of_le (Nat.lt_of_lt_of_le po41_2.2.2.2.2.1.lt Kq51.1) po58_1)
  have ne76 : d2_51 ≠ t_58 := Nat.ne_of_lt (Nat.lt_of_lt_of_le po51_2.2.2.2.2.1.lt po58_1)
  have g77 : n0 ≤ t_58 := Nat.le_trans (Nat.le_trans (own_le O35) K57.1) po58_1
  have b78 : h28.size ≤ t_58 := Nat.le_trans K57.1 po58_1
  have K79 : Keep h28 T58.heap [b1, d_6, d2_14] := K57.trans Kq58 all0
  have C80 : CHr Z consts_1 T28.vm h28 T28.vm T58.heap := CHr.keep K79 (allS Sf36 (allS Sf37 (allS Sf38 all0))) CC28.1
  have CAe : CHr Z consts_1 s.vm h0 T28.vm T58.heap := CA33.trans C80
  have CAf : CHr Z consts_1 s.vm h0 T58.vm T58.heap := CAe.trans (CHv.at (s := s) (vm0 := T28.vm) X58 hZ hEL CAe.1)
  obtain ⟨fs, hr, hrun, hended, hRW⟩ := Stand.leaveW (s := s) (vm₁ := T28.vm) X58 hS28 (Nat.le_trans hk28 K79.1) (v := some (.ref x_58)) (fun h => by rw [Bd.returns] at h; cases h)
  refine ⟨_, _, r20 _ ?_, hrun, hended, _, _, rfl, ?_, (by show CHr Z consts_1 s.vm s.heap T58.vm T58.heap; rw [hh]; exact CAf), ⟨hRW.1, hRW.2.1, hRW.2.2.1, hRW.2.2.2.mono (by decide) (by decide)⟩⟩
  · show Steps p.tables e below (T14.setTop (mkF m 14 #[.val (.ref a)] [(.ref b1)])) _
    refine st28 _ ?_
    show Steps p.tables e below (T28.setTop (mkF m 16 #[.val (.ref a)] [(.ref a28), (.ref b1)])) _
    refine st41.trans ?_
    show Steps p.tables e below (T41.setTop (mkF m 19 #[.val (.ref a)] [(.ref b1)])) _
    refine XS.aloadN X41.here hx rfl (hb hby own_d_prog_14_method_3_code_19) rfl rfl ?_
    show Steps p.tables e below (T41.setTop (mkF m 20 #[.val (.ref a)] [(.ref a), (.ref b1)])) _
    refine st50 _ ?_
    show Steps p.tables e below (T50.setTop (mkF m 23 #[.val (.ref a)] [(.int v2), (.ref b1)])) _
    refine st51.trans ?_
    show Steps p.tables e below (T51.setTop (mkF m 26 #[.val (.ref a)] [(.ref b1)])) _
    refine st58.trans ?_
    show Steps p.tables e below (T58.setTop (mkF m 29 #[.val (.ref a)] [(.ref x_58)])) _
    exact retOut X58 hx (t := (.object "java/lang/String")) Bd.returns rfl (Or.inr (Or.inr (Or.inr (Or.inr ⟨rfl, rfl, rfl⟩)))) (hb hby own_d_prog_14_method_3_code_29) hr
  · show Q_own_rts Z a v1 v2 n1 n2 gCS ist dt1 dt2 cD1 cD2 h0 n0 _ T58.heap _
    exact ⟨x_58, t_58, kt_58, rfl, N58, (KA34.trans K79 (allS (Or.inr bz30) (allS (Or.inr bz31) (allS (Or.inr bz32) all0)))), (Nat.le_trans KA34.1 b68), (Nat.le_trans KA34.1 b78), po58_2, po58_3⟩
theorem own_pn_own_law : plainName "com/example/myna/myna/limits/RateLimitToStringPinLaw" = true := by first | (simp [plainName, overriddenIn]; done) | decide +kernel
theorem own_ef_own_law (m : MethodId) (i0 : Int32) (i1 : Int32) : entryFrame m #[(.int i0), (.int i1)] maxLocals = mkF m 0 #[.val (.int i0), .val (.int i1), .unset, .unset, .unset, .unset, .unset] [] := by first | (simp [entryFrame, mkF, argsToLocals, own_cI, own_cJ, own_cR, own_cN, maxLocals]; done) | rfl
abbrev own_F_own_law (m : MethodId) (i0 : Int32) (i1 : Int32) : JFrame := entryFrame m #[(.int i0), (.int i1)] maxLocals
def Q_own_law (Z : State) (i0 : Int32) (i1 : Int32) (gCS : Int32) (gFM : Value) (ist : Addr) (dt1 : Addr) (dt2 : Addr) (cD1 : Cell) (cD2 : Cell) (h0 : Heap) (n0 : Nat) (v : Option Value) (h : Heap) (L : List Loc) : Prop := v = some (.int (1 : Int32)) ∧ Fr n0 L
set_option maxRecDepth 65536 in
set_option maxHeartbeats 40000000 in
theorem own_law (l : Launch) (Z : State) (a0 : Array Value) (hw : ∀ d ∈ tables_1, d.before a0 Z = true) (ws : List Jvm.Cond) (i0 : Int32) (i1 : Int32) (gCS : Int32) (gFM : Value) (ist : Addr) (dt1 : Addr) (dt2 : Addr) (cD1 : Cell) (cD2 : Cell) (h0 : Heap) (n0 : Nat) (O0 : Old Z n0 h0) (hp0 : Sta Z Z.heap "java/lang/String" "COMPACT_STRINGS" "Z" (.int gCS)) (hG1 : ¬ gCS = (0 : Int32)) (hp2 : Sta Z Z.heap "jdk/internal/util/Preconditions" "SIOOBE_FORMATTER" "Ljava/util/function/BiFunction;" gFM) (hG3 : gFM.isRef = true) (hT1 : Jvm.Free.SBG.Tbl Z "DigitOnes" ist dt1 cD1) (hT2 : Jvm.Free.SBG.Tbl Z "DigitTens" ist dt2 cD2) (hO1 : Jvm.Free.SBG.Ones cD1) (hO2 : Jvm.Free.SBG.Tens cD2) (hp8 : ist < n0) (hp9 : dt1 < n0) (hp10 : dt2 < n0) (hD1 : Z.heap[dt1]? = some cD1) (hD2 : Z.heap[dt2]? = some cD2) (hEL : EW Z a0 consts_1) :
    MetFree l x (head1 (Jvm.Cond.code x code maxLocals ret :: ws) room_1) (fun aa_ U_ => aa_ = #[(.int i0), (.int i1)] ∧ Z.Warmed39 U_.vm ∧ U_.heap = h0 ∧ CHv Z consts_1 U_.vm h0) (fun _ _ _ _ _ => True) (fun _ U_ o_ V_ => ∃ v_ L_, o_ = .returned v_ ∧ Q_own_law Z i0 i1 gCS gFM ist dt1 dt2 cD1 cD2 h0 n0 v_ V_.heap L_ ∧ ReturnedEndW U_ o_ V_ L_ room_1.cells room_1.slots) := by
  refine MetFree.of_bodySF (plainFor_of_name own_pn_own_law) hisR ?_
  intro p e s m args below meth c s₁ Bd hml0 hP hK
  obtain ⟨rfl, hZ, hh, hC0⟩ := hP
  have hx := Bd.exec
  have hby := Bd.bytes
  have hml : c.maxLocals = 7 := hml0
  have hown : s.vm.findClass "com/example/myna/myna/limits/RateLimitToStringPinLaw" = some m.cls := findClass_of_methodNamed Bd.named
  have hnm := (name_of_methodNamed Bd.named Bd.method).1
  have X0 : Stand p l e room_1 s m #[(.int i0), (.int i1)] below meth c s₁ [] 0 0 := Stand.of_body Bd
  have e0 : s₁.heap = h0 := by rw [← hh, Bd.state]; rfl
  have N0 := Fr.nil n0
  have hS0 : s.Since s.vm 0 := (State.WarmedH.refl s).since 0
  have CA0 : CHr Z consts_1 s.vm h0 s.vm h0 := CHr.refl hC0
  have KA0 : Keep h0 h0 [] := Keep.refl _ _
  have K0 : Keep h0 h0 [] := Keep.refl _ _
  have r0 : GoTo p.tables e below s₁ (own_F_own_law m i0 i1) s₁ (mkF m 0 #[.val (.int i0), .val (.int i1), .unset, .unset, .unset, .unset, .unset] []) := fun tt_ kk_ => castTop (own_ef_own_law m i0 i1) kk_
  have r1 : GoTo p.tables e below s₁ (own_F_own_law m i0 i1) s₁ (mkF m 20 #[.val (.int i0), .val (.int i1), .val (.int ((1 : Int32) + ((i0 &&& (2147483647 : Int32)) % (2147483647 : Int32)))), .val (.int ((1 : Int32) + ((i1 &&& (2147483647 : Int32)) % (2147483647 : Int32)))), .unset, .unset, .unset] []) := fun tt_ kk_ => r0 tt_ (by
      show Steps p.tables e below (s₁.setTop (mkF m 0 #[.val (.int i0), .val (.int i1), .unset, .unset, .unset, .unset, .unset] [])) _
      refine XS.iconst X0.here hx rfl (hb hby at_0) ?_
      show Steps p.tables e below (s₁.setTop (mkF m 1 #[.val (.int i0), .val (.int i1), .unset, .unset, .unset, .unset, .unset] [(.int (1 : Int32))])) _
      refine XS.iloadN X0.here hx rfl (hb hby at_1) rfl ?_
      show Steps p.tables e below (s₁.setTop (mkF m 2 #[.val (.int i0), .val (.int i1), .unset, .unset, .unset, .unset, .unset] [(.int i0), (.int (1 : Int32))])) _
      refine X0.ldcI hx hown (mvT hZ (hw _ (List.mem_of_getElem? (i := 0) rfl))) rfl (hb hby at_2) ?_
      show Steps p.tables e below (s₁.setTop (mkF m 4 #[.val (.int i0), .val (.int i1), .unset, .unset, .unset, .unset, .unset] [(.int (2147483647 : Int32)), (.int i0), (.int (1 : Int32))])) _
      refine XS.iand X0.here hx rfl (hb hby at_4) rfl ?_
      show Steps p.tables e below (s₁.setTop (mkF m 5 #[.val (.int i0), .val (.int i1), .unset, .unset, .unset, .unset, .unset] [(.int (i0 &&& (2147483647 : Int32))), (.int (1 : Int32))])) _
      refine X0.ldcI hx hown (mvT hZ (hw _ (List.mem_of_getElem? (i := 0) rfl))) rfl (hb hby at_5) ?_
      show Steps p.tables e below (s₁.setTop (mkF m 7 #[.val (.int i0), .val (.int i1), .unset, .unset, .unset, .unset, .unset] [(.int (2147483647 : Int32)), (.int (i0 &&& (2147483647 : Int32))), (.int (1 : Int32))])) _
      refine iremM X0 hx rfl (hb hby at_7) rfl (by decide) ?_
      show Steps p.tables e below (s₁.setTop (mkF m 8 #[.val (.int i0), .val (.int i1), .unset, .unset, .unset, .unset, .unset] [(.int ((i0 &&& (2147483647 : Int32)) % (2147483647 : Int32))), (.int (1 : Int32))])) _
      refine XS.iadd X0.here hx rfl (hb hby at_8) rfl ?_
      show Steps p.tables e below (s₁.setTop (mkF m 9 #[.val (.int i0), .val (.int i1), .unset, .unset, .unset, .unset, .unset] [(.int ((1 : Int32) + ((i0 &&& (2147483647 : Int32)) % (2147483647 : Int32))))])) _
      refine XS.istoreN X0.here hx rfl (hb hby at_9) rfl (l' := #[.val (.int i0), .val (.int i1), .val (.int ((1 : Int32) + ((i0 &&& (2147483647 : Int32)) % (2147483647 : Int32)))), .unset, .unset, .unset, .unset]) rfl ?_
      show Steps p.tables e below (s₁.setTop (mkF m 10 #[.val (.int i0), .val (.int i1), .val (.int ((1 : Int32) + ((i0 &&& (2147483647 : Int32)) % (2147483647 : Int32)))), .unset, .unset, .unset, .unset] [])) _
      refine XS.iconst X0.here hx rfl (hb hby at_10) ?_
      show Steps p.tables e below (s₁.setTop (mkF m 11 #[.val (.int i0), .val (.int i1), .val (.int ((1 : Int32) + ((i0 &&& (2147483647 : Int32)) % (2147483647 : Int32)))), .unset, .unset, .unset, .unset] [(.int (1 : Int32))])) _
      refine XS.iloadN X0.here hx rfl (hb hby at_11) rfl ?_
      show Steps p.tables e below (s₁.setTop (mkF m 12 #[.val (.int i0), .val (.int i1), .val (.int ((1 : Int32) + ((i0 &&& (2147483647 : Int32)) % (2147483647 : Int32)))), .unset, .unset, .unset, .unset] [(.int i1), (.int (1 : Int32))])) _
      refine X0.ldcI hx hown (mvT hZ (hw _ (List.mem_of_getElem? (i := 0) rfl))) rfl (hb hby at_12) ?_
      show Steps p.tables e below (s₁.setTop (mkF m 14 #[.val (.int i0), .val (.int i1), .val (.int ((1 : Int32) + ((i0 &&& (2147483647 : Int32)) % (2147483647 : Int32)))), .unset, .unset, .unset, .unset] [(.int (2147483647 : Int32)), (.int i1), (.int (1 : Int32))])) _
      refine XS.iand X0.here hx rfl (hb hby at_14) rfl ?_
      show Steps p.tables e below (s₁.setTop (mkF m 15 #[.val (.int i0), .val (.int i1), .val (.int ((1 : Int32) + ((i0 &&& (2147483647 : Int32)) % (2147483647 : Int32)))), .unset, .unset, .unset, .unset] [(.int (i1 &&& (2147483647 : Int32))), (.int (1 : Int32))])) _
      refine X0.ldcI hx hown (mvT hZ (hw _ (List.mem_of_getElem? (i := 0) rfl))) rfl (hb hby at_15) ?_
      show Steps p.tables e below (s₁.setTop (mkF m 17 #[.val (.int i0), .val (.int i1), .val (.int ((1 : Int32) + ((i0 &&& (2147483647 : Int32)) % (2147483647 : Int32)))), .unset, .unset, .unset, .unset] [(.int (2147483647 : Int32)), (.int (i1 &&& (2147483647 : Int32))), (.int (1 : Int32))])) _
      refine iremM X0 hx rfl (hb hby at_17) rfl (by decide) ?_
      show Steps p.tables e below (s₁.setTop (mkF m 18 #[.val (.int i0), .val (.int i1), .val (.int ((1 : Int32) + ((i0 &&& (2147483647 : Int32)) % (2147483647 : Int32)))), .unset, .unset, .unset, .unset] [(.int ((i1 &&& (2147483647 : Int32)) % (2147483647 : Int32))), (.int (1 : Int32))])) _
      refine XS.iadd X0.here hx rfl (hb hby at_18) rfl ?_
      show Steps p.tables e below (s₁.setTop (mkF m 19 #[.val (.int i0), .val (.int i1), .val (.int ((1 : Int32) + ((i0 &&& (2147483647 : Int32)) % (2147483647 : Int32)))), .unset, .unset, .unset, .unset] [(.int ((1 : Int32) + ((i1 &&& (2147483647 : Int32)) % (2147483647 : Int32))))])) _
      refine XS.istoreN X0.here hx rfl (hb hby at_19) rfl (l' := #[.val (.int i0), .val (.int i1), .val (.int ((1 : Int32) + ((i0 &&& (2147483647 : Int32)) % (2147483647 : Int32)))), .val (.int ((1 : Int32) + ((i1 &&& (2147483647 : Int32)) % (2147483647 : Int32)))), .unset, .unset, .unset]) rfl ?_
      show Steps p.tables e below (s₁.setTop (mkF m 20 #[.val (.int i0), .val (.int i1), .val (.int ((1 : Int32) + ((i0 &&& (2147483647 : Int32)) % (2147483647 : Int32)))), .val (.int ((1 : Int32) + ((i1 &&& (2147483647 : Int32)) % (2147483647 : Int32)))), .unset, .unset, .unset] [])) _
      exact kk_)
  obtain ⟨v1, h_v1⟩ : ∃ z : Int32, z = ((1 : Int32) + ((i0 &&& (2147483647 : Int32)) % (2147483647 : Int32))) := ⟨_, rfl⟩
  have r2 : GoTo p.tables e below s₁ (own_F_own_law m i0 i1) s₁ (mkF m 20 #[.val (.int i0), .val (.int i1), .val (.int v1), .val (.int ((1 : Int32) + ((i1 &&& (2147483647 : Int32)) % (2147483647 : Int32)))), .unset, .unset, .unset] []) := by rw [h_v1]; exact r1
  obtain ⟨v2, h_v2⟩ : ∃ z : Int32, z = ((1 : Int32) + ((i1 &&& (2147483647 : Int32)) % (2147483647 : Int32))) := ⟨_, rfl⟩
  have r3 : GoTo p.tables e below s₁ (own_F_own_law m i0 i1) s₁ (mkF m 20 #[.val (.int i0), .val (.int i1), .val (.int v1), .val (.int v2), .unset, .unset, .unset] []) := by rw [h_v2]; exact r2
  obtain ⟨n1, hv1, hg1⟩ : ∃ n : Nat, v1.toInt = n ∧ 1 ≤ n := by rw [h_v1]; exact own_val i0
  have hw1 : ¬ v1 < (1 : Int32) := by rw [Int32.lt_iff_toInt_lt, hv1, show (1 : Int32).toInt = 1 from rfl]; omega
  have hd1 := Jvm.Free.SBG.digits_pos n1
  obtain ⟨n2, hv2, hg2⟩ : ∃ n : Nat, v2.toInt = n ∧ 1 ≤ n := by rw [h_v2]; exact own_val i1
  have hw2 : ¬ v2 < (1 : Int32) := by rw [Int32.lt_iff_toInt_lt, hv2, show (1 : Int32).toInt = 1 from rfl]; omega
  have hd2 := Jvm.Free.SBG.digits_pos n2
  obtain ⟨T4, h4, X4, e4, E4, A4, D4, -, st4⟩ := newO X0 hx hZ hown (hw _ (List.mem_of_getElem? (i := 1) rfl)) (hw _ (List.mem_of_getElem? (i := 2) rfl)) (hw _ (List.mem_of_getElem? (i := 3) rfl)) e0 (g := (mkF m 20 #[.val (.int i0), .val (.int i1), .val (.int v1), .val (.int v2), .unset, .unset, .unset] [])) rfl (hb hby at_20) (by decide) (by decide)
  obtain ⟨b4, gg4⟩ : ∃ z, z = h0.size := ⟨_, rfl⟩
  rw [← gg4] at A4 D4 st4
  have g5 : n0 ≤ b4 := Nat.le_trans (Nat.le_trans (own_le O0) K0.1) (Nat.le_of_eq gg4.symm)
  have b6 : h0.size ≤ b4 := Nat.le_trans K0.1 (Nat.le_of_eq gg4.symm)
  have K7 : Keep h0 h4 [] := K0.ext E4
  obtain ⟨_, _, ⟨T8, L8, k8, n8⟩, -, X8, ⟨Lc8, hQ8, l8, y8, z8⟩, st8⟩ := X4.specialBack hx (y := (⟨"com/example/myna/myna/limits/RateLimit", "<init>", "(II)V"⟩ : MethodName)) rfl hown (mvT hZ (hw _ (List.mem_of_getElem? (i := 4) rfl))) (mvT hZ (hw _ (List.mem_of_getElem? (i := 5) rfl))) (mvT hZ (hw _ (List.mem_of_getElem? (i := 6) rfl))) (by decide) (backOf (W := 1) (own_rlin l Z a0 hw [] (b4) (v1) (v2) h4 n0 (O0.keep K7 all0) (A4) (g5) ((D4 (Or.inr (hw _ (List.mem_of_getElem? (i := 16) rfl))) (ty := .int) (by decide))) ((D4 (Or.inr (hw _ (List.mem_of_getElem? (i := 18) rfl))) (ty := .int) (by decide))) (hw1) (hw2)) hZ (hw _ (List.mem_of_getElem? (i := 6) rfl)) (hw _ (List.mem_of_getElem? (i := 3) rfl)) (by decide) (by decide)) (g := (mkF m 26 #[.val (.int i0), .val (.int i1), .val (.int v1), .val (.int v2), .unset, .unset, .unset] [(.int v2), (.int v1), (.ref b4), (.ref b4)])) rfl (by rw [hml]; rfl) (Steps.refl _) (a := b4) (argsL := [(.int v1), (.int v2)]) (rest := [(.ref b4)]) (lenOf own_pd10 rfl) rfl (by show 2 * 0 + _ ≤ _; exact Nat.le_of_eq rfl) (hb hby at_26) (fun _ _ => ⟨rfl, e4, (by decide : 1 + 0 ≤ _), (by decide : 2 + 0 ≤ _)⟩)
  dsimp only [Pt.U, Pt.locs, Pt.cells, Pt.slots] at X8 l8 y8 z8 st8 hQ8
  subst l8 y8 z8
  obtain ⟨rfl, Nq8, Kq8, po8_0, po8_1⟩ := hQ8
  have N8 := Fr.app N0 Nq8
  have K9 : Keep h0 T8.heap [] := K7.trans Kq8 (allS (Or.inr b6) all0)
  obtain ⟨Lg10, X10, N10⟩ : ∃ L' : List Loc, Stand p l e room_1 s m #[(.int i0), (.int i1)] below meth c T8 L' 1 2 ∧ Fr n0 L' := ⟨_, X8, N8⟩
  have f11 : Exa Z T8.heap b4 "com/example/myna/myna/limits/RateLimit" := (A4.keep Kq8)
  have r12 : GoTo p.tables e below s₁ (own_F_own_law m i0 i1) T8 (mkF m 29 #[.val (.int i0), .val (.int i1), .val (.int v1), .val (.int v2), .unset, .unset, .unset] [(.ref b4)]) := fun tt_ kk_ => r3 tt_ (by
      show Steps p.tables e below (s₁.setTop (mkF m 20 #[.val (.int i0), .val (.int i1), .val (.int v1), .val (.int v2), .unset, .unset, .unset] [])) _
      refine st4 _ ?_
      show Steps p.tables e below (T4.setTop (mkF m 23 #[.val (.int i0), .val (.int i1), .val (.int v1), .val (.int v2), .unset, .unset, .unset] [(.ref b4)])) _
      refine XS.dup X4.here hx rfl (hb hby at_23) rfl rfl ?_
      show Steps p.tables e below (T4.setTop (mkF m 24 #[.val (.int i0), .val (.int i1), .val (.int v1), .val (.int v2), .unset, .unset, .unset] [(.ref b4), (.ref b4)])) _
      refine XS.iloadN X4.here hx rfl (hb hby at_24) rfl ?_
      show Steps p.tables e below (T4.setTop (mkF m 25 #[.val (.int i0), .val (.int i1), .val (.int v1), .val (.int v2), .unset, .unset, .unset] [(.int v1), (.ref b4), (.ref b4)])) _
      refine XS.iloadN X4.here hx rfl (hb hby at_25) rfl ?_
      show Steps p.tables e below (T4.setTop (mkF m 26 #[.val (.int i0), .val (.int i1), .val (.int v1), .val (.int v2), .unset, .unset, .unset] [(.int v2), (.int v1), (.ref b4), (.ref b4)])) _
      refine st8.trans ?_
      show Steps p.tables e below (T8.setTop (mkF m 29 #[.val (.int i0), .val (.int i1), .val (.int v1), .val (.int v2), .unset, .unset, .unset] [(.ref b4)])) _
      exact kk_)
  have C13 : CHr Z consts_1 s.vm h0 s.vm T8.heap := CHr.keep K9 all0 hC0
  have Sf14 : Safe Z consts_1 s.vm T8.heap b4 := Safe.keep K9 all0 hC0 (Safe.new b6)
  have lt15 : b4 < T8.heap.size := (Nat.lt_of_lt_of_le A4.lt Kq8.1)
  obtain ⟨cq16, kq16, qa16, qb16, qc16⟩ := isOf hZ rfl f11
  obtain ⟨_, _, ⟨T16, L16, k16, n16⟩, -, X16, hSq16, hgr16, ⟨Lc16, hQ16, l16, y16, z16, CC16⟩, st16⟩ := X10.virtualBackS hx (y := (⟨"com/example/myna/myna/limits/RateLimit", "toString", "()Ljava/lang/String;"⟩ : MethodName)) (z := (⟨"com/example/myna/myna/limits/RateLimit", "toString", "()Ljava/lang/String;"⟩ : MethodName)) hown (mvT hZ (hw _ (List.mem_of_getElem? (i := 19) rfl))) (mvT hZ (hw _ (List.mem_of_getElem? (i := 20) rfl))) (notFace_of_selects (args := #[]) (mvT hZ (hw _ (List.mem_of_getElem? (i := 22) rfl)))) (mvT hZ (hw _ (List.mem_of_getElem? (i := 22) rfl))) (mvT hZ (hw _ (List.mem_of_getElem? (i := 21) rfl))) (by decide) (backOfSH (s := s) (vm0 := s.vm) (W := 0) (own_rts l Z a0 hw [] (b4) (v1) (v2) (n1) (n2) (gCS) (ist) (dt1) (dt2) (cD1) (cD2) T8.heap n0 (O0.keep K9 all0) (f11) (po8_0) (po8_1) (hv1) (hv2) (hp0) (hG1) (hT1) (hT2) (hO1) (hO2) (hp8) (hp9) (hp10) (hD1) (hD2) hEL) hZ (hw _ (List.mem_of_getElem? (i := 23) rfl)) (hw _ (List.mem_of_getElem? (i := 3) rfl)) (by decide) (by decide) hEL C13.1) qa16 qc16 (g := (mkF m 29 #[.val (.int i0), .val (.int i1), .val (.int v1), .val (.int v2), .unset, .unset, .unset] [(.ref b4)])) rfl (by rw [hml]; rfl) (Steps.refl _) (argsL := []) (rest := []) (lenOf own_pd26 rfl) rfl (by show 2 * 0 + _ ≤ _; exact Nat.le_of_eq rfl) (hb hby at_29) (fun _ _ => ⟨rfl, rfl, (by decide : 1 + 9 ≤ _), (by decide : 2 + 832 ≤ _)⟩)
  dsimp only [Pt.U, Pt.locs, Pt.cells, Pt.slots] at X16 l16 y16 z16 st16 hQ16 CC16 hSq16 hgr16
  subst l16 y16 z16
  have hSn16 := foldS (s := s) (vm0 := s.vm) hS0 (Nat.le_trans (Nat.zero_le _) K9.1) hSq16 hgr16
  have X16 : Stand p l e room_1 (s.setVm T16.vm) m #[(.int i0), (.int i1)] below meth c T16 _ _ _ := X16
  have hZ : Z.Warmed39 (s.setVm T16.vm).vm := State.Warmed39.trans (t := s.setVm s.vm) hZ hSq16.1
  have hown : (s.setVm T16.vm).vm.findClass "com/example/myna/myna/limits/RateLimitToStringPinLaw" = some m.cls := by show T16.vm.findClass _ = _; rw [hSq16.1.alike.findClass]; exact hown
  obtain ⟨x_16, t_16, kt_16, rfl, Nq16, Kq16, po16_0, po16_1, po16_2, po16_3⟩ := hQ16
  have N16 := Fr.app N10 Nq16
  have ne17 : b4 ≠ x_16 := Nat.ne_of_lt (Nat.lt_of_lt_of_le (Nat.lt_of_lt_of_le A4.lt Kq8.1) po16_0)
  have g18 : n0 ≤ x_16 := Nat.le_trans (Nat.le_trans (own_le O0) K9.1) po16_0
  have b19 : h0.size ≤ x_16 := Nat.le_trans K9.1 po16_0
  have ne20 : b4 ≠ t_16 := Nat.ne_of_lt (Nat.lt_of_lt_of_le (Nat.lt_of_lt_of_le A4.lt Kq8.1) po16_1)
  have g21 : n0 ≤ t_16 := Nat.le_trans (Nat.le_trans (own_le O0) K9.1) po16_1
  have b22 : h0.size ≤ t_16 := Nat.le_trans K9.1 po16_1
  have K23 : Keep h0 T16.heap [] := K9.trans Kq16 all0
  have bz24 : h0.size ≤ b4 := Nat.le_trans KA0.1 b6
  have bz25 : h0.size ≤ x_16 := Nat.le_trans KA0.1 b19
  have bz26 : h0.size ≤ t_16 := Nat.le_trans KA0.1 b22
  have CA27 : CHr Z consts_1 s.vm h0 T16.vm T16.heap := (CA0.trans C13).trans CC16
  have KA28 : Keep h0 T16.heap [] := KA0.trans K23 all0
  have O29 : Old Z n0 T16.heap := (O0.keep K23 all0)
  have Sf30 : Safe Z consts_1 T16.vm T16.heap b4 := CHr.safe CC16 lt15 Sf14
  have K31 : Keep T16.heap T16.heap [b4] := Keep.refl _ _
  have hl1 : (([] : List Int32) ++ own_dec n1).length = Jvm.Free.SBG.digits n1 := by rw [List.nil_append, own_dec_len]
  have hl2 : ((([] : List Int32) ++ own_dec n1) ++ [47]).length = Jvm.Free.SBG.digits n1 + 1 := by rw [List.length_append, hl1]; rfl
  have hl3 : (((([] ++ own_dec n1) ++ [47]) ++ own_dec n2) : List Int32).length = Jvm.Free.SBG.digits n1 + 1 + Jvm.Free.SBG.digits n2 := by rw [List.length_append, hl2, own_dec_len]
  obtain ⟨_, _, ⟨T32, L32, k32, n32⟩, -, X32, ⟨Lc32, hQ32, l32, y32, z32⟩, st32⟩ := Jvm.LawKit.callS X16 hx (y := (⟨"com/example/myna/myna/limits/RateLimitToStringPinLaw", "digitCount", "(I)I"⟩ : MethodName)) hown (mvT hZ (hw _ (List.mem_of_getElem? (i := 165) rfl))) (mvT hZ (hw _ (List.mem_of_getElem? (i := 166) rfl))) (mvT hZ (hw _ (List.mem_of_getElem? (i := 167) rfl))) (mvT hZ (hw _ (List.mem_of_getElem? (i := 168) rfl))) (by decide) (backOf (W := 0) (own_dc l Z a0 hw [] (v1) (n1) T16.heap n0 (O29.keep K31 (allS g5 all0)) (hv1)) hZ (hw _ (List.mem_of_getElem? (i := 168) rfl)) (hw _ (List.mem_of_getElem? (i := 167) rfl)) (by decide) (by decide)) (g := (mkF m 35 #[.val (.int i0), .val (.int i1), .val (.int v1), .val (.int v2), .val (.ref x_16), .unset, .unset] [(.int v1)])) rfl (by rw [hml]; rfl) (argsL := [(.int v1)]) (rest := []) (lenOf own_pd3 rfl) rfl (by show 2 * 0 + _ ≤ _; exact Nat.le_of_eq rfl) (hb hby at_35) (fun _ _ => ⟨rfl, rfl, (by decide : 10 + 0 ≤ _), (by decide : 834 + 0 ≤ _)⟩)
  dsimp only [Pt.U, Pt.locs, Pt.cells, Pt.slots] at X32 l32 y32 z32 st32 hQ32
  subst l32 y32 z32
  obtain ⟨rfl, Nq32, hh32⟩ := hQ32
  have N32 := Fr.app N16 Nq32
  obtain ⟨Lg33, X33, N33⟩ : ∃ L' : List Loc, Stand p l e room_1 (s.setVm T16.vm) m #[(.int i0), (.int i1)] below meth c T32 L' 10 834 ∧ Fr n0 L' := ⟨_, X32, N32⟩
  obtain ⟨_, _, ⟨T34, L34, k34, n34⟩, -, X34, ⟨Lc34, hQ34, l34, y34, z34⟩, st34⟩ := Jvm.LawKit.callS X33 hx (y := (⟨"com/example/myna/myna/limits/RateLimitToStringPinLaw", "digitCount", "(I)I"⟩ : MethodName)) hown (mvT hZ (hw _ (List.mem_of_getElem? (i := 165) rfl))) (mvT hZ (hw _ (List.mem_of_getElem? (i := 166) rfl))) (mvT hZ (hw _ (List.mem_of_getElem? (i := 167) rfl))) (mvT hZ (hw _ (List.mem_of_getElem? (i := 168) rfl))) (by decide) (backOf (W := 0) (own_dc l Z a0 hw [] (v2) (n2) T16.heap n0 (O29.keep K31 (allS g5 all0)) (hv2)) hZ (hw _ (List.mem_of_getElem? (i := 168) rfl)) (hw _ (List.mem_of_getElem? (i := 167) rfl)) (by decide) (by decide)) (g := (mkF m 41 #[.val (.int i0), .val (.int i1), .val (.int v1), .val (.int v2), .val (.ref x_16), .val (.int (Int32.ofNat (Jvm.Free.SBG.digits n1))), .unset] [(.int v2)])) rfl (by rw [hml]; rfl) (argsL := [(.int v2)]) (rest := []) (lenOf own_pd3 rfl) rfl (by show 2 * 0 + _ ≤ _; exact Nat.le_of_eq rfl) (hb hby at_41) (fun _ _ => ⟨rfl, hh32, (by decide : 10 + 0 ≤ _), (by decide : 834 + 0 ≤ _)⟩)
  dsimp only [Pt.U, Pt.locs, Pt.cells, Pt.slots] at X34 l34 y34 z34 st34 hQ34
  subst l34 y34 z34
  obtain ⟨rfl, Nq34, hh34⟩ := hQ34
  have N34 := Fr.app N33 Nq34
  obtain ⟨cq35, kq35, qa35, qb35, qc35⟩ := isOf hZ hh34 po16_3.1
  obtain ⟨_, _, ⟨T35, L35, k35, n35⟩, -, X35, ⟨Lc35, hQ35, l35, y35, z35⟩, st35⟩ := X34.virtualBack hx (y := (⟨"java/lang/String", "length", "()I"⟩ : MethodName)) (z := (⟨"java/lang/String", "length", "()I"⟩ : MethodName)) hown (mvT hZ (hw _ (List.mem_of_getElem? (i := 169) rfl))) (mvT hZ (hw _ (List.mem_of_getElem? (i := 90) rfl))) (notFace_of_selects (args := #[]) (mvT hZ (hw _ (List.mem_of_getElem? (i := 92) rfl)))) (mvT hZ (hw _ (List.mem_of_getElem? (i := 92) rfl))) (mvT hZ (hw _ (List.mem_of_getElem? (i := 91) rfl))) (by decide) (backOf (W := 0) (own_strlen l Z a0 hw [] (x_16) (t_16) (kt_16) (((([] ++ own_dec n1) ++ [47]) ++ own_dec n2)) (gCS) T16.heap n0 (O29.keep K31 (allS g5 all0)) (po16_3) (hp0) (hG1)) hZ (hw _ (List.mem_of_getElem? (i := 93) rfl)) (hw _ (List.mem_of_getElem? (i := 38) rfl)) (by decide) (by decide)) qa35 qc35 (g := (mkF m 48 #[.val (.int i0), .val (.int i1), .val (.int v1), .val (.int v2), .val (.ref x_16), .val (.int (Int32.ofNat (Jvm.Free.SBG.digits n1))), .val (.int (Int32.ofNat (Jvm.Free.SBG.digits n2)))] [(.ref x_16)])) rfl (by rw [hml]; rfl) (Steps.refl _) (argsL := []) (rest := []) (lenOf own_pd14 rfl) rfl (by show 2 * 0 + _ ≤ _; exact Nat.le_of_eq rfl) (hb hby at_48) (fun _ _ => ⟨rfl, hh34, (by decide : 10 + 0 ≤ _), (by decide : 834 + 0 ≤ _)⟩)
  dsimp only [Pt.U, Pt.locs, Pt.cells, Pt.slots] at X35 l35 y35 z35 st35 hQ35
  subst l35 y35 z35
  obtain ⟨rfl, Nq35, hh35⟩ := hQ35
  have N35 := Fr.app N34 Nq35
  have r36 : GoTo p.tables e below s₁ (own_F_own_law m i0 i1) T35 (mkF m 51 #[.val (.int i0), .val (.int i1), .val (.int v1), .val (.int v2), .val (.ref x_16), .val (.int (Int32.ofNat (Jvm.Free.SBG.digits n1))), .val (.int (Int32.ofNat (Jvm.Free.SBG.digits n2)))] [(.int (Int32.ofNat ((([] ++ own_dec n1) ++ [47]) ++ own_dec n2).length))]) := fun tt_ kk_ => r12 tt_ (by
      show Steps p.tables e below (T8.setTop (mkF m 29 #[.val (.int i0), .val (.int i1), .val (.int v1), .val (.int v2), .unset, .unset, .unset] [(.ref b4)])) _
      refine st16.trans ?_
      show Steps p.tables e below (T16.setTop (mkF m 32 #[.val (.int i0), .val (.int i1), .val (.int v1), .val (.int v2), .unset, .unset, .unset] [(.ref x_16)])) _
      refine XS.astore X16.here hx rfl (hb hby at_32) rfl rfl (l' := #[.val (.int i0), .val (.int i1), .val (.int v1), .val (.int v2), .val (.ref x_16), .unset, .unset]) rfl ?_
      show Steps p.tables e below (T16.setTop (mkF m 34 #[.val (.int i0), .val (.int i1), .val (.int v1), .val (.int v2), .val (.ref x_16), .unset, .unset] [])) _
      refine XS.iloadN X16.here hx rfl (hb hby at_34) rfl ?_
      show Steps p.tables e below (T16.setTop (mkF m 35 #[.val (.int i0), .val (.int i1), .val (.int v1), .val (.int v2), .val (.ref x_16), .unset, .unset] [(.int v1)])) _
      refine st32 _ ?_
      show Steps p.tables e below (T32.setTop (mkF m 38 #[.val (.int i0), .val (.int i1), .val (.int v1), .val (.int v2), .val (.ref x_16), .unset, .unset] [(.int (Int32.ofNat (Jvm.Free.SBG.digits n1)))])) _
      refine XS.istore X32.here hx rfl (hb hby at_38) rfl (l' := #[.val (.int i0), .val (.int i1), .val (.int v1), .val (.int v2), .val (.ref x_16), .val (.int (Int32.ofNat (Jvm.Free.SBG.digits n1))), .unset]) rfl ?_
      show Steps p.tables e below (T32.setTop (mkF m 40 #[.val (.int i0), .val (.int i1), .val (.int v1), .val (.int v2), .val (.ref x_16), .val (.int (Int32.ofNat (Jvm.Free.SBG.digits n1))), .unset] [])) _
      refine XS.iloadN X32.here hx rfl (hb hby at_40) rfl ?_
      show Steps p.tables e below (T32.setTop (mkF m 41 #[.val (.int i0), .val (.int i1), .val (.int v1), .val (.int v2), .val (.ref x_16), .val (.int (Int32.ofNat (Jvm.Free.SBG.digits n1))), .unset] [(.int v2)])) _
      refine st34 _ ?_
      show Steps p.tables e below (T34.setTop (mkF m 44 #[.val (.int i0), .val (.int i1), .val (.int v1), .val (.int v2), .val (.ref x_16), .val (.int (Int32.ofNat (Jvm.Free.SBG.digits n1))), .unset] [(.int (Int32.ofNat (Jvm.Free.SBG.digits n2)))])) _
      refine XS.istore X34.here hx rfl (hb hby at_44) rfl (l' := #[.val (.int i0), .val (.int i1), .val (.int v1), .val (.int v2), .val (.ref x_16), .val (.int (Int32.ofNat (Jvm.Free.SBG.digits n1))), .val (.int (Int32.ofNat (Jvm.Free.SBG.digits n2)))]) rfl ?_
      show Steps p.tables e below (T34.setTop (mkF m 46 #[.val (.int i0), .val (.int i1), .val (.int v1), .val (.int v2), .val (.ref x_16), .val (.int (Int32.ofNat (Jvm.Free.SBG.digits n1))), .val (.int (Int32.ofNat (Jvm.Free.SBG.digits n2)))] [])) _
      refine XS.aload X34.here hx rfl (hb hby at_46) rfl rfl ?_
      show Steps p.tables e below (T34.setTop (mkF m 48 #[.val (.int i0), .val (.int i1), .val (.int v1), .val (.int v2), .val (.ref x_16), .val (.int (Int32.ofNat (Jvm.Free.SBG.digits n1))), .val (.int (Int32.ofNat (Jvm.Free.SBG.digits n2)))] [(.ref x_16)])) _
      refine st35.trans ?_
      show Steps p.tables e below (T35.setTop (mkF m 51 #[.val (.int i0), .val (.int i1), .val (.int v1), .val (.int v2), .val (.ref x_16), .val (.int (Int32.ofNat (Jvm.Free.SBG.digits n1))), .val (.int (Int32.ofNat (Jvm.Free.SBG.digits n2)))] [(.int (Int32.ofNat ((([] ++ own_dec n1) ++ [47]) ++ own_dec n2).length))])) _
      exact kk_)
  have r37 : GoTo p.tables e below s₁ (own_F_own_law m i0 i1) T35 (mkF m 51 #[.val (.int i0), .val (.int i1), .val (.int v1), .val (.int v2), .val (.ref x_16), .val (.int (Int32.ofNat (Jvm.Free.SBG.digits n1))), .val (.int (Int32.ofNat (Jvm.Free.SBG.digits n2)))] [(.int (Int32.ofNat ((Jvm.Free.SBG.digits n1) + 1 + (Jvm.Free.SBG.digits n2))))]) := Eq.mp (congrArg (fun zz_ => GoTo p.tables e below s₁ (own_F_own_law m i0 i1) T35 (mkF m 51 #[.val (.int i0), .val (.int i1), .val (.int v1), .val (.int v2), .val (.ref x_16), .val (.int (Int32.ofNat (Jvm.Free.SBG.digits n1))), .val (.int (Int32.ofNat (Jvm.Free.SBG.digits n2)))] [(.int zz_)])) (show (Int32.ofNat ((([] ++ own_dec n1) ++ [47]) ++ own_dec n2).length) = (Int32.ofNat ((Jvm.Free.SBG.digits n1) + 1 + (Jvm.Free.SBG.digits n2))) from (by rw [hl3]))) r36
  have r38 : GoTo p.tables e below s₁ (own_F_own_law m i0 i1) T35 (mkF m 55 #[.val (.int i0), .val (.int i1), .val (.int v1), .val (.int v2), .val (.ref x_16), .val (.int (Int32.ofNat (Jvm.Free.SBG.digits n1))), .val (.int (Int32.ofNat (Jvm.Free.SBG.digits n2)))] [(.int ((Int32.ofNat (Jvm.Free.SBG.digits n1)) + (1 : Int32))), (.int (Int32.ofNat ((Jvm.Free.SBG.digits n1) + 1 + (Jvm.Free.SBG.digits n2))))]) := fun tt_ kk_ => r37 tt_ (by
      show Steps p.tables e below (T35.setTop (mkF m 51 #[.val (.int i0), .val (.int i1), .val (.int v1), .val (.int v2), .val (.ref x_16), .val (.int (Int32.ofNat (Jvm.Free.SBG.digits n1))), .val (.int (Int32.ofNat (Jvm.Free.SBG.digits n2)))] [(.int (Int32.ofNat ((Jvm.Free.SBG.digits n1) + 1 + (Jvm.Free.SBG.digits n2))))])) _
      refine XS.iload X35.here hx rfl (hb hby at_51) rfl ?_
      show Steps p.tables e below (T35.setTop (mkF m 53 #[.val (.int i0), .val (.int i1), .val (.int v1), .val (.int v2), .val (.ref x_16), .val (.int (Int32.ofNat (Jvm.Free.SBG.digits n1))), .val (.int (Int32.ofNat (Jvm.Free.SBG.digits n2)))] [(.int (Int32.ofNat (Jvm.Free.SBG.digits n1))), (.int (Int32.ofNat ((Jvm.Free.SBG.digits n1) + 1 + (Jvm.Free.SBG.digits n2))))])) _
      refine XS.iconst X35.here hx rfl (hb hby at_53) ?_
      show Steps p.tables e below (T35.setTop (mkF m 54 #[.val (.int i0), .val (.int i1), .val (.int v1), .val (.int v2), .val (.ref x_16), .val (.int (Int32.ofNat (Jvm.Free.SBG.digits n1))), .val (.int (Int32.ofNat (Jvm.Free.SBG.digits n2)))] [(.int (1 : Int32)), (.int (Int32.ofNat (Jvm.Free.SBG.digits n1))), (.int (Int32.ofNat ((Jvm.Free.SBG.digits n1) + 1 + (Jvm.Free.SBG.digits n2))))])) _
      refine XS.iadd X35.here hx rfl (hb hby at_54) rfl ?_
      show Steps p.tables e below (T35.setTop (mkF m 55 #[.val (.int i0), .val (.int i1), .val (.int v1), .val (.int v2), .val (.ref x_16), .val (.int (Int32.ofNat (Jvm.Free.SBG.digits n1))), .val (.int (Int32.ofNat (Jvm.Free.SBG.digits n2)))] [(.int ((Int32.ofNat (Jvm.Free.SBG.digits n1)) + (1 : Int32))), (.int (Int32.ofNat ((Jvm.Free.SBG.digits n1) + 1 + (Jvm.Free.SBG.digits n2))))])) _
      exact kk_)
  have r39 : GoTo p.tables e below s₁ (own_F_own_law m i0 i1) T35 (mkF m 55 #[.val (.int i0), .val (.int i1), .val (.int v1), .val (.int v2), .val (.ref x_16), .val (.int (Int32.ofNat (Jvm.Free.SBG.digits n1))), .val (.int (Int32.ofNat (Jvm.Free.SBG.digits n2)))] [(.int (Int32.ofNat ((Jvm.Free.SBG.digits n1) + 1))), (.int (Int32.ofNat ((Jvm.Free.SBG.digits n1) + 1 + (Jvm.Free.SBG.digits n2))))]) := Eq.mp (congrArg (fun zz_ => GoTo p.tables e below s₁ (own_F_own_law m i0 i1) T35 (mkF m 55 #[.val (.int i0), .val (.int i1), .val (.int v1), .val (.int v2), .val (.ref x_16), .val (.int (Int32.ofNat (Jvm.Free.SBG.digits n1))), .val (.int (Int32.ofNat (Jvm.Free.SBG.digits n2)))] [(.int zz_), (.int (Int32.ofNat ((Jvm.Free.SBG.digits n1) + 1 + (Jvm.Free.SBG.digits n2))))])) (show ((Int32.ofNat (Jvm.Free.SBG.digits n1)) + (1 : Int32)) = (Int32.ofNat ((Jvm.Free.SBG.digits n1) + 1)) from (own_addN (b := 1)))) r38
  have r40 : GoTo p.tables e below s₁ (own_F_own_law m i0 i1) T35 (mkF m 58 #[.val (.int i0), .val (.int i1), .val (.int v1), .val (.int v2), .val (.ref x_16), .val (.int (Int32.ofNat (Jvm.Free.SBG.digits n1))), .val (.int (Int32.ofNat (Jvm.Free.SBG.digits n2)))] [(.int ((Int32.ofNat ((Jvm.Free.SBG.digits n1) + 1)) + (Int32.ofNat (Jvm.Free.SBG.digits n2)))), (.int (Int32.ofNat ((Jvm.Free.SBG.digits n1) + 1 + (Jvm.Free.SBG.digits n2))))]) := fun tt_ kk_ => r39 tt_ (by
      show Steps p.tables e below (T35.setTop (mkF m 55 #[.val (.int i0), .val (.int i1), .val (.int v1), .val (.int v2), .val (.ref x_16), .val (.int (Int32.ofNat (Jvm.Free.SBG.digits n1))), .val (.int (Int32.ofNat (Jvm.Free.SBG.digits n2)))] [(.int (Int32.ofNat ((Jvm.Free.SBG.digits n1) + 1))), (.int (Int32.ofNat ((Jvm.Free.SBG.digits n1) + 1 + (Jvm.Free.SBG.digits n2))))])) _
      refine XS.iload X35.here hx rfl (hb hby at_55) rfl ?_
      show Steps p.tables e below (T35.setTop (mkF m 57 #[.val (.int i0), .val (.int i1), .val (.int v1), .val (.int v2), .val (.ref x_16), .val (.int (Int32.ofNat (Jvm.Free.SBG.digits n1))), .val (.int (Int32.ofNat (Jvm.Free.SBG.digits n2)))] [(.int (Int32.ofNat (Jvm.Free.SBG.digits n2))), (.int (Int32.ofNat ((Jvm.Free.SBG.digits n1) + 1))), (.int (Int32.ofNat ((Jvm.Free.SBG.digits n1) + 1 + (Jvm.Free.SBG.digits n2))))])) _
      refine XS.iadd X35.here hx rfl (hb hby at_57) rfl ?_
      show Steps p.tables e below (T35.setTop (mkF m 58 #[.val (.int i0), .val (.int i1), .val (.int v1), .val (.int v2), .val (.ref x_16), .val (.int (Int32.ofNat (Jvm.Free.SBG.digits n1))), .val (.int (Int32.ofNat (Jvm.Free.SBG.digits n2)))] [(.int ((Int32.ofNat ((Jvm.Free.SBG.digits n1) + 1)) + (Int32.ofNat (Jvm.Free.SBG.digits n2)))), (.int (Int32.ofNat ((Jvm.Free.SBG.digits n1) + 1 + (Jvm.Free.SBG.digits n2))))])) _
      exact kk_)
  have r41 : GoTo p.tables e below s₁ (own_F_own_law m i0 i1) T35 (mkF m 58 #[.val (.int i0), .val (.int i1), .val (.int v1), .val (.int v2), .val (.ref x_16), .val (.int (Int32.ofNat (Jvm.Free.SBG.digits n1))), .val (.int (Int32.ofNat (Jvm.Free.SBG.digits n2)))] [(.int (Int32.ofNat ((Jvm.Free.SBG.digits n1) + 1 + (Jvm.Free.SBG.digits n2)))), (.int (Int32.ofNat ((Jvm.Free.SBG.digits n1) + 1 + (Jvm.Free.SBG.digits n2))))]) := Eq.mp (congrArg (fun zz_ => GoTo p.tables e below s₁ (own_F_own_law m i0 i1) T35 (mkF m 58 #[.val (.int i0), .val (.int i1), .val (.int v1), .val (.int v2), .val (.ref x_16), .val (.int (Int32.ofNat (Jvm.Free.SBG.digits n1))), .val (.int (Int32.ofNat (Jvm.Free.SBG.digits n2)))] [(.int zz_), (.int (Int32.ofNat ((Jvm.Free.SBG.digits n1) + 1 + (Jvm.Free.SBG.digits n2))))])) (show ((Int32.ofNat ((Jvm.Free.SBG.digits n1) + 1)) + (Int32.ofNat (Jvm.Free.SBG.digits n2))) = (Int32.ofNat ((Jvm.Free.SBG.digits n1) + 1 + (Jvm.Free.SBG.digits n2))) from own_addN)) r40
  obtain ⟨Lg42, X42, N42⟩ : ∃ L' : List Loc, Stand p l e room_1 (s.setVm T16.vm) m #[(.int i0), (.int i1)] below meth c T35 L' 10 834 ∧ Fr n0 L' := ⟨_, X35, N35⟩
  obtain ⟨cq43, kq43, qa43, qb43, qc43⟩ := isOf hZ hh35 po16_3.1
  obtain ⟨_, _, ⟨T43, L43, k43, n43⟩, -, X43, ⟨Lc43, hQ43, l43, y43, z43⟩, st43⟩ := X42.virtualBack hx (y := (⟨"java/lang/String", "charAt", "(I)C"⟩ : MethodName)) (z := (⟨"java/lang/String", "charAt", "(I)C"⟩ : MethodName)) hown (mvT hZ (hw _ (List.mem_of_getElem? (i := 170) rfl))) (mvT hZ (hw _ (List.mem_of_getElem? (i := 171) rfl))) (notFace_of_selects (args := #[]) (mvT hZ (hw _ (List.mem_of_getElem? (i := 173) rfl)))) (mvT hZ (hw _ (List.mem_of_getElem? (i := 173) rfl))) (mvT hZ (hw _ (List.mem_of_getElem? (i := 172) rfl))) (by decide) (backOf (W := 0) (own_chAt l Z a0 hw [] (x_16) (t_16) (kt_16) (((([] ++ own_dec n1) ++ [47]) ++ own_dec n2)) ((Jvm.Free.SBG.digits n1)) (gCS) (gFM) T16.heap n0 (O29.keep K31 (allS g5 all0)) (po16_3) (by rw [hl3]; omega) (hp0) (hG1) (hp2) (hG3)) hZ (hw _ (List.mem_of_getElem? (i := 174) rfl)) (hw _ (List.mem_of_getElem? (i := 38) rfl)) (by decide) (by decide)) qa43 qc43 (g := (mkF m 67 #[.val (.int i0), .val (.int i1), .val (.int v1), .val (.int v2), .val (.ref x_16), .val (.int (Int32.ofNat (Jvm.Free.SBG.digits n1))), .val (.int (Int32.ofNat (Jvm.Free.SBG.digits n2)))] [(.int (Int32.ofNat (Jvm.Free.SBG.digits n1))), (.ref x_16)])) rfl (by rw [hml]; rfl) (Steps.refl _) (argsL := [(.int (Int32.ofNat (Jvm.Free.SBG.digits n1)))]) (rest := []) (lenOf own_pd21 rfl) rfl (by show 2 * 0 + _ ≤ _; exact Nat.le_of_eq rfl) (hb hby at_67) (fun _ _ => ⟨rfl, hh35, (by decide : 10 + 0 ≤ _), (by decide : 834 + 0 ≤ _)⟩)
  dsimp only [Pt.U, Pt.locs, Pt.cells, Pt.slots] at X43 l43 y43 z43 st43 hQ43
  subst l43 y43 z43
  obtain ⟨rfl, Nq43, hh43⟩ := hQ43
  have N43 := Fr.app N42 Nq43
  have r44 : GoTo p.tables e below s₁ (own_F_own_law m i0 i1) T43 (mkF m 70 #[.val (.int i0), .val (.int i1), .val (.int v1), .val (.int v2), .val (.ref x_16), .val (.int (Int32.ofNat (Jvm.Free.SBG.digits n1))), .val (.int (Int32.ofNat (Jvm.Free.SBG.digits n2)))] [(.int (((([] ++ own_dec n1) ++ [47]) ++ own_dec n2).getD (Jvm.Free.SBG.digits n1) 0))]) := fun tt_ kk_ => r41 tt_ (by
      show Steps p.tables e below (T35.setTop (mkF m 58 #[.val (.int i0), .val (.int i1), .val (.int v1), .val (.int v2), .val (.ref x_16), .val (.int (Int32.ofNat (Jvm.Free.SBG.digits n1))), .val (.int (Int32.ofNat (Jvm.Free.SBG.digits n2)))] [(.int (Int32.ofNat ((Jvm.Free.SBG.digits n1) + 1 + (Jvm.Free.SBG.digits n2)))), (.int (Int32.ofNat ((Jvm.Free.SBG.digits n1) + 1 + (Jvm.Free.SBG.digits n2))))])) _
      refine XS.icmpYes X35.here hx rfl (pc0 := 58) (pc' := 63) rfl (hb hby at_58) rfl (teq rfl).1 (by decide) (by decide) ?_
      show Steps p.tables e below (T35.setTop (mkF m 63 #[.val (.int i0), .val (.int i1), .val (.int v1), .val (.int v2), .val (.ref x_16), .val (.int (Int32.ofNat (Jvm.Free.SBG.digits n1))), .val (.int (Int32.ofNat (Jvm.Free.SBG.digits n2)))] [])) _
      refine XS.aload X35.here hx rfl (hb hby at_63) rfl rfl ?_
      show Steps p.tables e below (T35.setTop (mkF m 65 #[.val (.int i0), .val (.int i1), .val (.int v1), .val (.int v2), .val (.ref x_16), .val (.int (Int32.ofNat (Jvm.Free.SBG.digits n1))), .val (.int (Int32.ofNat (Jvm.Free.SBG.digits n2)))] [(.ref x_16)])) _
      refine XS.iload X35.here hx rfl (hb hby at_65) rfl ?_
      show Steps p.tables e below (T35.setTop (mkF m 67 #[.val (.int i0), .val (.int i1), .val (.int v1), .val (.int v2), .val (.ref x_16), .val (.int (Int32.ofNat (Jvm.Free.SBG.digits n1))), .val (.int (Int32.ofNat (Jvm.Free.SBG.digits n2)))] [(.int (Int32.ofNat (Jvm.Free.SBG.digits n1))), (.ref x_16)])) _
      refine st43.trans ?_
      show Steps p.tables e below (T43.setTop (mkF m 70 #[.val (.int i0), .val (.int i1), .val (.int v1), .val (.int v2), .val (.ref x_16), .val (.int (Int32.ofNat (Jvm.Free.SBG.digits n1))), .val (.int (Int32.ofNat (Jvm.Free.SBG.digits n2)))] [(.int (((([] ++ own_dec n1) ++ [47]) ++ own_dec n2).getD (Jvm.Free.SBG.digits n1) 0))])) _
      exact kk_)
  have r45 : GoTo p.tables e below s₁ (own_F_own_law m i0 i1) T43 (mkF m 70 #[.val (.int i0), .val (.int i1), .val (.int v1), .val (.int v2), .val (.ref x_16), .val (.int (Int32.ofNat (Jvm.Free.SBG.digits n1))), .val (.int (Int32.ofNat (Jvm.Free.SBG.digits n2)))] [(.int (47 : Int32))]) := Eq.mp (congrArg (fun zz_ => GoTo p.tables e below s₁ (own_F_own_law m i0 i1) T43 (mkF m 70 #[.val (.int i0), .val (.int i1), .val (.int v1), .val (.int v2), .val (.ref x_16), .val (.int (Int32.ofNat (Jvm.Free.SBG.digits n1))), .val (.int (Int32.ofNat (Jvm.Free.SBG.digits n2)))] [(.int zz_)])) (show (((([] ++ own_dec n1) ++ [47]) ++ own_dec n2).getD (Jvm.Free.SBG.digits n1) 0) = (47 : Int32) from (by have q := own_catAt (A := [] ++ own_dec n1) (D := [47]) (B := own_dec n2) (t := 0) (by decide); rw [hl1] at q; exact q))) r44
  obtain ⟨_, _, ⟨T46, L46, k46, n46⟩, -, X46, ⟨Lc46, hQ46, l46, y46, z46⟩, st46⟩ := Jvm.LawKit.callS X43 hx (y := (⟨"com/example/myna/myna/limits/RateLimitToStringPinLaw", "number", "(Ljava/lang/String;III)Z"⟩ : MethodName)) hown (mvT hZ (hw _ (List.mem_of_getElem? (i := 192) rfl))) (mvT hZ (hw _ (List.mem_of_getElem? (i := 193) rfl))) (mvT hZ (hw _ (List.mem_of_getElem? (i := 167) rfl))) (mvT hZ (hw _ (List.mem_of_getElem? (i := 194) rfl))) (by decide) (backOf (W := 0) (own_number l Z a0 hw [] (x_16) (t_16) (kt_16) (((([] ++ own_dec n1) ++ [47]) ++ own_dec n2)) (0) (v1) (n1) (gCS) (gFM) T16.heap n0 (O29.keep K31 (allS g5 all0)) (po16_3) (hv1) (by rw [hl3]; omega) (fun t ht => by have q := own_catAt0 (D := own_dec n1) (B := [47] ++ own_dec n2) (t := t) (by rw [own_dec_len]; exact ht); rw [← List.append_assoc] at q; exact q) (hp0) (hG1) (hp2) (hG3)) hZ (hw _ (List.mem_of_getElem? (i := 194) rfl)) (hw _ (List.mem_of_getElem? (i := 167) rfl)) (by decide) (by decide)) (g := (mkF m 83 #[.val (.int i0), .val (.int i1), .val (.int v1), .val (.int v2), .val (.ref x_16), .val (.int (Int32.ofNat (Jvm.Free.SBG.digits n1))), .val (.int (Int32.ofNat (Jvm.Free.SBG.digits n2)))] [(.int (Int32.ofNat (Jvm.Free.SBG.digits n1))), (.int v1), (.int (0 : Int32)), (.ref x_16)])) rfl (by rw [hml]; rfl) (argsL := [(.ref x_16), (.int (0 : Int32)), (.int v1), (.int (Int32.ofNat (Jvm.Free.SBG.digits n1)))]) (rest := []) (lenOf own_pd27 rfl) rfl (by show 2 * 0 + _ ≤ _; exact Nat.le_of_eq rfl) (hb hby at_83) (fun _ _ => ⟨rfl, hh43, (by decide : 10 + 0 ≤ _), (by decide : 834 + 0 ≤ _)⟩)
  dsimp only [Pt.U, Pt.locs, Pt.cells, Pt.slots] at X46 l46 y46 z46 st46 hQ46
  subst l46 y46 z46
  obtain ⟨rfl, Nq46, hh46⟩ := hQ46
  have N46 := Fr.app N43 Nq46
  have r47 : GoTo p.tables e below s₁ (own_F_own_law m i0 i1) T46 (mkF m 95 #[.val (.int i0), .val (.int i1), .val (.int v1), .val (.int v2), .val (.ref x_16), .val (.int (Int32.ofNat (Jvm.Free.SBG.digits n1))), .val (.int (Int32.ofNat (Jvm.Free.SBG.digits n2)))] [(.int ((Int32.ofNat (Jvm.Free.SBG.digits n1)) + (1 : Int32))), (.ref x_16)]) := fun tt_ kk_ => r45 tt_ (by
      show Steps p.tables e below (T43.setTop (mkF m 70 #[.val (.int i0), .val (.int i1), .val (.int v1), .val (.int v2), .val (.ref x_16), .val (.int (Int32.ofNat (Jvm.Free.SBG.digits n1))), .val (.int (Int32.ofNat (Jvm.Free.SBG.digits n2)))] [(.int (47 : Int32))])) _
      refine XS.bipush X43.here hx rfl (hb hby at_70) ?_
      show Steps p.tables e below (T43.setTop (mkF m 72 #[.val (.int i0), .val (.int i1), .val (.int v1), .val (.int v2), .val (.ref x_16), .val (.int (Int32.ofNat (Jvm.Free.SBG.digits n1))), .val (.int (Int32.ofNat (Jvm.Free.SBG.digits n2)))] [(.int (47 : Int32)), (.int (47 : Int32))])) _
      refine XS.icmpYes X43.here hx rfl (pc0 := 72) (pc' := 77) rfl (hb hby at_72) rfl (teq rfl).1 (by decide) (by decide) ?_
      show Steps p.tables e below (T43.setTop (mkF m 77 #[.val (.int i0), .val (.int i1), .val (.int v1), .val (.int v2), .val (.ref x_16), .val (.int (Int32.ofNat (Jvm.Free.SBG.digits n1))), .val (.int (Int32.ofNat (Jvm.Free.SBG.digits n2)))] [])) _
      refine XS.aload X43.here hx rfl (hb hby at_77) rfl rfl ?_
      show Steps p.tables e below (T43.setTop (mkF m 79 #[.val (.int i0), .val (.int i1), .val (.int v1), .val (.int v2), .val (.ref x_16), .val (.int (Int32.ofNat (Jvm.Free.SBG.digits n1))), .val (.int (Int32.ofNat (Jvm.Free.SBG.digits n2)))] [(.ref x_16)])) _
      refine XS.iconst X43.here hx rfl (hb hby at_79) ?_
      show Steps p.tables e below (T43.setTop (mkF m 80 #[.val (.int i0), .val (.int i1), .val (.int v1), .val (.int v2), .val (.ref x_16), .val (.int (Int32.ofNat (Jvm.Free.SBG.digits n1))), .val (.int (Int32.ofNat (Jvm.Free.SBG.digits n2)))] [(.int (0 : Int32)), (.ref x_16)])) _
      refine XS.iloadN X43.here hx rfl (hb hby at_80) rfl ?_
      show Steps p.tables e below (T43.setTop (mkF m 81 #[.val (.int i0), .val (.int i1), .val (.int v1), .val (.int v2), .val (.ref x_16), .val (.int (Int32.ofNat (Jvm.Free.SBG.digits n1))), .val (.int (Int32.ofNat (Jvm.Free.SBG.digits n2)))] [(.int v1), (.int (0 : Int32)), (.ref x_16)])) _
      refine XS.iload X43.here hx rfl (hb hby at_81) rfl ?_
      show Steps p.tables e below (T43.setTop (mkF m 83 #[.val (.int i0), .val (.int i1), .val (.int v1), .val (.int v2), .val (.ref x_16), .val (.int (Int32.ofNat (Jvm.Free.SBG.digits n1))), .val (.int (Int32.ofNat (Jvm.Free.SBG.digits n2)))] [(.int (Int32.ofNat (Jvm.Free.SBG.digits n1))), (.int v1), (.int (0 : Int32)), (.ref x_16)])) _
      refine st46 _ ?_
      show Steps p.tables e below (T46.setTop (mkF m 86 #[.val (.int i0), .val (.int i1), .val (.int v1), .val (.int v2), .val (.ref x_16), .val (.int (Int32.ofNat (Jvm.Free.SBG.digits n1))), .val (.int (Int32.ofNat (Jvm.Free.SBG.digits n2)))] [(.int (1 : Int32))])) _
      refine XS.ifNo X46.here hx rfl (hb hby at_86) rfl ((if0 _ _).trans (feq (by decide)).1) ?_
      show Steps p.tables e below (T46.setTop (mkF m 89 #[.val (.int i0), .val (.int i1), .val (.int v1), .val (.int v2), .val (.ref x_16), .val (.int (Int32.ofNat (Jvm.Free.SBG.digits n1))), .val (.int (Int32.ofNat (Jvm.Free.SBG.digits n2)))] [])) _
      refine XS.aload X46.here hx rfl (hb hby at_89) rfl rfl ?_
      show Steps p.tables e below (T46.setTop (mkF m 91 #[.val (.int i0), .val (.int i1), .val (.int v1), .val (.int v2), .val (.ref x_16), .val (.int (Int32.ofNat (Jvm.Free.SBG.digits n1))), .val (.int (Int32.ofNat (Jvm.Free.SBG.digits n2)))] [(.ref x_16)])) _
      refine XS.iload X46.here hx rfl (hb hby at_91) rfl ?_
      show Steps p.tables e below (T46.setTop (mkF m 93 #[.val (.int i0), .val (.int i1), .val (.int v1), .val (.int v2), .val (.ref x_16), .val (.int (Int32.ofNat (Jvm.Free.SBG.digits n1))), .val (.int (Int32.ofNat (Jvm.Free.SBG.digits n2)))] [(.int (Int32.ofNat (Jvm.Free.SBG.digits n1))), (.ref x_16)])) _
      refine XS.iconst X46.here hx rfl (hb hby at_93) ?_
      show Steps p.tables e below (T46.setTop (mkF m 94 #[.val (.int i0), .val (.int i1), .val (.int v1), .val (.int v2), .val (.ref x_16), .val (.int (Int32.ofNat (Jvm.Free.SBG.digits n1))), .val (.int (Int32.ofNat (Jvm.Free.SBG.digits n2)))] [(.int (1 : Int32)), (.int (Int32.ofNat (Jvm.Free.SBG.digits n1))), (.ref x_16)])) _
      refine XS.iadd X46.here hx rfl (hb hby at_94) rfl ?_
      show Steps p.tables e below (T46.setTop (mkF m 95 #[.val (.int i0), .val (.int i1), .val (.int v1), .val (.int v2), .val (.ref x_16), .val (.int (Int32.ofNat (Jvm.Free.SBG.digits n1))), .val (.int (Int32.ofNat (Jvm.Free.SBG.digits n2)))] [(.int ((Int32.ofNat (Jvm.Free.SBG.digits n1)) + (1 : Int32))), (.ref x_16)])) _
      exact kk_)
  have r48 : GoTo p.tables e below s₁ (own_F_own_law m i0 i1) T46 (mkF m 95 #[.val (.int i0), .val (.int i1), .val (.int v1), .val (.int v2), .val (.ref x_16), .val (.int (Int32.ofNat (Jvm.Free.SBG.digits n1))), .val (.int (Int32.ofNat (Jvm.Free.SBG.digits n2)))] [(.int (Int32.ofNat ((Jvm.Free.SBG.digits n1) + 1))), (.ref x_16)]) := Eq.mp (congrArg (fun zz_ => GoTo p.tables e below s₁ (own_F_own_law m i0 i1) T46 (mkF m 95 #[.val (.int i0), .val (.int i1), .val (.int v1), .val (.int v2), .val (.ref x_16), .val (.int (Int32.ofNat (Jvm.Free.SBG.digits n1))), .val (.int (Int32.ofNat (Jvm.Free.SBG.digits n2)))] [(.int zz_), (.ref x_16)])) (show ((Int32.ofNat (Jvm.Free.SBG.digits n1)) + (1 : Int32)) = (Int32.ofNat ((Jvm.Free.SBG.digits n1) + 1)) from (own_addN (b := 1)))) r47
  obtain ⟨Lg49, X49, N49⟩ : ∃ L' : List Loc, Stand p l e room_1 (s.setVm T16.vm) m #[(.int i0), (.int i1)] below meth c T46 L' 10 834 ∧ Fr n0 L' := ⟨_, X46, N46⟩
  obtain ⟨_, _, ⟨T50, L50, k50, n50⟩, -, X50, ⟨Lc50, hQ50, l50, y50, z50⟩, st50⟩ := Jvm.LawKit.callS X49 hx (y := (⟨"com/example/myna/myna/limits/RateLimitToStringPinLaw", "number", "(Ljava/lang/String;III)Z"⟩ : MethodName)) hown (mvT hZ (hw _ (List.mem_of_getElem? (i := 192) rfl))) (mvT hZ (hw _ (List.mem_of_getElem? (i := 193) rfl))) (mvT hZ (hw _ (List.mem_of_getElem? (i := 167) rfl))) (mvT hZ (hw _ (List.mem_of_getElem? (i := 194) rfl))) (by decide) (backOf (W := 0) (own_number l Z a0 hw [] (x_16) (t_16) (kt_16) (((([] ++ own_dec n1) ++ [47]) ++ own_dec n2)) (((Jvm.Free.SBG.digits n1) + 1)) (v2) (n2) (gCS) (gFM) T16.heap n0 (O29.keep K31 (allS g5 all0)) (po16_3) (hv2) (by rw [hl3]; omega) (fun t ht => by rw [← hl2]; exact own_catAt2) (hp0) (hG1) (hp2) (hG3)) hZ (hw _ (List.mem_of_getElem? (i := 194) rfl)) (hw _ (List.mem_of_getElem? (i := 167) rfl)) (by decide) (by decide)) (g := (mkF m 98 #[.val (.int i0), .val (.int i1), .val (.int v1), .val (.int v2), .val (.ref x_16), .val (.int (Int32.ofNat (Jvm.Free.SBG.digits n1))), .val (.int (Int32.ofNat (Jvm.Free.SBG.digits n2)))] [(.int (Int32.ofNat (Jvm.Free.SBG.digits n2))), (.int v2), (.int (Int32.ofNat ((Jvm.Free.SBG.digits n1) + 1))), (.ref x_16)])) rfl (by rw [hml]; rfl) (argsL := [(.ref x_16), (.int (Int32.ofNat ((Jvm.Free.SBG.digits n1) + 1))), (.int v2), (.int (Int32.ofNat (Jvm.Free.SBG.digits n2)))]) (rest := []) (lenOf own_pd27 rfl) rfl (by show 2 * 0 + _ ≤ _; exact Nat.le_of_eq rfl) (hb hby at_98) (fun _ _ => ⟨rfl, hh46, (by decide : 10 + 0 ≤ _), (by decide : 834 + 0 ≤ _)⟩)
  dsimp only [Pt.U, Pt.locs, Pt.cells, Pt.slots] at X50 l50 y50 z50 st50 hQ50
  subst l50 y50 z50
  obtain ⟨rfl, Nq50, hh50⟩ := hQ50
  have N50 := Fr.app N49 Nq50
  obtain ⟨fs, hr, hrun, hended, hRW⟩ := Stand.leaveW (s := s) (vm₁ := T16.vm) X50 hSn16 (by rw [hh50]; exact (Nat.le_trans (Nat.le_refl _) K31.1)) (v := some (.int (nar .boolean (1 : Int32)))) (fun h => by rw [Bd.returns] at h; cases h)
  refine ⟨_, _, r48 _ ?_, hrun, hended, _, _, rfl, ?_, ⟨hRW.1, hRW.2.1, hRW.2.2.1, hRW.2.2.2.mono (by decide) (by decide)⟩⟩
  · show Steps p.tables e below (T46.setTop (mkF m 95 #[.val (.int i0), .val (.int i1), .val (.int v1), .val (.int v2), .val (.ref x_16), .val (.int (Int32.ofNat (Jvm.Free.SBG.digits n1))), .val (.int (Int32.ofNat (Jvm.Free.SBG.digits n2)))] [(.int (Int32.ofNat ((Jvm.Free.SBG.digits n1) + 1))), (.ref x_16)])) _
    refine XS.iloadN X46.here hx rfl (hb hby at_95) rfl ?_
    show Steps p.tables e below (T46.setTop (mkF m 96 #[.val (.int i0), .val (.int i1), .val (.int v1), .val (.int v2), .val (.ref x_16), .val (.int (Int32.ofNat (Jvm.Free.SBG.digits n1))), .val (.int (Int32.ofNat (Jvm.Free.SBG.digits n2)))] [(.int v2), (.int (Int32.ofNat ((Jvm.Free.SBG.digits n1) + 1))), (.ref x_16)])) _
    refine XS.iload X46.here hx rfl (hb hby at_96) rfl ?_
    show Steps p.tables e below (T46.setTop (mkF m 98 #[.val (.int i0), .val (.int i1), .val (.int v1), .val (.int v2), .val (.ref x_16), .val (.int (Int32.ofNat (Jvm.Free.SBG.digits n1))), .val (.int (Int32.ofNat (Jvm.Free.SBG.digits n2)))] [(.int (Int32.ofNat (Jvm.Free.SBG.digits n2))), (.int v2), (.int (Int32.ofNat ((Jvm.Free.SBG.digits n1) + 1))), (.ref x_16)])) _
    refine st50 _ ?_
    show Steps p.tables e below (T50.setTop (mkF m 101 #[.val (.int i0), .val (.int i1), .val (.int v1), .val (.int v2), .val (.ref x_16), .val (.int (Int32.ofNat (Jvm.Free.SBG.digits n1))), .val (.int (Int32.ofNat (Jvm.Free.SBG.digits n2)))] [(.int (1 : Int32))])) _
    refine XS.ifNo X50.here hx rfl (hb hby at_101) rfl ((if0 _ _).trans (feq (by decide)).1) ?_
    show Steps p.tables e below (T50.setTop (mkF m 104 #[.val (.int i0), .val (.int i1), .val (.int v1), .val (.int v2), .val (.ref x_16), .val (.int (Int32.ofNat (Jvm.Free.SBG.digits n1))), .val (.int (Int32.ofNat (Jvm.Free.SBG.digits n2)))] [])) _
    refine XS.iconst X50.here hx rfl (hb hby at_104) ?_
    show Steps p.tables e below (T50.setTop (mkF m 105 #[.val (.int i0), .val (.int i1), .val (.int v1), .val (.int v2), .val (.ref x_16), .val (.int (Int32.ofNat (Jvm.Free.SBG.digits n1))), .val (.int (Int32.ofNat (Jvm.Free.SBG.digits n2)))] [(.int (1 : Int32))])) _
    refine XS.goto X50.here hx rfl (pc0 := 105) (pc' := 109) rfl (hb hby at_105) (by decide) (by decide) ?_
    show Steps p.tables e below (T50.setTop (mkF m 109 #[.val (.int i0), .val (.int i1), .val (.int v1), .val (.int v2), .val (.ref x_16), .val (.int (Int32.ofNat (Jvm.Free.SBG.digits n1))), .val (.int (Int32.ofNat (Jvm.Free.SBG.digits n2)))] [(.int (1 : Int32))])) _
    exact retN X50 hx (t := .boolean) Bd.returns (by simp) (hb hby at_109) hr
  · show Q_own_law Z i0 i1 gCS gFM ist dt1 dt2 cD1 cD2 h0 n0 _ T50.heap _
    rw [hh50]
    exact ⟨rfl, N50⟩
theorem own_eqI {t : Term} {args : Array Value} {s : State} {k : Int32} (h : (Jvm.Cond.eq t (Jvm.Term.int k)).value args s none s [] = some true) : t.eval args s none [] s = some (.int k) := by
  obtain ⟨x, y, h1, h2, h3, h4⟩ := cmp_v (Or.inl h)
  have h5 : (Jvm.Term.int k).eval args s none [] s = some (.int k) := Term.int_eval k
  rw [h5] at h2
  obtain rfl : (Value.int k) = y := Option.some.inj h2
  obtain ⟨z, rfl⟩ := h4
  have h6 : (Jvm.Cond.eq t (Jvm.Term.int k)).value args s none s [] = some (decide (z = k)) := by simp [Cond.value, h1, h5]
  rw [h6] at h
  have h7 : z = k := of_decide_eq_true (Option.some.inj h)
  rw [h1, h7]
theorem own_ord {s : State} {args : Array Value} {t t' : Term} {a b : Addr} {C n d : String} {i j : Int32} (ha : t.eval args s none [] s = some (.ref a)) (hb : t'.eval args s none [] s = some (.ref b))
    (h1 : (Jvm.Cond.eq (Jvm.Term.field t C n d) (Jvm.Term.int i)).value args s none s [] = some true) (h2 : (Jvm.Cond.eq (Jvm.Term.field t' C n d) (Jvm.Term.int j)).value args s none s [] = some true) (hij : i ≠ j) : a ≠ b := fun e => by
  subst e
  have e1 := own_eqI h1; have e2 := own_eqI h2
  rw [fld_at ha] at e1; rw [fld_at hb] at e2
  rw [e1] at e2
  exact hij (Value.int.inj (Option.some.inj e2))
set_option maxRecDepth 65536 in
set_option maxHeartbeats 40000000 in
theorem comes_1 {Post : Tables → Env → Array Value → State → Outcome → State → Prop} (hpost : ∀ tb e args s v u, (limb_1_1.after args s (.returned v) u = true ∧ limb_1_2.after args s (.returned v) u = true ∧ True) → ReturnedEndW s (.returned v) u (Jvm.fieldLocs frame_1_writes args s ++ Jvm.arrayLocs frame_1_arrays args s ++ Jvm.staticLocs frame_1_statics s) 24 1280 → Post tb e args s (.returned v) u) :
    ArmFor flags0 classFile x code maxLocals ret World_1 tables_1 room_1 Calls_1 rest_1 Pre_1 Post := by
  intro l hfl _ _ p e ha hc hk s m args below hf hA hF happ hP
  obtain ⟨hcalls, hrest, hpre⟩ := hP
  obtain ⟨-, -, -, hnamed, -, -, -, hat⟩ := (Spec.applies_iff hf).mp happ
  obtain ⟨hg, hn⟩ := and_e (Cond.before_iff.mp (show (Jvm.Cond.and given_1 narrow_1).before args s = true from hpre))
  obtain ⟨g0, g1⟩ := and_e hg
  obtain ⟨g1, g2⟩ := and_e g1
  obtain ⟨w0, w1, rfl⟩ : ∃ (w0 : Value) (w1 : Value), args = #[w0, w1] := by
    have hs : args.size = 2 := by simpa [Cond.value, given_1] using g0
    obtain ⟨L⟩ := args
    match L, hs with
    | [w0, w1], _ => exact ⟨w0, w1, rfl⟩
  have hw := fun d (hd : d ∈ tables_1) => atoms_spec (ws := Jvm.Cond.code x code maxLocals ret :: tables_1) hat d (List.mem_cons_of_mem _ hd)
  obtain ⟨hsets, hown0⟩ := atoms_of _ (rest_1_c_eq ▸ (show rest_1_c.before _ s = true from hrest))
  have hfit : Fit s := fun {y c} hc i hi => by
    obtain ⟨ha, rfl⟩ := Array.getElem?_eq_some_iff.mp hc
    have q := List.all_eq_true.mp ((Array.all_eq_true_iff_forall_mem.mp hF) _ (Array.getElem_mem ha)) i (List.mem_range.mpr hi)
    simpa [Array.getElem?_eq_getElem hi] using q
  obtain ⟨i0, ev0⟩ := is_v g1
  obtain rfl : w0 = (.int i0) := Option.some.inj ev0
  obtain ⟨i1, ev1⟩ := is_v g2
  obtain rfl : w1 = (.int i1) := Option.some.inj ev1
  obtain ⟨G1, eG1⟩ := is_v (Cond.before_iff.mp (hsets _ (List.mem_of_getElem? (i := 1) rfl)))
  have S_CS : Sta s s.heap "java/lang/String" "COMPACT_STRINGS" "Z" (.int G1) := Sta.start eG1 (Or.inl (hsets _ (List.mem_of_getElem? (i := 0) rfl)))
  have nG1 := not_v (Cond.before_iff.mp (hsets _ (List.mem_of_getElem? (i := 2) rfl)))
  have hG1 : ¬ (G1 = (0 : Int32)) := gotF (Cond.eq_ints eG1 (Term.int_eval (0))) nG1
  obtain ⟨G3, eG3, hG3⟩ := isR_v (Cond.before_iff.mp (hsets _ (List.mem_of_getElem? (i := 8) rfl)))
  have S_FM : Sta s s.heap "jdk/internal/util/Preconditions" "SIOOBE_FORMATTER" "Ljava/util/function/BiFunction;" G3 := Sta.start eG3 (Or.inl (hsets _ (List.mem_of_getElem? (i := 7) rfl)))
  obtain ⟨ist, dt1, D1, dt2, D2, hT1, hO1, hT2, hO2⟩ := Jvm.SetKit.digits_of hfit (hw _ (List.mem_of_getElem? (i := 39) rfl)) (hsets _ (List.mem_of_getElem? (i := 9) rfl)) (hsets _ (List.mem_of_getElem? (i := 10) rfl)) (hsets _ (List.mem_of_getElem? (i := 12) rfl)) (hsets _ (List.mem_of_getElem? (i := 13) rfl)) (hsets _ (List.mem_of_getElem? (i := 14) rfl)) (hsets _ (List.mem_of_getElem? (i := 15) rfl)) (hsets _ (List.mem_of_getElem? (i := 17) rfl)) (hsets _ (List.mem_of_getElem? (i := 18) rfl)) (hsets _ (List.mem_of_getElem? (i := 19) rfl))
  obtain ⟨_, _, _, _, cS1, -, -, -, -, hs1, -, -, hD1, -⟩ := id hT1
  obtain ⟨_, _, _, _, cS2, -, -, -, -, hs2, -, -, hD2, -⟩ := id hT2
  have hELs : EW s _ consts_1 := (EW.cons (hw _ (List.mem_of_getElem? (i := 74) rfl)) (by first | decide | decide +kernel) EW.nil)
  obtain ⟨n, o, h1, h2, h3, _, L, rfl, ⟨rfl, N⟩, hq⟩ := own_law l s _ hw tables_1 i0 i1 G1 G3 ist dt1 dt2 D1 D2 s.heap s.heap.size (Old.start s) S_CS hG1 S_FM hG3 hT1 hT2 hO1 hO2 (Array.getElem?_eq_some_iff.mp hs1).1 (Array.getElem?_eq_some_iff.mp hD1).1 (Array.getElem?_eq_some_iff.mp hD2).1 hD1 hD2 hELs p e ha hc hk s m _ below hf ((Spec.applies_iff_loose hf).mp happ).1 ⟨rfl, State.Warmed39.refl s, rfl, CHv.start hELs (fun p hp => hcalls.1 p hp) (hsets _ (List.mem_of_getElem? (i := 2) rfl)) (hw _ (List.mem_of_getElem? (i := 39) rfl)) (hw _ (List.mem_of_getElem? (i := 75) rfl))⟩ trivial
  refine ⟨n, _, h1, h2, h3, hpost _ _ _ _ _ _ ⟨Cond.after_iff.mpr rfl, Cond.after_iff.mpr (eq_i res_at (Term.int_eval (1)) rfl), trivial⟩ ⟨hq.1, hq.2.1, hq.2.2.1, (hq.2.2.2.sift fun y hy => Or.inr (N y hy)).mono (by decide) (by decide)⟩⟩
theorem main_1_1 : Claimed_1_1 := comes_1 fun _ _ _ _ _ _ h hF => ⟨h.1, hF⟩
theorem main_1_2 : Claimed_1_2 := comes_1 fun _ _ _ _ _ _ h hF => ⟨h.2.1, hF⟩
end Jvm.Pilot.@@N@@
namespace Jvm.Pilot.@@N@@
open Jvm Jvm.ClassFile Sem Op Lib Jvm.Free Jvm.Stand Jvm.Pilot.@@N@@.Jvm.D
/-! MADE BY PROGRAM (witnessworld.py) out of the Statement's table words and the real class files: 26 classes; the members and pool entries that the words name. The judged class is class 1, her method 1. -/
namespace start1
open Jvm.ClassFile
def u (s : String) : CpInfo := .utf8 (stringToUtf16 s)
/-- a pool by its gaps: so many unusable entries, then the entry; so many at the end -/
def gap : Nat → List CpInfo → List CpInfo
  | 0, r => r
  | n + 1, r => .unusable :: gap n r
def poolList (es : List (Nat × CpInfo)) (last : Nat) : List CpInfo := es.foldr (fun e r => gap e.1 (e.2 :: r)) (gap last [])
def pool (es : List (Nat × CpInfo)) (last : Nat) : Array CpInfo := ⟨poolList es last⟩
def fileOf (pool : Array CpInfo) (this : Nat) (attrs : Array Attribute := #[]) (ms : Array MethodInfo := #[]) (fl : Nat := 33) (sup : Nat := 0) (ifs : Array Nat := #[]) (fds : Array FieldInfo := #[]) : ClassFile where
  minorVersion := 0
  majorVersion := 65
  constantPool := pool
  accessFlags := fl
  thisClass := this
  superClass := sup
  interfaces := ifs
  fields := fds
  methods := ms
  attributes := attrs
def plain (name : String) (sup : Option ClassId) : Class where
  name := name
  kind := .ordinary
  loader := none
  accessFlags := 33
  super := sup
  interfaces := #[]
  cf := none
  fields := #[]
  methods := #[]
  instanceTypes := #[]
  staticTypes := #[]
  resolved := #[]
  callSites := []
  init := .initialized
  statics := none
  mirror := none

def pool0 : Array CpInfo := pool [(5, u "<init>"), (0, u "()V"), (1, .class_ 10), (1, u "java/lang/Object"), (85, u "clone"), (0, u "()Ljava/lang/Object;")] 26

def k0c0 : Code := { maxStack := 0, maxLocals := 1, code := object_method_1_code, exceptionTable := #[], attributes := #[] }
def k0m0 : Method := { name := "<init>", desc := "()V", sig := { parameters := [], returnType := none }, accessFlags := 1, code := some k0c0 }
def k0m1 : Method := { name := "clone", desc := "()Ljava/lang/Object;", sig := { parameters := [], returnType := some (.object "java/lang/Object") }, accessFlags := 260, code := none }
/-- java/lang/Object -/
def k0 : Class := { plain "java/lang/Object" none with
  accessFlags := 33
  interfaces := #[]
  cf := some (fileOf pool0 8 #[] #[{ accessFlags := 1, nameIndex := 5, descriptorIndex := 6, attributes := #[] }, { accessFlags := 260, nameIndex := 96, descriptorIndex := 97, attributes := #[] }] 33 0 #[] #[])
  fields := #[]
  methods := #[k0m0, k0m1]
  instanceTypes := #[]
  staticTypes := #[]
  resolved := Array.replicate 124 none
  statics := none }

def pool1 : Array CpInfo := pool [(2, .class_ 4), (1, u "java/lang/Object"), (0, u "<init>"), (0, u "()V"), (0, .integer 2147483647), (0, .class_ 9), (0, u "com/example/myna/myna/limits/RateLimit"), (0, .methodref 8 11), (0, .nameAndType 5 12), (0, u "(II)V"), (0, .methodref 8 14), (0, .nameAndType 15 16), (0, u "toString"), (0, u "()Ljava/lang/String;"), (0, .methodref 18 19), (0, .class_ 20), (0, .nameAndType 21 22), (0, u "com/example/myna/myna/limits/RateLimitToStringPinLaw"), (0, u "digitCount"), (0, u "(I)I"), (0, .methodref 24 25), (0, .class_ 26), (0, .nameAndType 27 28), (0, u "java/lang/String"), (0, u "length"), (0, u "()I"), (0, .methodref 24 30), (0, .nameAndType 31 32), (0, u "charAt"), (0, u "(I)C"), (0, .methodref 18 34), (0, .nameAndType 35 36), (0, u "number"), (0, u "(Ljava/lang/String;III)Z"), (0, .integer 100000), (0, .integer 1000000), (0, .integer 10000000), (0, .integer 100000000), (0, .integer 1000000000), (0, .methodref 18 43), (0, .nameAndType 44 45), (0, u "digit"), (0, u "(Ljava/lang/String;IIII)Z"), (0, .methodref 18 47), (0, .nameAndType 48 22), (0, u "pow10"), (2, u "law"), (0, u "(II)Z")] 3

def k1m0 : Method := { name := "<init>", desc := "()V", sig := { parameters := [], returnType := none }, accessFlags := 1, code := none }
def k1c1 : Code := { maxStack := 4, maxLocals := 7, code := code, exceptionTable := #[], attributes := #[] }
def k1m1 : Method := { name := "law", desc := "(II)Z", sig := { parameters := [.int, .int], returnType := some .boolean }, accessFlags := 9, code := some k1c1 }
def k1c2 : Code := { maxStack := 2, maxLocals := 1, code := method_3_code, exceptionTable := #[], attributes := #[] }
def k1m2 : Method := { name := "digitCount", desc := "(I)I", sig := { parameters := [.int], returnType := some .int }, accessFlags := 10, code := some k1c2 }
def k1c3 : Code := { maxStack := 2, maxLocals := 1, code := method_4_code, exceptionTable := #[], attributes := #[] }
def k1m3 : Method := { name := "pow10", desc := "(I)I", sig := { parameters := [.int], returnType := some .int }, accessFlags := 10, code := some k1c3 }
def k1c4 : Code := { maxStack := 5, maxLocals := 4, code := method_5_code, exceptionTable := #[], attributes := #[] }
def k1m4 : Method := { name := "number", desc := "(Ljava/lang/String;III)Z", sig := { parameters := [(.object "java/lang/String"), .int, .int, .int], returnType := some .boolean }, accessFlags := 10, code := some k1c4 }
def k1c5 : Code := { maxStack := 3, maxLocals := 6, code := method_6_code, exceptionTable := #[], attributes := #[] }
def k1m5 : Method := { name := "digit", desc := "(Ljava/lang/String;IIII)Z", sig := { parameters := [(.object "java/lang/String"), .int, .int, .int, .int], returnType := some .boolean }, accessFlags := 10, code := some k1c5 }
/-- com/example/myna/myna/limits/RateLimitToStringPinLaw -/
def k1 : Class := { plain "com/example/myna/myna/limits/RateLimitToStringPinLaw" (some 0) with
  accessFlags := 49
  interfaces := #[]
  cf := some (fileOf pool1 18 #[] #[{ accessFlags := 1, nameIndex := 5, descriptorIndex := 6, attributes := #[] }, { accessFlags := 9, nameIndex := 51, descriptorIndex := 52, attributes := #[] }, { accessFlags := 10, nameIndex := 21, descriptorIndex := 22, attributes := #[] }, { accessFlags := 10, nameIndex := 48, descriptorIndex := 22, attributes := #[] }, { accessFlags := 10, nameIndex := 35, descriptorIndex := 36, attributes := #[] }, { accessFlags := 10, nameIndex := 44, descriptorIndex := 45, attributes := #[] }] 49 2 #[] #[])
  fields := #[]
  methods := #[k1m0, k1m1, k1m2, k1m3, k1m4, k1m5]
  instanceTypes := #[]
  staticTypes := #[]
  resolved := Array.replicate 56 none
  statics := none }

def pool2 : Array CpInfo := pool [(1, .methodref 2 3), (0, .class_ 4), (0, .nameAndType 5 6), (0, u "java/lang/Object"), (0, u "<init>"), (0, u "()V"), (0, .class_ 8), (0, u "java/lang/Record")] 13

def k2c0 : Code := { maxStack := 1, maxLocals := 1, code := jdk_30_method_1_code, exceptionTable := #[], attributes := #[] }
def k2m0 : Method := { name := "<init>", desc := "()V", sig := { parameters := [], returnType := none }, accessFlags := 4, code := some k2c0 }
/-- java/lang/Record -/
def k2 : Class := { plain "java/lang/Record" (some 0) with
  accessFlags := 1057
  interfaces := #[]
  cf := some (fileOf pool2 7 #[] #[{ accessFlags := 4, nameIndex := 5, descriptorIndex := 6, attributes := #[] }] 1057 2 #[] #[])
  fields := #[]
  methods := #[k2m0]
  instanceTypes := #[]
  staticTypes := #[]
  resolved := Array.replicate 22 none
  statics := none }

def pool3 : Array CpInfo := pool [(1, .methodref 2 3), (0, .class_ 4), (0, .nameAndType 5 6), (0, u "java/lang/Record"), (0, u "<init>"), (0, u "()V"), (2, .class_ 10), (0, u "com/example/myna/myna/limits/RateLimit"), (5, .fieldref 9 17), (0, .nameAndType 18 19), (0, u "requests"), (0, u "I"), (0, .fieldref 9 21), (0, .nameAndType 22 19), (0, u "seconds"), (2, u "FORM"), (0, u "Ljava/util/regex/Pattern;"), (24, u "(II)V"), (0, .class_ 53), (0, u "java/lang/StringBuilder"), (0, .methodref 52 3), (0, .methodref 52 56), (0, .nameAndType 57 58), (0, u "append"), (0, u "(I)Ljava/lang/StringBuilder;"), (0, .string 60), (0, u "/"), (0, .methodref 52 62), (0, .nameAndType 57 63), (0, u "(Ljava/lang/String;)Ljava/lang/StringBuilder;"), (0, .methodref 52 65), (0, .nameAndType 66 67), (0, u "toString"), (0, u "()Ljava/lang/String;"), (14, u "RULE"), (0, u "Ljava/lang/String;")] 31

def k3c0 : Code := { maxStack := 3, maxLocals := 3, code := prog_14_method_1_code, exceptionTable := #[], attributes := #[] }
def k3m0 : Method := { name := "<init>", desc := "(II)V", sig := { parameters := [.int, .int], returnType := none }, accessFlags := 1, code := some k3c0 }
def k3c1 : Code := { maxStack := 2, maxLocals := 1, code := prog_14_method_3_code, exceptionTable := #[], attributes := #[] }
def k3m1 : Method := { name := "toString", desc := "()Ljava/lang/String;", sig := { parameters := [], returnType := some (.object "java/lang/String") }, accessFlags := 1, code := some k3c1 }
/-- com/example/myna/myna/limits/RateLimit -/
def k3 : Class := { plain "com/example/myna/myna/limits/RateLimit" (some 2) with
  accessFlags := 49
  interfaces := #[]
  cf := some (fileOf pool3 9 #[] #[{ accessFlags := 1, nameIndex := 5, descriptorIndex := 51, attributes := #[] }, { accessFlags := 1, nameIndex := 66, descriptorIndex := 67, attributes := #[] }] 49 2 #[] #[{ accessFlags := 18, nameIndex := 18, descriptorIndex := 19, attributes := #[] }, { accessFlags := 18, nameIndex := 22, descriptorIndex := 19, attributes := #[] }, { accessFlags := 26, nameIndex := 25, descriptorIndex := 26, attributes := #[] }, { accessFlags := 26, nameIndex := 82, descriptorIndex := 83, attributes := #[] }])
  fields := #[{ name := "requests", type := .int, accessFlags := 18, slot := 0, constantValue := 0 }, { name := "seconds", type := .int, accessFlags := 18, slot := 1, constantValue := 0 }, { name := "FORM", type := (.object "java/util/regex/Pattern"), accessFlags := 26, slot := 0, constantValue := 0 }, { name := "RULE", type := (.object "java/lang/String"), accessFlags := 26, slot := 1, constantValue := 0 }]
  methods := #[k3m0, k3m1]
  instanceTypes := #[.int, .int]
  staticTypes := #[(.object "java/util/regex/Pattern"), (.object "java/lang/String")]
  resolved := Array.replicate 115 none
  statics := none }

def pool4 : Array CpInfo := pool [(1, .class_ 2), (0, u "java/lang/Appendable"), (0, .class_ 4), (0, u "java/lang/Object")] 9

/-- java/lang/Appendable -/
def k4 : Class := { plain "java/lang/Appendable" (some 0) with
  accessFlags := 1537
  interfaces := #[]
  cf := some (fileOf pool4 1 #[] #[] 1537 3 #[] #[])
  fields := #[]
  methods := #[]
  instanceTypes := #[]
  staticTypes := #[]
  resolved := Array.replicate 14 none
  statics := none }

def pool5 : Array CpInfo := pool [(2, .class_ 4), (1, u "java/lang/CharSequence"), (42, .class_ 48), (0, u "java/lang/CharSequence$1CodePointIterator"), (10, .class_ 60), (0, u "java/lang/CharSequence$1CharIterator"), (5, .class_ 67), (0, u "java/lang/Object")] 63

/-- java/lang/CharSequence -/
def k5 : Class := { plain "java/lang/CharSequence" (some 0) with
  accessFlags := 1537
  interfaces := #[]
  cf := some (fileOf pool5 2 #[.nestMembers #[47, 59]] #[] 1537 66 #[] #[])
  fields := #[]
  methods := #[]
  instanceTypes := #[]
  staticTypes := #[]
  resolved := Array.replicate 131 none
  statics := none }

def pool6 : Array CpInfo := pool [(1, .class_ 2), (0, u "java/lang/String"), (0, .methodref 4 5), (0, .class_ 6), (0, .nameAndType 7 8), (0, u "java/lang/Object"), (0, u "<init>"), (0, u "()V"), (1, .class_ 12), (1, u "java/lang/AbstractStringBuilder"), (0, u "EMPTYVALUE"), (0, u "[B"), (0, .fieldref 10 16), (0, .nameAndType 17 14), (0, u "value"), (0, .fieldref 1 19), (0, .nameAndType 20 21), (0, u "COMPACT_STRINGS"), (0, u "Z"), (0, .fieldref 10 23), (0, .nameAndType 24 25), (0, u "coder"), (0, u "B"), (6, .methodref 1 33), (0, .nameAndType 34 35), (0, u "length"), (0, u "()I"), (0, .class_ 37), (0, u "java/lang/Integer"), (1, .integer 2147483647), (0, .methodref 1 41), (0, .nameAndType 24 42), (0, u "()B"), (2, u "append"), (0, u "(Ljava/lang/String;)Ljava/lang/AbstractStringBuilder;"), (1, .class_ 49), (0, u "java/lang/CharSequence"), (19, u "(Ljava/lang/String;)V"), (5, u "maybeLatin1"), (3, .fieldref 10 80), (0, .nameAndType 81 82), (0, u "count"), (0, u "I"), (0, .methodref 10 84), (0, .nameAndType 85 86), (0, u "isLatin1"), (0, u "()Z"), (13, .methodref 10 101), (0, .nameAndType 102 103), (0, u "ensureCapacityInternal"), (0, u "(I)V"), (0, .methodref 10 105), (0, .nameAndType 106 107), (0, u "newCapacity"), (0, u "(I)I"), (0, .methodref 109 110), (0, .class_ 111), (0, .nameAndType 112 113), (0, u "java/util/Arrays"), (0, u "copyOf"), (0, u "([BI)[B"), (0, .methodref 115 116), (0, .class_ 117), (0, .nameAndType 118 119), (0, u "jdk/internal/util/ArraysSupport"), (0, u "newLength"), (0, u "(III)I"), (68, u "getChars"), (19, .methodref 10 209), (0, .nameAndType 210 211), (0, u "putStringAt"), (0, u "(ILjava/lang/String;)V"), (5, u "inflateIfNeededFor"), (2, .nameAndType 221 222), (0, u "getBytes"), (0, u "([BIB)V"), (22, .methodref 36 246), (0, .nameAndType 247 107), (0, u "stringSize"), (0, .methodref 36 249), (0, .nameAndType 188 250), (0, u "(II[B)I"), (146, .methodref 10 398), (0, .nameAndType 217 69), (0, .methodref 1 220), (3, u "()[B"), (40, .class_ 445), (0, u "java/lang/Appendable"), (65, u "(I)Ljava/lang/AbstractStringBuilder;"), (40, u "getValue")] 56

def k6m0 : Method := { name := "<init>", desc := "()V", sig := { parameters := [], returnType := none }, accessFlags := 0, code := none }
def k6c1 : Code := { maxStack := 2, maxLocals := 2, code := jdk_68_method_2_code, exceptionTable := #[], attributes := #[] }
def k6m1 : Method := { name := "<init>", desc := "(I)V", sig := { parameters := [.int], returnType := none }, accessFlags := 0, code := some k6c1 }
def k6c2 : Code := { maxStack := 1, maxLocals := 1, code := jdk_68_method_6_code, exceptionTable := #[], attributes := #[] }
def k6m2 : Method := { name := "length", desc := "()I", sig := { parameters := [], returnType := some .int }, accessFlags := 1, code := some k6c2 }
def k6c3 : Code := { maxStack := 4, maxLocals := 3, code := jdk_68_method_9_code, exceptionTable := #[], attributes := #[] }
def k6m3 : Method := { name := "ensureCapacityInternal", desc := "(I)V", sig := { parameters := [.int], returnType := none }, accessFlags := 2, code := some k6c3 }
def k6c4 : Code := { maxStack := 5, maxLocals := 6, code := jdk_68_method_10_code, exceptionTable := #[], attributes := #[] }
def k6m4 : Method := { name := "newCapacity", desc := "(I)I", sig := { parameters := [.int], returnType := some .int }, accessFlags := 2, code := some k6c4 }
def k6c5 : Code := { maxStack := 3, maxLocals := 3, code := jdk_68_method_22_code, exceptionTable := #[], attributes := #[] }
def k6m5 : Method := { name := "append", desc := "(Ljava/lang/String;)Ljava/lang/AbstractStringBuilder;", sig := { parameters := [(.object "java/lang/String")], returnType := some (.object "java/lang/AbstractStringBuilder") }, accessFlags := 1, code := some k6c5 }
def k6c6 : Code := { maxStack := 4, maxLocals := 4, code := jdk_68_method_32_code, exceptionTable := #[], attributes := #[] }
def k6m6 : Method := { name := "append", desc := "(I)Ljava/lang/AbstractStringBuilder;", sig := { parameters := [.int], returnType := some (.object "java/lang/AbstractStringBuilder") }, accessFlags := 1, code := some k6c6 }
def k6c7 : Code := { maxStack := 1, maxLocals := 1, code := jdk_68_method_64_code, exceptionTable := #[], attributes := #[] }
def k6m7 : Method := { name := "getValue", desc := "()[B", sig := { parameters := [], returnType := some (.array .byte) }, accessFlags := 16, code := some k6c7 }
def k6c8 : Code := { maxStack := 1, maxLocals := 1, code := jdk_68_method_68_code, exceptionTable := #[], attributes := #[] }
def k6m8 : Method := { name := "isLatin1", desc := "()Z", sig := { parameters := [], returnType := some .boolean }, accessFlags := 16, code := some k6c8 }
def k6c9 : Code := { maxStack := 2, maxLocals := 2, code := jdk_68_method_71_code, exceptionTable := #[], attributes := #[] }
def k6m9 : Method := { name := "inflateIfNeededFor", desc := "(Ljava/lang/String;)V", sig := { parameters := [(.object "java/lang/String")], returnType := none }, accessFlags := 2, code := some k6c9 }
def k6c10 : Code := { maxStack := 4, maxLocals := 3, code := jdk_68_method_73_code, exceptionTable := #[], attributes := #[] }
def k6m10 : Method := { name := "putStringAt", desc := "(ILjava/lang/String;)V", sig := { parameters := [.int, (.object "java/lang/String")], returnType := none }, accessFlags := 2, code := some k6c10 }
/-- java/lang/AbstractStringBuilder -/
def k6 : Class := { plain "java/lang/AbstractStringBuilder" (some 0) with
  accessFlags := 1056
  interfaces := #[4, 5]
  cf := some (fileOf pool6 10 #[] #[{ accessFlags := 0, nameIndex := 7, descriptorIndex := 8, attributes := #[] }, { accessFlags := 0, nameIndex := 7, descriptorIndex := 103, attributes := #[] }, { accessFlags := 1, nameIndex := 34, descriptorIndex := 35, attributes := #[] }, { accessFlags := 2, nameIndex := 102, descriptorIndex := 103, attributes := #[] }, { accessFlags := 2, nameIndex := 106, descriptorIndex := 107, attributes := #[] }, { accessFlags := 1, nameIndex := 45, descriptorIndex := 46, attributes := #[] }, { accessFlags := 1, nameIndex := 45, descriptorIndex := 511, attributes := #[] }, { accessFlags := 16, nameIndex := 552, descriptorIndex := 403, attributes := #[] }, { accessFlags := 16, nameIndex := 85, descriptorIndex := 86, attributes := #[] }, { accessFlags := 2, nameIndex := 217, descriptorIndex := 69, attributes := #[] }, { accessFlags := 2, nameIndex := 210, descriptorIndex := 211, attributes := #[] }] 1056 4 #[444, 48] #[{ accessFlags := 0, nameIndex := 17, descriptorIndex := 14, attributes := #[] }, { accessFlags := 0, nameIndex := 24, descriptorIndex := 25, attributes := #[] }, { accessFlags := 0, nameIndex := 75, descriptorIndex := 21, attributes := #[] }, { accessFlags := 0, nameIndex := 81, descriptorIndex := 82, attributes := #[] }, { accessFlags := 26, nameIndex := 13, descriptorIndex := 14, attributes := #[] }])
  fields := #[{ name := "value", type := (.array .byte), accessFlags := 0, slot := 0, constantValue := 0 }, { name := "coder", type := .byte, accessFlags := 0, slot := 1, constantValue := 0 }, { name := "maybeLatin1", type := .boolean, accessFlags := 0, slot := 2, constantValue := 0 }, { name := "count", type := .int, accessFlags := 0, slot := 3, constantValue := 0 }, { name := "EMPTYVALUE", type := (.array .byte), accessFlags := 26, slot := 0, constantValue := 0 }]
  methods := #[k6m0, k6m1, k6m2, k6m3, k6m4, k6m5, k6m6, k6m7, k6m8, k6m9, k6m10]
  instanceTypes := #[(.array .byte), .byte, .boolean, .int]
  staticTypes := #[(.array .byte)]
  resolved := Array.replicate 609 none
  statics := none }

def pool7 : Array CpInfo := pool [(1, .class_ 2), (0, u "java/io/Serializable"), (0, .class_ 4), (0, u "java/lang/Object")] 2

/-- java/io/Serializable -/
def k7 : Class := { plain "java/io/Serializable" (some 0) with
  accessFlags := 1537
  interfaces := #[]
  cf := some (fileOf pool7 1 #[] #[] 1537 3 #[] #[])
  fields := #[]
  methods := #[]
  instanceTypes := #[]
  staticTypes := #[]
  resolved := Array.replicate 7 none
  statics := none }

def pool8 : Array CpInfo := pool [(1, .class_ 2), (0, u "java/lang/Comparable"), (0, .class_ 4), (0, u "java/lang/Object")] 7

/-- java/lang/Comparable -/
def k8 : Class := { plain "java/lang/Comparable" (some 0) with
  accessFlags := 1537
  interfaces := #[]
  cf := some (fileOf pool8 1 #[] #[] 1537 3 #[] #[])
  fields := #[]
  methods := #[]
  instanceTypes := #[]
  staticTypes := #[]
  resolved := Array.replicate 12 none
  statics := none }

def pool9 : Array CpInfo := pool [(1, .methodref 2 3), (0, .class_ 4), (0, .nameAndType 5 6), (0, u "java/lang/AbstractStringBuilder"), (0, u "<init>"), (0, u "(I)V"), (11, .class_ 20), (1, u "java/lang/String"), (3, .class_ 26), (1, u "java/lang/StringBuilder"), (0, u "append"), (0, u "(Ljava/lang/String;)Ljava/lang/StringBuilder;"), (0, .methodref 2 30), (0, .nameAndType 27 31), (0, u "(Ljava/lang/String;)Ljava/lang/AbstractStringBuilder;"), (21, .methodref 2 54), (0, .nameAndType 27 55), (0, u "(I)Ljava/lang/AbstractStringBuilder;"), (81, .methodref 18 138), (0, .nameAndType 5 139), (0, u "(Ljava/lang/StringBuilder;)V"), (5, u "()V"), (10, u "()I"), (111, u "(I)Ljava/lang/StringBuilder;"), (74, .methodref 2 344), (0, .nameAndType 345 156), (0, u "length"), (3, .class_ 350), (0, u "java/lang/Appendable"), (0, .class_ 352), (0, u "java/io/Serializable"), (0, .class_ 354), (0, u "java/lang/Comparable"), (0, .class_ 356), (0, u "java/lang/CharSequence"), (0, u "serialVersionUID"), (0, u "J"), (40, u "toString"), (0, u "()Ljava/lang/String;")] 21

def k9c0 : Code := { maxStack := 2, maxLocals := 1, code := jdk_67_method_1_code, exceptionTable := #[], attributes := #[] }
def k9m0 : Method := { name := "<init>", desc := "()V", sig := { parameters := [], returnType := none }, accessFlags := 1, code := some k9c0 }
def k9c1 : Code := { maxStack := 2, maxLocals := 2, code := jdk_67_method_7_code, exceptionTable := #[], attributes := #[] }
def k9m1 : Method := { name := "append", desc := "(Ljava/lang/String;)Ljava/lang/StringBuilder;", sig := { parameters := [(.object "java/lang/String")], returnType := some (.object "java/lang/StringBuilder") }, accessFlags := 1, code := some k9c1 }
def k9c2 : Code := { maxStack := 2, maxLocals := 2, code := jdk_67_method_15_code, exceptionTable := #[], attributes := #[] }
def k9m2 : Method := { name := "append", desc := "(I)Ljava/lang/StringBuilder;", sig := { parameters := [.int], returnType := some (.object "java/lang/StringBuilder") }, accessFlags := 1, code := some k9c2 }
def k9c3 : Code := { maxStack := 3, maxLocals := 1, code := jdk_67_method_42_code, exceptionTable := #[], attributes := #[] }
def k9m3 : Method := { name := "toString", desc := "()Ljava/lang/String;", sig := { parameters := [], returnType := some (.object "java/lang/String") }, accessFlags := 1, code := some k9c3 }
def k9c4 : Code := { maxStack := 1, maxLocals := 1, code := jdk_67_method_93_code, exceptionTable := #[], attributes := #[] }
def k9m4 : Method := { name := "length", desc := "()I", sig := { parameters := [], returnType := some .int }, accessFlags := 4161, code := some k9c4 }
/-- java/lang/StringBuilder -/
def k9 : Class := { plain "java/lang/StringBuilder" (some 6) with
  accessFlags := 49
  interfaces := #[4, 7, 8, 5]
  cf := some (fileOf pool9 24 #[] #[{ accessFlags := 1, nameIndex := 5, descriptorIndex := 145, attributes := #[] }, { accessFlags := 1, nameIndex := 27, descriptorIndex := 28, attributes := #[] }, { accessFlags := 1, nameIndex := 27, descriptorIndex := 268, attributes := #[] }, { accessFlags := 1, nameIndex := 399, descriptorIndex := 400, attributes := #[] }, { accessFlags := 4161, nameIndex := 345, descriptorIndex := 156, attributes := #[] }] 49 2 #[349, 351, 353, 355] #[{ accessFlags := 24, nameIndex := 357, descriptorIndex := 358, attributes := #[] }])
  fields := #[{ name := "serialVersionUID", type := .long, accessFlags := 24, slot := 0, constantValue := 0 }]
  methods := #[k9m0, k9m1, k9m2, k9m3, k9m4]
  instanceTypes := #[(.array .byte), .byte, .boolean, .int]
  staticTypes := #[.long]
  resolved := Array.replicate 422 none
  statics := none }

def pool10 : Array CpInfo := pool [(1, .class_ 2), (0, u "java/lang/constant/Constable"), (0, .class_ 4), (0, u "java/lang/Object")] 6

/-- java/lang/constant/Constable -/
def k10 : Class := { plain "java/lang/constant/Constable" (some 0) with
  accessFlags := 1537
  interfaces := #[]
  cf := some (fileOf pool10 1 #[] #[] 1537 3 #[] #[])
  fields := #[]
  methods := #[]
  instanceTypes := #[]
  staticTypes := #[]
  resolved := Array.replicate 11 none
  statics := none }

def pool11 : Array CpInfo := pool [(1, .class_ 2), (0, u "java/lang/constant/ConstantDesc"), (0, .class_ 4), (0, u "java/lang/Object")] 32

/-- java/lang/constant/ConstantDesc -/
def k11 : Class := { plain "java/lang/constant/ConstantDesc" (some 0) with
  accessFlags := 1537
  interfaces := #[]
  cf := some (fileOf pool11 1 #[] #[] 1537 3 #[] #[])
  fields := #[]
  methods := #[]
  instanceTypes := #[]
  staticTypes := #[]
  resolved := Array.replicate 37 none
  statics := none }

def pool12 : Array CpInfo := pool [(1, .methodref 2 3), (0, .class_ 4), (0, .nameAndType 5 6), (0, u "java/lang/Object"), (0, u "<init>"), (0, u "()V"), (2, .fieldref 10 11), (0, .class_ 12), (0, .nameAndType 13 14), (0, u "java/lang/String"), (0, u "value"), (0, u "[B"), (0, .fieldref 10 16), (0, .nameAndType 17 18), (0, u "coder"), (0, u "B"), (2, u "hash"), (0, u "I"), (2, u "hashIsZero"), (0, u "Z"), (11, .fieldref 10 39), (0, .nameAndType 40 26), (0, u "COMPACT_STRINGS"), (13, .methodref 55 56), (0, .class_ 57), (0, .nameAndType 58 59), (0, u "java/util/Arrays"), (0, u "copyOfRange"), (0, u "([BII)[B"), (47, .class_ 109), (1, u "java/lang/StringLatin1"), (32, u "()Z"), (50, .class_ 195), (1, u "java/lang/System"), (16, .methodref 193 213), (0, .nameAndType 214 215), (0, u "arraycopy"), (0, u "(Ljava/lang/Object;ILjava/lang/Object;II)V"), (118, u "()I"), (0, .methodref 10 336), (0, .nameAndType 17 337), (0, u "()B"), (2, u "()[B"), (22, u "([BI)C"), (27, u "(II)V"), (35, u "(I)C"), (61, .methodref 10 490), (0, .nameAndType 5 491), (0, u "(Ljava/lang/AbstractStringBuilder;Ljava/lang/Void;)V"), (0, .methodref 10 493), (0, .nameAndType 494 142), (0, u "isLatin1"), (0, .methodref 107 496), (0, .nameAndType 497 363), (0, u "charAt"), (3, u "checkIndex"), (4, .nameAndType 507 334), (0, u "length"), (24, u "getBytes"), (16, .methodref 550 506), (0, .class_ 551), (0, u "java/lang/AbstractStringBuilder"), (0, .methodref 550 553), (0, .nameAndType 554 340), (0, u "getValue"), (20, .class_ 576), (0, u "java/lang/CharSequence"), (22, u "CASE_INSENSITIVE_ORDER"), (0, u "Ljava/util/Comparator;"), (220, u "([BIB)V"), (225, .methodref 550 493), (5, .fieldref 1054 1055), (0, .class_ 1056), (0, .nameAndType 1057 1058), (0, u "jdk/internal/util/Preconditions"), (0, u "SIOOBE_FORMATTER"), (0, u "Ljava/util/function/BiFunction;"), (0, .methodref 1054 1060), (0, .nameAndType 501 1061), (0, u "(IILjava/util/function/BiFunction;)I"), (39, u "serialPersistentFields"), (0, u "[Ljava/io/ObjectStreamField;"), (0, .class_ 1104), (0, u "java/lang/String$CaseInsensitiveComparator"), (1, .class_ 1107), (0, u "java/io/Serializable"), (0, .class_ 1109), (0, u "java/lang/Comparable"), (0, .class_ 1111), (0, u "java/lang/constant/Constable"), (0, .class_ 1113), (0, u "java/lang/constant/ConstantDesc"), (2, u "serialVersionUID"), (0, u "J"), (3, u "REPL"), (0, u "C"), (2, u "LATIN1"), (1, u "UTF16"), (105, u "(Ljava/lang/StringBuilder;)V")] 217

def k12m0 : Method := { name := "<init>", desc := "()V", sig := { parameters := [], returnType := none }, accessFlags := 1, code := none }
def k12c1 : Code := { maxStack := 3, maxLocals := 2, code := jdk_42_method_53_code, exceptionTable := #[], attributes := #[] }
def k12m1 : Method := { name := "<init>", desc := "(Ljava/lang/StringBuilder;)V", sig := { parameters := [(.object "java/lang/StringBuilder")], returnType := none }, accessFlags := 1, code := some k12c1 }
def k12c2 : Code := { maxStack := 2, maxLocals := 1, code := jdk_42_method_54_code, exceptionTable := #[], attributes := #[] }
def k12m2 : Method := { name := "length", desc := "()I", sig := { parameters := [], returnType := some .int }, accessFlags := 1, code := some k12c2 }
def k12c3 : Code := { maxStack := 2, maxLocals := 2, code := jdk_42_method_56_code, exceptionTable := #[], attributes := #[] }
def k12m3 : Method := { name := "charAt", desc := "(I)C", sig := { parameters := [.int], returnType := some .char }, accessFlags := 1, code := some k12c3 }
def k12c4 : Code := { maxStack := 5, maxLocals := 4, code := jdk_42_method_147_code, exceptionTable := #[], attributes := #[] }
def k12m4 : Method := { name := "getBytes", desc := "([BIB)V", sig := { parameters := [(.array .byte), .int, .byte], returnType := none }, accessFlags := 0, code := some k12c4 }
def k12c5 : Code := { maxStack := 5, maxLocals := 5, code := jdk_42_method_150_code, exceptionTable := #[], attributes := #[] }
def k12m5 : Method := { name := "<init>", desc := "(Ljava/lang/AbstractStringBuilder;Ljava/lang/Void;)V", sig := { parameters := [(.object "java/lang/AbstractStringBuilder"), (.object "java/lang/Void")], returnType := none }, accessFlags := 0, code := some k12c5 }
def k12c6 : Code := { maxStack := 1, maxLocals := 1, code := jdk_42_method_152_code, exceptionTable := #[], attributes := #[] }
def k12m6 : Method := { name := "coder", desc := "()B", sig := { parameters := [], returnType := some .byte }, accessFlags := 0, code := some k12c6 }
def k12c7 : Code := { maxStack := 1, maxLocals := 1, code := jdk_42_method_154_code, exceptionTable := #[], attributes := #[] }
def k12m7 : Method := { name := "isLatin1", desc := "()Z", sig := { parameters := [], returnType := some .boolean }, accessFlags := 0, code := some k12c7 }
def k12c8 : Code := { maxStack := 3, maxLocals := 2, code := jdk_42_method_155_code, exceptionTable := #[], attributes := #[] }
def k12m8 : Method := { name := "checkIndex", desc := "(II)V", sig := { parameters := [.int, .int], returnType := none }, accessFlags := 8, code := some k12c8 }
/-- java/lang/String -/
def k12 : Class := { plain "java/lang/String" (some 0) with
  accessFlags := 49
  interfaces := #[7, 8, 5, 10, 11]
  cf := some (fileOf pool12 10 #[.nestMembers #[1103]] #[{ accessFlags := 1, nameIndex := 5, descriptorIndex := 6, attributes := #[] }, { accessFlags := 1, nameIndex := 5, descriptorIndex := 1233, attributes := #[] }, { accessFlags := 1, nameIndex := 507, descriptorIndex := 334, attributes := #[] }, { accessFlags := 1, nameIndex := 497, descriptorIndex := 427, attributes := #[] }, { accessFlags := 0, nameIndex := 532, descriptorIndex := 821, attributes := #[] }, { accessFlags := 0, nameIndex := 5, descriptorIndex := 491, attributes := #[] }, { accessFlags := 0, nameIndex := 17, descriptorIndex := 337, attributes := #[] }, { accessFlags := 0, nameIndex := 494, descriptorIndex := 142, attributes := #[] }, { accessFlags := 8, nameIndex := 501, descriptorIndex := 391, attributes := #[] }] 49 2 #[1106, 1108, 575, 1110, 1112] #[{ accessFlags := 18, nameIndex := 13, descriptorIndex := 14, attributes := #[] }, { accessFlags := 18, nameIndex := 17, descriptorIndex := 18, attributes := #[] }, { accessFlags := 2, nameIndex := 21, descriptorIndex := 22, attributes := #[] }, { accessFlags := 2, nameIndex := 25, descriptorIndex := 26, attributes := #[] }, { accessFlags := 26, nameIndex := 1116, descriptorIndex := 1117, attributes := #[] }, { accessFlags := 24, nameIndex := 40, descriptorIndex := 26, attributes := #[] }, { accessFlags := 26, nameIndex := 1101, descriptorIndex := 1102, attributes := #[] }, { accessFlags := 26, nameIndex := 1121, descriptorIndex := 1122, attributes := #[] }, { accessFlags := 25, nameIndex := 599, descriptorIndex := 600, attributes := #[] }, { accessFlags := 24, nameIndex := 1125, descriptorIndex := 18, attributes := #[] }, { accessFlags := 24, nameIndex := 1127, descriptorIndex := 18, attributes := #[] }])
  fields := #[{ name := "value", type := (.array .byte), accessFlags := 18, slot := 0, constantValue := 0 }, { name := "coder", type := .byte, accessFlags := 18, slot := 1, constantValue := 0 }, { name := "hash", type := .int, accessFlags := 2, slot := 2, constantValue := 0 }, { name := "hashIsZero", type := .boolean, accessFlags := 2, slot := 3, constantValue := 0 }, { name := "serialVersionUID", type := .long, accessFlags := 26, slot := 0, constantValue := 0 }, { name := "COMPACT_STRINGS", type := .boolean, accessFlags := 24, slot := 1, constantValue := 0 }, { name := "serialPersistentFields", type := (.array (.object "java/io/ObjectStreamField")), accessFlags := 26, slot := 2, constantValue := 0 }, { name := "REPL", type := .char, accessFlags := 26, slot := 3, constantValue := 0 }, { name := "CASE_INSENSITIVE_ORDER", type := (.object "java/util/Comparator"), accessFlags := 25, slot := 4, constantValue := 0 }, { name := "LATIN1", type := .byte, accessFlags := 24, slot := 5, constantValue := 0 }, { name := "UTF16", type := .byte, accessFlags := 24, slot := 6, constantValue := 0 }]
  methods := #[k12m0, k12m1, k12m2, k12m3, k12m4, k12m5, k12m6, k12m7, k12m8]
  instanceTypes := #[(.array .byte), .byte, .int, .boolean]
  staticTypes := #[.long, .boolean, (.array (.object "java/io/ObjectStreamField")), .char, (.object "java/util/Comparator"), .byte, .byte]
  resolved := Array.replicate 1451 none
  statics := some 0 }

def pool13 : Array CpInfo := pool [(2, .class_ 4), (1, u "java/lang/Object"), (0, u "<init>"), (0, u "()V"), (1, .class_ 10), (1, u "java/lang/Number"), (2, .class_ 14), (0, u "java/io/Serializable"), (0, u "serialVersionUID"), (0, u "J")] 20

def k13m0 : Method := { name := "<init>", desc := "()V", sig := { parameters := [], returnType := none }, accessFlags := 1, code := none }
/-- java/lang/Number -/
def k13 : Class := { plain "java/lang/Number" (some 0) with
  accessFlags := 1057
  interfaces := #[7]
  cf := some (fileOf pool13 8 #[] #[{ accessFlags := 1, nameIndex := 5, descriptorIndex := 6, attributes := #[] }] 1057 2 #[13] #[{ accessFlags := 26, nameIndex := 15, descriptorIndex := 16, attributes := #[] }])
  fields := #[{ name := "serialVersionUID", type := .long, accessFlags := 26, slot := 0, constantValue := 0 }]
  methods := #[k13m0]
  instanceTypes := #[]
  staticTypes := #[.long]
  resolved := Array.replicate 37 none
  statics := none }

def pool14 : Array CpInfo := pool [(1, .class_ 2), (0, u "java/lang/Integer"), (16, u "digits"), (0, u "[C"), (33, u "(I)I"), (19, u "stringSize"), (2, u "getChars"), (0, u "(II[B)I"), (4, .fieldref 1 84), (0, .nameAndType 85 86), (0, u "DigitOnes"), (0, u "[B"), (0, .fieldref 1 88), (0, .nameAndType 89 86), (0, u "DigitTens"), (99, .class_ 190), (0, u "java/lang/Integer$IntegerCache"), (3, u "I"), (8, .class_ 204), (0, u "java/lang/Number"), (2, u "value"), (94, u "TYPE"), (0, u "Ljava/lang/Class;"), (0, .class_ 305), (0, u "java/lang/Comparable"), (0, .class_ 307), (0, u "java/lang/constant/Constable"), (0, .class_ 309), (0, u "java/lang/constant/ConstantDesc"), (0, u "MIN_VALUE"), (1, u "MAX_VALUE"), (3, u "SIZE"), (1, u "BYTES"), (1, u "serialVersionUID"), (0, u "J")] 131

def k14c0 : Code := { maxStack := 4, maxLocals := 7, code := jdk_33_method_12_code, exceptionTable := #[], attributes := #[] }
def k14m0 : Method := { name := "getChars", desc := "(II[B)I", sig := { parameters := [.int, .int, (.array .byte)], returnType := some .int }, accessFlags := 8, code := some k14c0 }
def k14c1 : Code := { maxStack := 2, maxLocals := 4, code := jdk_33_method_13_code, exceptionTable := #[], attributes := #[] }
def k14m1 : Method := { name := "stringSize", desc := "(I)I", sig := { parameters := [.int], returnType := some .int }, accessFlags := 8, code := some k14c1 }
/-- java/lang/Integer -/
def k14 : Class := { plain "java/lang/Integer" (some 13) with
  accessFlags := 49
  interfaces := #[8, 10, 11]
  cf := some (fileOf pool14 1 #[.nestMembers #[189]] #[{ accessFlags := 8, nameIndex := 77, descriptorIndex := 78, attributes := #[] }, { accessFlags := 8, nameIndex := 74, descriptorIndex := 54, attributes := #[] }] 49 203 #[304, 306, 308] #[{ accessFlags := 25, nameIndex := 310, descriptorIndex := 194, attributes := #[] }, { accessFlags := 25, nameIndex := 312, descriptorIndex := 194, attributes := #[] }, { accessFlags := 25, nameIndex := 302, descriptorIndex := 303, attributes := #[] }, { accessFlags := 24, nameIndex := 19, descriptorIndex := 20, attributes := #[] }, { accessFlags := 24, nameIndex := 89, descriptorIndex := 86, attributes := #[] }, { accessFlags := 24, nameIndex := 85, descriptorIndex := 86, attributes := #[] }, { accessFlags := 18, nameIndex := 207, descriptorIndex := 194, attributes := #[] }, { accessFlags := 25, nameIndex := 316, descriptorIndex := 194, attributes := #[] }, { accessFlags := 25, nameIndex := 318, descriptorIndex := 194, attributes := #[] }, { accessFlags := 26, nameIndex := 320, descriptorIndex := 321, attributes := #[] }])
  fields := #[{ name := "MIN_VALUE", type := .int, accessFlags := 25, slot := 0, constantValue := 0 }, { name := "MAX_VALUE", type := .int, accessFlags := 25, slot := 1, constantValue := 0 }, { name := "TYPE", type := (.object "java/lang/Class"), accessFlags := 25, slot := 2, constantValue := 0 }, { name := "digits", type := (.array .char), accessFlags := 24, slot := 3, constantValue := 0 }, { name := "DigitTens", type := (.array .byte), accessFlags := 24, slot := 4, constantValue := 0 }, { name := "DigitOnes", type := (.array .byte), accessFlags := 24, slot := 5, constantValue := 0 }, { name := "value", type := .int, accessFlags := 18, slot := 0, constantValue := 0 }, { name := "SIZE", type := .int, accessFlags := 25, slot := 6, constantValue := 0 }, { name := "BYTES", type := .int, accessFlags := 25, slot := 7, constantValue := 0 }, { name := "serialVersionUID", type := .long, accessFlags := 26, slot := 8, constantValue := 0 }]
  methods := #[k14m0, k14m1]
  instanceTypes := #[.int]
  staticTypes := #[.int, .int, (.object "java/lang/Class"), (.array .char), (.array .byte), (.array .byte), .int, .int, .long]
  resolved := Array.replicate 453 none
  statics := some 1 }

def pool15 : Array CpInfo := pool [(2, .class_ 4), (1, u "java/lang/Object"), (0, u "<init>"), (0, u "()V"), (1, .class_ 10), (1, u "java/lang/System"), (0, u "allowSecurityManager"), (0, u "I"), (16, u "cons"), (0, u "Ljava/io/Console;"), (77, .class_ 110), (1, u "java/lang/System$CallersHolder"), (43, u "initialErrStream"), (0, u "Ljava/io/PrintStream;"), (19, u "security"), (0, u "Ljava/lang/SecurityManager;"), (31, .class_ 209), (0, u "java/lang/System$1"), (7, u "props"), (0, u "Ljava/util/Properties;"), (2, u "lineSeparator"), (0, u "Ljava/lang/String;"), (96, .class_ 321), (1, u "java/lang/System$LoggerFinder"), (5, .class_ 328), (0, u "java/lang/System$Logger"), (67, u "err"), (2, u "out"), (91, u "notSupportedJnuEncoding"), (15, u "in"), (17, u "initialIn"), (0, u "Ljava/io/InputStream;"), (35, u "bootLayer"), (0, u "Ljava/lang/ModuleLayer;"), (99, .class_ 664), (0, u "java/lang/System$2"), (9, u "NEVER"), (2, u "MAYBE"), (49, u "arraycopy"), (0, u "(Ljava/lang/Object;ILjava/lang/Object;II)V"), (72, .class_ 802), (0, u "java/lang/System$Logger$Level")] 31

def k15m0 : Method := { name := "<init>", desc := "()V", sig := { parameters := [], returnType := none }, accessFlags := 2, code := none }
def k15m1 : Method := { name := "arraycopy", desc := "(Ljava/lang/Object;ILjava/lang/Object;II)V", sig := { parameters := [(.object "java/lang/Object"), .int, (.object "java/lang/Object"), .int, .int], returnType := none }, accessFlags := 265, code := none }
/-- java/lang/System -/
def k15 : Class := { plain "java/lang/System" (some 0) with
  accessFlags := 49
  interfaces := #[]
  cf := some (fileOf pool15 8 #[.nestMembers #[319, 327, 801, 108, 663, 208]] #[{ accessFlags := 2, nameIndex := 5, descriptorIndex := 6, attributes := #[] }, { accessFlags := 265, nameIndex := 727, descriptorIndex := 728, attributes := #[] }] 49 2 #[] #[{ accessFlags := 25, nameIndex := 507, descriptorIndex := 526, attributes := #[] }, { accessFlags := 25, nameIndex := 399, descriptorIndex := 155, attributes := #[] }, { accessFlags := 25, nameIndex := 396, descriptorIndex := 155, attributes := #[] }, { accessFlags := 10, nameIndex := 525, descriptorIndex := 526, attributes := #[] }, { accessFlags := 26, nameIndex := 674, descriptorIndex := 12, attributes := #[] }, { accessFlags := 26, nameIndex := 677, descriptorIndex := 12, attributes := #[] }, { accessFlags := 10, nameIndex := 11, descriptorIndex := 12, attributes := #[] }, { accessFlags := 74, nameIndex := 175, descriptorIndex := 176, attributes := #[] }, { accessFlags := 10, nameIndex := 491, descriptorIndex := 222, attributes := #[] }, { accessFlags := 74, nameIndex := 29, descriptorIndex := 30, attributes := #[] }, { accessFlags := 74, nameIndex := 154, descriptorIndex := 155, attributes := #[] }, { accessFlags := 10, nameIndex := 217, descriptorIndex := 218, attributes := #[] }, { accessFlags := 10, nameIndex := 221, descriptorIndex := 222, attributes := #[] }, { accessFlags := 8, nameIndex := 562, descriptorIndex := 563, attributes := #[] }])
  fields := #[{ name := "in", type := (.object "java/io/InputStream"), accessFlags := 25, slot := 0, constantValue := 0 }, { name := "out", type := (.object "java/io/PrintStream"), accessFlags := 25, slot := 1, constantValue := 0 }, { name := "err", type := (.object "java/io/PrintStream"), accessFlags := 25, slot := 2, constantValue := 0 }, { name := "initialIn", type := (.object "java/io/InputStream"), accessFlags := 10, slot := 3, constantValue := 0 }, { name := "NEVER", type := .int, accessFlags := 26, slot := 4, constantValue := 0 }, { name := "MAYBE", type := .int, accessFlags := 26, slot := 5, constantValue := 0 }, { name := "allowSecurityManager", type := .int, accessFlags := 10, slot := 6, constantValue := 0 }, { name := "security", type := (.object "java/lang/SecurityManager"), accessFlags := 74, slot := 7, constantValue := 0 }, { name := "notSupportedJnuEncoding", type := (.object "java/lang/String"), accessFlags := 10, slot := 8, constantValue := 0 }, { name := "cons", type := (.object "java/io/Console"), accessFlags := 74, slot := 9, constantValue := 0 }, { name := "initialErrStream", type := (.object "java/io/PrintStream"), accessFlags := 74, slot := 10, constantValue := 0 }, { name := "props", type := (.object "java/util/Properties"), accessFlags := 10, slot := 11, constantValue := 0 }, { name := "lineSeparator", type := (.object "java/lang/String"), accessFlags := 10, slot := 12, constantValue := 0 }, { name := "bootLayer", type := (.object "java/lang/ModuleLayer"), accessFlags := 8, slot := 13, constantValue := 0 }]
  methods := #[k15m0, k15m1]
  instanceTypes := #[]
  staticTypes := #[(.object "java/io/InputStream"), (.object "java/io/PrintStream"), (.object "java/io/PrintStream"), (.object "java/io/InputStream"), .int, .int, .int, (.object "java/lang/SecurityManager"), (.object "java/lang/String"), (.object "java/io/Console"), (.object "java/io/PrintStream"), (.object "java/util/Properties"), (.object "java/lang/String"), (.object "java/lang/ModuleLayer")]
  resolved := Array.replicate 834 none
  statics := none }

def pool16 : Array CpInfo := pool [(2, .class_ 4), (1, u "java/lang/Object"), (0, u "<init>"), (0, u "()V"), (7, .class_ 16), (1, u "java/util/Arrays"), (57, .class_ 76), (1, u "java/util/Arrays$NaturalOrder"), (32, u "()Ljava/lang/Object;"), (3, .class_ 115), (1, u "java/util/Arrays$LegacyMergeSort"), (1, u "Z"), (10, .nameAndType 129 109), (0, u "clone"), (9, u "copyOfRange"), (10, .methodref 151 152), (0, .class_ 153), (0, .nameAndType 154 155), (0, u "java/lang/System"), (0, u "arraycopy"), (0, u "(Ljava/lang/Object;ILjava/lang/Object;II)V"), (146, u "copyOf"), (1, .methodref 305 306), (0, .class_ 307), (0, .nameAndType 308 309), (0, u "java/lang/Math"), (0, u "min"), (0, u "(II)I"), (0, .methodref 311 128), (0, .class_ 312), (0, u "[B"), (26, .methodref 14 340), (0, .nameAndType 341 342), (0, u "copyOfRangeByte"), (0, u "([BII)[B"), (0, .methodref 14 344), (0, .nameAndType 345 346), (0, u "checkLength"), (0, u "(II)V"), (28, .class_ 376), (0, u "java/util/Arrays$ArrayList"), (68, u "$assertionsDisabled"), (269, u "MIN_ARRAY_SORT_GRAN"), (0, u "I"), (2, u "INSERTIONSORT_THRESHOLD"), (149, u "([BI)[B"), (105, .class_ 976), (0, u "java/util/Arrays$ArrayItr")] 52

def k16m0 : Method := { name := "<init>", desc := "()V", sig := { parameters := [], returnType := none }, accessFlags := 2, code := none }
def k16c1 : Code := { maxStack := 6, maxLocals := 3, code := jdk_65_method_121_code, exceptionTable := #[], attributes := #[] }
def k16m1 : Method := { name := "copyOf", desc := "([BI)[B", sig := { parameters := [(.array .byte), .int], returnType := some (.array .byte) }, accessFlags := 9, code := some k16c1 }
def k16c2 : Code := { maxStack := 4, maxLocals := 2, code := jdk_65_method_131_code, exceptionTable := #[], attributes := #[] }
def k16m2 : Method := { name := "checkLength", desc := "(II)V", sig := { parameters := [.int, .int], returnType := none }, accessFlags := 10, code := some k16c2 }
def k16c3 : Code := { maxStack := 3, maxLocals := 3, code := jdk_65_method_132_code, exceptionTable := #[], attributes := #[] }
def k16m3 : Method := { name := "copyOfRange", desc := "([BII)[B", sig := { parameters := [(.array .byte), .int, .int], returnType := some (.array .byte) }, accessFlags := 9, code := some k16c3 }
def k16c4 : Code := { maxStack := 6, maxLocals := 5, code := jdk_65_method_133_code, exceptionTable := #[], attributes := #[] }
def k16m4 : Method := { name := "copyOfRangeByte", desc := "([BII)[B", sig := { parameters := [(.array .byte), .int, .int], returnType := some (.array .byte) }, accessFlags := 10, code := some k16c4 }
/-- java/util/Arrays -/
def k16 : Class := { plain "java/util/Arrays" (some 0) with
  accessFlags := 49
  interfaces := #[]
  cf := some (fileOf pool16 14 #[.nestMembers #[975, 375, 113, 74]] #[{ accessFlags := 2, nameIndex := 5, descriptorIndex := 6, attributes := #[] }, { accessFlags := 9, nameIndex := 302, descriptorIndex := 869, attributes := #[] }, { accessFlags := 10, nameIndex := 345, descriptorIndex := 346, attributes := #[] }, { accessFlags := 9, nameIndex := 139, descriptorIndex := 342, attributes := #[] }, { accessFlags := 10, nameIndex := 341, descriptorIndex := 342, attributes := #[] }] 49 2 #[] #[{ accessFlags := 26, nameIndex := 715, descriptorIndex := 716, attributes := #[] }, { accessFlags := 26, nameIndex := 719, descriptorIndex := 716, attributes := #[] }, { accessFlags := 4120, nameIndex := 445, descriptorIndex := 117, attributes := #[] }])
  fields := #[{ name := "MIN_ARRAY_SORT_GRAN", type := .int, accessFlags := 26, slot := 0, constantValue := 0 }, { name := "INSERTIONSORT_THRESHOLD", type := .int, accessFlags := 26, slot := 1, constantValue := 0 }, { name := "$assertionsDisabled", type := .boolean, accessFlags := 4120, slot := 2, constantValue := 0 }]
  methods := #[k16m0, k16m1, k16m2, k16m3, k16m4]
  instanceTypes := #[]
  staticTypes := #[.int, .int, .boolean]
  resolved := Array.replicate 1029 none
  statics := none }

def pool17 : Array CpInfo := pool [(1, .class_ 2), (0, u "java/lang/Math"), (1, .class_ 6), (1, u "java/lang/Object"), (0, u "<init>"), (0, u "()V"), (89, .class_ 100), (1, u "java/lang/Math$RandomNumberGeneratorHolder"), (71, u "negativeZeroFloatBits"), (0, u "J"), (2, u "negativeZeroDoubleBits"), (21, u "max"), (2, u "min"), (43, u "$assertionsDisabled"), (0, u "Z"), (88, u "(II)I"), (2, u "twoToTheDoubleScaleDown"), (0, u "D"), (4, u "twoToTheDoubleScaleUp"), (9, u "E"), (3, u "PI"), (2, u "TAU"), (2, u "DEGREES_TO_RADIANS"), (0, u "RADIANS_TO_DEGREES")] 94

def k17m0 : Method := { name := "<init>", desc := "()V", sig := { parameters := [], returnType := none }, accessFlags := 2, code := none }
def k17c1 : Code := { maxStack := 2, maxLocals := 2, code := jdk_29_method_65_code, exceptionTable := #[], attributes := #[] }
def k17m1 : Method := { name := "max", desc := "(II)I", sig := { parameters := [.int, .int], returnType := some .int }, accessFlags := 9, code := some k17c1 }
def k17c2 : Code := { maxStack := 2, maxLocals := 2, code := jdk_29_method_69_code, exceptionTable := #[], attributes := #[] }
def k17m2 : Method := { name := "min", desc := "(II)I", sig := { parameters := [.int, .int], returnType := some .int }, accessFlags := 9, code := some k17c2 }
/-- java/lang/Math -/
def k17 : Class := { plain "java/lang/Math" (some 0) with
  accessFlags := 49
  interfaces := #[]
  cf := some (fileOf pool17 1 #[.nestMembers #[98]] #[{ accessFlags := 2, nameIndex := 7, descriptorIndex := 8, attributes := #[] }, { accessFlags := 9, nameIndex := 198, descriptorIndex := 335, attributes := #[] }, { accessFlags := 9, nameIndex := 201, descriptorIndex := 335, attributes := #[] }] 49 4 #[] #[{ accessFlags := 25, nameIndex := 354, descriptorIndex := 339, attributes := #[] }, { accessFlags := 25, nameIndex := 358, descriptorIndex := 339, attributes := #[] }, { accessFlags := 25, nameIndex := 361, descriptorIndex := 339, attributes := #[] }, { accessFlags := 26, nameIndex := 364, descriptorIndex := 339, attributes := #[] }, { accessFlags := 26, nameIndex := 365, descriptorIndex := 339, attributes := #[] }, { accessFlags := 26, nameIndex := 172, descriptorIndex := 173, attributes := #[] }, { accessFlags := 26, nameIndex := 176, descriptorIndex := 173, attributes := #[] }, { accessFlags := 8, nameIndex := 344, descriptorIndex := 339, attributes := #[] }, { accessFlags := 8, nameIndex := 338, descriptorIndex := 339, attributes := #[] }, { accessFlags := 4120, nameIndex := 245, descriptorIndex := 246, attributes := #[] }])
  fields := #[{ name := "E", type := .double, accessFlags := 25, slot := 0, constantValue := 0 }, { name := "PI", type := .double, accessFlags := 25, slot := 1, constantValue := 0 }, { name := "TAU", type := .double, accessFlags := 25, slot := 2, constantValue := 0 }, { name := "DEGREES_TO_RADIANS", type := .double, accessFlags := 26, slot := 3, constantValue := 0 }, { name := "RADIANS_TO_DEGREES", type := .double, accessFlags := 26, slot := 4, constantValue := 0 }, { name := "negativeZeroFloatBits", type := .long, accessFlags := 26, slot := 5, constantValue := 0 }, { name := "negativeZeroDoubleBits", type := .long, accessFlags := 26, slot := 6, constantValue := 0 }, { name := "twoToTheDoubleScaleUp", type := .double, accessFlags := 8, slot := 7, constantValue := 0 }, { name := "twoToTheDoubleScaleDown", type := .double, accessFlags := 8, slot := 8, constantValue := 0 }, { name := "$assertionsDisabled", type := .boolean, accessFlags := 4120, slot := 9, constantValue := 0 }]
  methods := #[k17m0, k17m1, k17m2]
  instanceTypes := #[]
  staticTypes := #[.double, .double, .double, .double, .double, .long, .long, .double, .double, .boolean]
  resolved := Array.replicate 460 none
  statics := none }

def pool18 : Array CpInfo := pool [(1, .class_ 2), (0, u "java/lang/String"), (1, .class_ 6), (1, u "java/lang/Object"), (0, u "<init>"), (0, u "()V"), (0, .methodref 1 10), (0, .nameAndType 11 12), (0, u "checkIndex"), (0, u "(II)V"), (1, .class_ 16), (1, u "java/lang/StringLatin1"), (36, u "([BI)C"), (67, u "$assertionsDisabled"), (0, u "Z"), (98, .class_ 223), (1, u "java/lang/StringLatin1$LinesSpliterator"), (28, u "charAt"), (137, .class_ 391), (0, u "java/lang/StringLatin1$CharsSpliterator")] 3

def k18m0 : Method := { name := "<init>", desc := "()V", sig := { parameters := [], returnType := none }, accessFlags := 0, code := none }
def k18c1 : Code := { maxStack := 2, maxLocals := 2, code := jdk_43_method_2_code, exceptionTable := #[], attributes := #[] }
def k18m1 : Method := { name := "charAt", desc := "([BI)C", sig := { parameters := [(.array .byte), .int], returnType := some .char }, accessFlags := 9, code := some k18c1 }
/-- java/lang/StringLatin1 -/
def k18 : Class := { plain "java/lang/StringLatin1" (some 0) with
  accessFlags := 48
  interfaces := #[]
  cf := some (fileOf pool18 14 #[.nestMembers #[390, 221]] #[{ accessFlags := 0, nameIndex := 7, descriptorIndex := 8, attributes := #[] }, { accessFlags := 9, nameIndex := 252, descriptorIndex := 53, attributes := #[] }] 48 4 #[] #[{ accessFlags := 4120, nameIndex := 121, descriptorIndex := 122, attributes := #[] }])
  fields := #[{ name := "$assertionsDisabled", type := .boolean, accessFlags := 4120, slot := 0, constantValue := 0 }]
  methods := #[k18m0, k18m1]
  instanceTypes := #[]
  staticTypes := #[.boolean]
  resolved := Array.replicate 395 none
  statics := none }

def pool19 : Array CpInfo := pool [(2, .class_ 4), (1, u "java/lang/Object"), (0, u "<init>"), (0, u "()V"), (17, .class_ 26), (1, u "jdk/internal/util/Preconditions"), (6, u "checkIndex"), (21, .class_ 56), (0, u "jdk/internal/util/Preconditions$4"), (57, .class_ 115), (0, u "jdk/internal/util/Preconditions$1"), (7, u "SIOOBE_FORMATTER"), (0, u "Ljava/util/function/BiFunction;"), (0, .class_ 126), (0, u "jdk/internal/util/Preconditions$2"), (3, u "AIOOBE_FORMATTER"), (0, .class_ 132), (0, u "jdk/internal/util/Preconditions$3"), (3, u "IOOBE_FORMATTER"), (41, u "(IILjava/util/function/BiFunction;)I")] 15

def k19m0 : Method := { name := "<init>", desc := "()V", sig := { parameters := [], returnType := none }, accessFlags := 1, code := none }
def k19c1 : Code := { maxStack := 3, maxLocals := 3, code := jdk_41_method_11_code, exceptionTable := #[], attributes := #[] }
def k19m1 : Method := { name := "checkIndex", desc := "(IILjava/util/function/BiFunction;)I", sig := { parameters := [.int, .int, (.object "java/util/function/BiFunction")], returnType := some .int }, accessFlags := 9, code := some k19c1 }
/-- jdk/internal/util/Preconditions -/
def k19 : Class := { plain "jdk/internal/util/Preconditions" (some 0) with
  accessFlags := 33
  interfaces := #[]
  cf := some (fileOf pool19 24 #[.nestMembers #[55, 131, 125, 114]] #[{ accessFlags := 1, nameIndex := 5, descriptorIndex := 6, attributes := #[] }, { accessFlags := 9, nameIndex := 33, descriptorIndex := 178, attributes := #[] }] 33 2 #[] #[{ accessFlags := 25, nameIndex := 123, descriptorIndex := 124, attributes := #[] }, { accessFlags := 25, nameIndex := 130, descriptorIndex := 124, attributes := #[] }, { accessFlags := 25, nameIndex := 136, descriptorIndex := 124, attributes := #[] }])
  fields := #[{ name := "SIOOBE_FORMATTER", type := (.object "java/util/function/BiFunction"), accessFlags := 25, slot := 0, constantValue := 0 }, { name := "AIOOBE_FORMATTER", type := (.object "java/util/function/BiFunction"), accessFlags := 25, slot := 1, constantValue := 0 }, { name := "IOOBE_FORMATTER", type := (.object "java/util/function/BiFunction"), accessFlags := 25, slot := 2, constantValue := 0 }]
  methods := #[k19m0, k19m1]
  instanceTypes := #[]
  staticTypes := #[(.object "java/util/function/BiFunction"), (.object "java/util/function/BiFunction"), (.object "java/util/function/BiFunction")]
  resolved := Array.replicate 194 none
  statics := some 2 }

def pool20 : Array CpInfo := pool [(9, u "<init>"), (6, .class_ 18), (1, u "java/lang/Object"), (0, u "()V"), (1, .class_ 23), (1, u "jdk/internal/util/ArraysSupport"), (0, u "LOG2_ARRAY_LONG_INDEX_SCALE"), (0, u "I"), (2, u "U"), (0, u "Ljdk/internal/misc/Unsafe;"), (8, u "BIG_ENDIAN"), (0, u "Z"), (8, u "LOG2_BYTE_BIT_SIZE"), (4, u "LOG2_ARRAY_INT_INDEX_SCALE"), (54, u "JLA"), (0, u "Ljdk/internal/access/JavaLangAccess;"), (11, u "LOG2_ARRAY_BOOLEAN_INDEX_SCALE"), (9, u "LOG2_ARRAY_BYTE_INDEX_SCALE"), (5, u "LOG2_ARRAY_CHAR_INDEX_SCALE"), (5, u "LOG2_ARRAY_SHORT_INDEX_SCALE"), (18, u "LOG2_ARRAY_FLOAT_INDEX_SCALE"), (24, u "LOG2_ARRAY_DOUBLE_INDEX_SCALE"), (6, .methodref 195 196), (0, .class_ 197), (0, .nameAndType 198 199), (0, u "java/lang/Math"), (0, u "max"), (0, u "(II)I"), (0, .integer 2147483639), (76, u "T_BOOLEAN"), (2, u "T_CHAR"), (1, u "T_FLOAT"), (1, u "T_DOUBLE"), (1, u "T_BYTE"), (1, u "T_SHORT"), (1, u "T_INT"), (1, u "T_LONG"), (1, u "SOFT_MAX_ARRAY_LENGTH"), (56, u "newLength"), (0, u "(III)I")] 25

def k20m0 : Method := { name := "<init>", desc := "()V", sig := { parameters := [], returnType := none }, accessFlags := 2, code := none }
def k20c1 : Code := { maxStack := 3, maxLocals := 4, code := jdk_48_method_27_code, exceptionTable := #[], attributes := #[] }
def k20m1 : Method := { name := "newLength", desc := "(III)I", sig := { parameters := [.int, .int, .int], returnType := some .int }, accessFlags := 9, code := some k20c1 }
/-- jdk/internal/util/ArraysSupport -/
def k20 : Class := { plain "jdk/internal/util/ArraysSupport" (some 0) with
  accessFlags := 33
  interfaces := #[]
  cf := some (fileOf pool20 21 #[] #[{ accessFlags := 2, nameIndex := 9, descriptorIndex := 19, attributes := #[] }, { accessFlags := 9, nameIndex := 351, descriptorIndex := 352, attributes := #[] }] 33 16 #[] #[{ accessFlags := 24, nameIndex := 28, descriptorIndex := 29, attributes := #[] }, { accessFlags := 26, nameIndex := 38, descriptorIndex := 39, attributes := #[] }, { accessFlags := 25, nameIndex := 121, descriptorIndex := 25, attributes := #[] }, { accessFlags := 25, nameIndex := 131, descriptorIndex := 25, attributes := #[] }, { accessFlags := 25, nameIndex := 137, descriptorIndex := 25, attributes := #[] }, { accessFlags := 25, nameIndex := 143, descriptorIndex := 25, attributes := #[] }, { accessFlags := 25, nameIndex := 53, descriptorIndex := 25, attributes := #[] }, { accessFlags := 25, nameIndex := 24, descriptorIndex := 25, attributes := #[] }, { accessFlags := 25, nameIndex := 162, descriptorIndex := 25, attributes := #[] }, { accessFlags := 25, nameIndex := 187, descriptorIndex := 25, attributes := #[] }, { accessFlags := 26, nameIndex := 48, descriptorIndex := 25, attributes := #[] }, { accessFlags := 25, nameIndex := 277, descriptorIndex := 25, attributes := #[] }, { accessFlags := 25, nameIndex := 280, descriptorIndex := 25, attributes := #[] }, { accessFlags := 25, nameIndex := 282, descriptorIndex := 25, attributes := #[] }, { accessFlags := 25, nameIndex := 284, descriptorIndex := 25, attributes := #[] }, { accessFlags := 25, nameIndex := 286, descriptorIndex := 25, attributes := #[] }, { accessFlags := 25, nameIndex := 288, descriptorIndex := 25, attributes := #[] }, { accessFlags := 25, nameIndex := 290, descriptorIndex := 25, attributes := #[] }, { accessFlags := 25, nameIndex := 292, descriptorIndex := 25, attributes := #[] }, { accessFlags := 26, nameIndex := 108, descriptorIndex := 109, attributes := #[] }, { accessFlags := 25, nameIndex := 294, descriptorIndex := 25, attributes := #[] }])
  fields := #[{ name := "U", type := (.object "jdk/internal/misc/Unsafe"), accessFlags := 24, slot := 0, constantValue := 0 }, { name := "BIG_ENDIAN", type := .boolean, accessFlags := 26, slot := 1, constantValue := 0 }, { name := "LOG2_ARRAY_BOOLEAN_INDEX_SCALE", type := .int, accessFlags := 25, slot := 2, constantValue := 0 }, { name := "LOG2_ARRAY_BYTE_INDEX_SCALE", type := .int, accessFlags := 25, slot := 3, constantValue := 0 }, { name := "LOG2_ARRAY_CHAR_INDEX_SCALE", type := .int, accessFlags := 25, slot := 4, constantValue := 0 }, { name := "LOG2_ARRAY_SHORT_INDEX_SCALE", type := .int, accessFlags := 25, slot := 5, constantValue := 0 }, { name := "LOG2_ARRAY_INT_INDEX_SCALE", type := .int, accessFlags := 25, slot := 6, constantValue := 0 }, { name := "LOG2_ARRAY_LONG_INDEX_SCALE", type := .int, accessFlags := 25, slot := 7, constantValue := 0 }, { name := "LOG2_ARRAY_FLOAT_INDEX_SCALE", type := .int, accessFlags := 25, slot := 8, constantValue := 0 }, { name := "LOG2_ARRAY_DOUBLE_INDEX_SCALE", type := .int, accessFlags := 25, slot := 9, constantValue := 0 }, { name := "LOG2_BYTE_BIT_SIZE", type := .int, accessFlags := 26, slot := 10, constantValue := 0 }, { name := "T_BOOLEAN", type := .int, accessFlags := 25, slot := 11, constantValue := 0 }, { name := "T_CHAR", type := .int, accessFlags := 25, slot := 12, constantValue := 0 }, { name := "T_FLOAT", type := .int, accessFlags := 25, slot := 13, constantValue := 0 }, { name := "T_DOUBLE", type := .int, accessFlags := 25, slot := 14, constantValue := 0 }, { name := "T_BYTE", type := .int, accessFlags := 25, slot := 15, constantValue := 0 }, { name := "T_SHORT", type := .int, accessFlags := 25, slot := 16, constantValue := 0 }, { name := "T_INT", type := .int, accessFlags := 25, slot := 17, constantValue := 0 }, { name := "T_LONG", type := .int, accessFlags := 25, slot := 18, constantValue := 0 }, { name := "JLA", type := (.object "jdk/internal/access/JavaLangAccess"), accessFlags := 26, slot := 19, constantValue := 0 }, { name := "SOFT_MAX_ARRAY_LENGTH", type := .int, accessFlags := 25, slot := 20, constantValue := 0 }]
  methods := #[k20m0, k20m1]
  instanceTypes := #[]
  staticTypes := #[(.object "jdk/internal/misc/Unsafe"), .boolean, .int, .int, .int, .int, .int, .int, .int, .int, .int, .int, .int, .int, .int, .int, .int, .int, .int, (.object "jdk/internal/access/JavaLangAccess"), .int]
  resolved := Array.replicate 378 none
  statics := none }

def pool21 : Array CpInfo := pool [(1, .class_ 2), (0, u "java/lang/Cloneable"), (0, .class_ 4), (0, u "java/lang/Object")] 2

/-- java/lang/Cloneable -/
def k21 : Class := { plain "java/lang/Cloneable" (some 0) with
  accessFlags := 1537
  interfaces := #[]
  cf := some (fileOf pool21 1 #[] #[] 1537 3 #[] #[])
  fields := #[]
  methods := #[]
  instanceTypes := #[]
  staticTypes := #[]
  resolved := Array.replicate 7 none
  statics := none }

/-- the primitive byte -/
def k22 : Class := { plain "byte" none with kind := .primitive 'B', accessFlags := 0x411 }
/-- [B -/
def k23 : Class := { plain "[B" (some 0) with kind := .array 22 .byte, interfaces := #[21, 7], accessFlags := 1041 }

/-- the primitive int -/
def k24 : Class := { plain "int" none with kind := .primitive 'I', accessFlags := 0x411 }
/-- [I -/
def k25 : Class := { plain "[I" (some 0) with kind := .array 24 .int, interfaces := #[21, 7], accessFlags := 1041 }

def heap : Heap := #[{ cls := 12, slots := #[.long 0, .int 1, .null, .int 0, .null, .int 0, .int 0], vm := .statics 12 },
  { cls := 14, slots := #[.int 0, .int 0, .null, .null, .ref 4, .ref 3, .int 0, .int 0, .long 0], vm := .statics 14 },
  { cls := 19, slots := #[.null, .null, .null], vm := .statics 19 },
  { cls := 23, slots := #[.int 48, .int 49, .int 50, .int 51, .int 52, .int 53, .int 54, .int 55, .int 56, .int 57, .int 48, .int 49, .int 50, .int 51, .int 52, .int 53, .int 54, .int 55, .int 56, .int 57, .int 48, .int 49, .int 50, .int 51, .int 52, .int 53, .int 54, .int 55, .int 56, .int 57, .int 48, .int 49, .int 50, .int 51, .int 52, .int 53, .int 54, .int 55, .int 56, .int 57, .int 48, .int 49, .int 50, .int 51, .int 52, .int 53, .int 54, .int 55, .int 56, .int 57, .int 48, .int 49, .int 50, .int 51, .int 52, .int 53, .int 54, .int 55, .int 56, .int 57, .int 48, .int 49, .int 50, .int 51, .int 52, .int 53, .int 54, .int 55, .int 56, .int 57, .int 48, .int 49, .int 50, .int 51, .int 52, .int 53, .int 54, .int 55, .int 56, .int 57, .int 48, .int 49, .int 50, .int 51, .int 52, .int 53, .int 54, .int 55, .int 56, .int 57, .int 48, .int 49, .int 50, .int 51, .int 52, .int 53, .int 54, .int 55, .int 56, .int 57], vm := .none },
  { cls := 23, slots := #[.int 48, .int 48, .int 48, .int 48, .int 48, .int 48, .int 48, .int 48, .int 48, .int 48, .int 49, .int 49, .int 49, .int 49, .int 49, .int 49, .int 49, .int 49, .int 49, .int 49, .int 50, .int 50, .int 50, .int 50, .int 50, .int 50, .int 50, .int 50, .int 50, .int 50, .int 51, .int 51, .int 51, .int 51, .int 51, .int 51, .int 51, .int 51, .int 51, .int 51, .int 52, .int 52, .int 52, .int 52, .int 52, .int 52, .int 52, .int 52, .int 52, .int 52, .int 53, .int 53, .int 53, .int 53, .int 53, .int 53, .int 53, .int 53, .int 53, .int 53, .int 54, .int 54, .int 54, .int 54, .int 54, .int 54, .int 54, .int 54, .int 54, .int 54, .int 55, .int 55, .int 55, .int 55, .int 55, .int 55, .int 55, .int 55, .int 55, .int 55, .int 56, .int 56, .int 56, .int 56, .int 56, .int 56, .int 56, .int 56, .int 56, .int 56, .int 57, .int 57, .int 57, .int 57, .int 57, .int 57, .int 57, .int 57, .int 57, .int 57], vm := .none }]
def classes : Array Class := #[k0, k1, k2, k3, k4, k5, k6, k7, k8, k9, k10, k11, k12, k13, k14, k15, k16, k17, k18, k19, k20, k21, k22, k23, k24, k25]
def interned : List (Array UInt16 × Addr) := []
def slotsUsed : Nat := 219
def theMethod : MethodId := ⟨1, 1⟩
def args0 : Array Value := #[.int 5, .int 5]
def aboutOver (below : List Frame) : State where
  vm := { classes := classes, interned := interned.toArray }
  heap := heap
  slotsUsed := slotsUsed
  threads := #[{ frames := .invoking theMethod args0 :: below }]
def below0 : List Frame := [.native { method := ⟨0, 0⟩, args := #[] }]
def about1 : State := aboutOver below0
def p0 : Program := .bare "" "" ""
def e0 : Env := launch0.env 0 0 0
theorem w_frames : about1.frames = Frame.invoking theMethod args0 :: below0 := rfl
set_option maxRecDepth 65536 in
theorem w_args : argsFit about1.vm theMethod args0 = true := by decide +kernel
set_option maxRecDepth 65536 in
theorem w_heap : heapFits about1 = true := by decide +kernel
set_option maxRecDepth 65536 in
theorem w_runnable : about1.curStatus? = some .runnable := by decide +kernel
set_option maxRecDepth 65536 in
theorem w_alone : about1.alone = true := by decide +kernel
set_option maxRecDepth 65536 in
theorem w_named : about1.methodNamed? x = some theMethod := by decide +kernel
set_option maxRecDepth 65536 in
theorem w_hears : about1.hears theMethod below0 = true := by decide +kernel
set_option maxRecDepth 65536 in
theorem w_ripe : about1.ripe theMethod args0 below0 = true := by decide +kernel
theorem w_running : about1.status = .running := rfl
set_option maxRecDepth 65536 in
theorem w_room : about1.hasRoom e0.platform room_1 = true :=
  launch0.hasRoom_least _ room_1 (by decide +kernel) (by decide +kernel) (by decide +kernel) (by decide +kernel) (by decide +kernel) (by decide +kernel)
theorem allAtoms_all (ts : List Jvm.Cond) (a : Array Jvm.Value) (st : Jvm.State) : (allAtoms ts).before a st = ts.all (fun c => c.before a st) := by
  induction ts with
  | nil => rfl
  | cons c t ih =>
    show (Jvm.Cond.and c (allAtoms t)).before a st = _
    rw [Jvm.Cond.before_and, ih, List.all_cons]
def words1 : List Jvm.Cond := Jvm.Cond.code x code maxLocals ret :: tables_1
/-- a 'code' word, met by the world's own term for the bytes: nothing is compared byte by byte -/
theorem code_word {y : MethodName} {bytes : ByteArray} {mx : Nat} {rt : Option FieldType} {a : Array Value} {s : State} {m : MethodId} {meth : Method} {c : Code} (h1 : s.methodNamed? y = some m) (h2 : s.vm.method? m = some meth) (h3 : meth.code = some c) (h4 : c.code = bytes)
    (h5 : (c.maxLocals == mx && c.exceptionTable.isEmpty && decide (c.maxStack ≤ mostOperands) && decide (meth.sig.returnType = rt) && !meth.locks && decide (parseMethodDescriptor y.desc = some meth.sig)) = true) : (Jvm.Cond.code y bytes mx rt).before a s = true := by
  simp only [Bool.and_eq_true, beq_iff_eq, Bool.not_eq_true', decide_eq_true_eq] at h5
  obtain ⟨⟨⟨⟨⟨g1, g2⟩, g3⟩, g4⟩, g5⟩, g6⟩ := h5
  simp [Cond.before, Cond.holds, Cond.value, h1, h2, h3, h4, g1, g2, g3, g4, g5, g6]
def isCode : Jvm.Cond → Bool
  | .code _ _ _ _ => true
  | _ => false
theorem all_split {L : List Jvm.Cond} {P : Jvm.Cond → Bool} (h1 : L.all (fun c => isCode c || P c) = true) (h2 : ∀ c ∈ L.filter isCode, P c = true) : L.all P = true := by
  refine List.all_eq_true.mpr fun c hc => ?_
  have h := List.all_eq_true.mp h1 c hc
  rcases Bool.eq_false_or_eq_true (isCode c) with hi | hi
  · exact h2 c (List.mem_filter.mpr ⟨hc, hi⟩)
  · simpa [hi] using h
set_option maxRecDepth 65536 in
theorem w_c0 : (Jvm.Cond.code x code maxLocals ret).before args0 about1 = true := code_word (m := ⟨1, 1⟩) (meth := k1m1) (c := k1c1) (by decide +kernel) rfl rfl rfl (by decide +kernel)
set_option maxRecDepth 65536 in
theorem w_c1 : (Jvm.Cond.code ({ cls := "com/example/myna/myna/limits/RateLimit", name := "<init>", desc := "(II)V" } : Jvm.MethodName) prog_14_method_1_code (3 : Nat) (Option.none : Option Jvm.ClassFile.FieldType)).before args0 about1 = true := code_word (m := ⟨3, 0⟩) (meth := k3m0) (c := k3c0) (by decide +kernel) rfl rfl rfl (by decide +kernel)
set_option maxRecDepth 65536 in
theorem w_c2 : (Jvm.Cond.code ({ cls := "java/lang/Record", name := "<init>", desc := "()V" } : Jvm.MethodName) jdk_30_method_1_code (1 : Nat) (Option.none : Option Jvm.ClassFile.FieldType)).before args0 about1 = true := code_word (m := ⟨2, 0⟩) (meth := k2m0) (c := k2c0) (by decide +kernel) rfl rfl rfl (by decide +kernel)
set_option maxRecDepth 65536 in
theorem w_c3 : (Jvm.Cond.code ({ cls := "java/lang/Object", name := "<init>", desc := "()V" } : Jvm.MethodName) object_method_1_code (1 : Nat) (Option.none : Option Jvm.ClassFile.FieldType)).before args0 about1 = true := code_word (m := ⟨0, 0⟩) (meth := k0m0) (c := k0c0) (by decide +kernel) rfl rfl rfl (by decide +kernel)
set_option maxRecDepth 65536 in
theorem w_c4 : (Jvm.Cond.code ({ cls := "com/example/myna/myna/limits/RateLimit", name := "toString", desc := "()Ljava/lang/String;" } : Jvm.MethodName) prog_14_method_3_code (1 : Nat) (Option.some (Jvm.ClassFile.FieldType.object "java/lang/String"))).before args0 about1 = true := code_word (m := ⟨3, 1⟩) (meth := k3m1) (c := k3c1) (by decide +kernel) rfl rfl rfl (by decide +kernel)
set_option maxRecDepth 65536 in
theorem w_c5 : (Jvm.Cond.code ({ cls := "java/lang/StringBuilder", name := "<init>", desc := "()V" } : Jvm.MethodName) jdk_67_method_1_code (1 : Nat) (Option.none : Option Jvm.ClassFile.FieldType)).before args0 about1 = true := code_word (m := ⟨9, 0⟩) (meth := k9m0) (c := k9c0) (by decide +kernel) rfl rfl rfl (by decide +kernel)
set_option maxRecDepth 65536 in
theorem w_c6 : (Jvm.Cond.code ({ cls := "java/lang/AbstractStringBuilder", name := "<init>", desc := "(I)V" } : Jvm.MethodName) jdk_68_method_2_code (2 : Nat) (Option.none : Option Jvm.ClassFile.FieldType)).before args0 about1 = true := code_word (m := ⟨6, 1⟩) (meth := k6m1) (c := k6c1) (by decide +kernel) rfl rfl rfl (by decide +kernel)
set_option maxRecDepth 65536 in
theorem w_c7 : (Jvm.Cond.code ({ cls := "java/lang/StringBuilder", name := "append", desc := "(I)Ljava/lang/StringBuilder;" } : Jvm.MethodName) jdk_67_method_15_code (2 : Nat) (Option.some (Jvm.ClassFile.FieldType.object "java/lang/StringBuilder"))).before args0 about1 = true := code_word (m := ⟨9, 2⟩) (meth := k9m2) (c := k9c2) (by decide +kernel) rfl rfl rfl (by decide +kernel)
set_option maxRecDepth 65536 in
theorem w_c8 : (Jvm.Cond.code ({ cls := "java/lang/AbstractStringBuilder", name := "append", desc := "(I)Ljava/lang/AbstractStringBuilder;" } : Jvm.MethodName) jdk_68_method_32_code (4 : Nat) (Option.some (Jvm.ClassFile.FieldType.object "java/lang/AbstractStringBuilder"))).before args0 about1 = true := code_word (m := ⟨6, 6⟩) (meth := k6m6) (c := k6c6) (by decide +kernel) rfl rfl rfl (by decide +kernel)
set_option maxRecDepth 65536 in
theorem w_c9 : (Jvm.Cond.code ({ cls := "java/lang/Integer", name := "stringSize", desc := "(I)I" } : Jvm.MethodName) jdk_33_method_13_code (4 : Nat) (Option.some Jvm.ClassFile.FieldType.int)).before args0 about1 = true := code_word (m := ⟨14, 1⟩) (meth := k14m1) (c := k14c1) (by decide +kernel) rfl rfl rfl (by decide +kernel)
set_option maxRecDepth 65536 in
theorem w_c10 : (Jvm.Cond.code ({ cls := "java/lang/AbstractStringBuilder", name := "ensureCapacityInternal", desc := "(I)V" } : Jvm.MethodName) jdk_68_method_9_code (3 : Nat) (Option.none : Option Jvm.ClassFile.FieldType)).before args0 about1 = true := code_word (m := ⟨6, 3⟩) (meth := k6m3) (c := k6c3) (by decide +kernel) rfl rfl rfl (by decide +kernel)
set_option maxRecDepth 65536 in
theorem w_c11 : (Jvm.Cond.code ({ cls := "java/lang/AbstractStringBuilder", name := "isLatin1", desc := "()Z" } : Jvm.MethodName) jdk_68_method_68_code (1 : Nat) (Option.some Jvm.ClassFile.FieldType.boolean)).before args0 about1 = true := code_word (m := ⟨6, 8⟩) (meth := k6m8) (c := k6c8) (by decide +kernel) rfl rfl rfl (by decide +kernel)
set_option maxRecDepth 65536 in
theorem w_c12 : (Jvm.Cond.code ({ cls := "java/lang/Integer", name := "getChars", desc := "(II[B)I" } : Jvm.MethodName) jdk_33_method_12_code (7 : Nat) (Option.some Jvm.ClassFile.FieldType.int)).before args0 about1 = true := code_word (m := ⟨14, 0⟩) (meth := k14m0) (c := k14c0) (by decide +kernel) rfl rfl rfl (by decide +kernel)
set_option maxRecDepth 65536 in
theorem w_c13 : (Jvm.Cond.code ({ cls := "java/lang/StringBuilder", name := "append", desc := "(Ljava/lang/String;)Ljava/lang/StringBuilder;" } : Jvm.MethodName) jdk_67_method_7_code (2 : Nat) (Option.some (Jvm.ClassFile.FieldType.object "java/lang/StringBuilder"))).before args0 about1 = true := code_word (m := ⟨9, 1⟩) (meth := k9m1) (c := k9c1) (by decide +kernel) rfl rfl rfl (by decide +kernel)
set_option maxRecDepth 65536 in
theorem w_c14 : (Jvm.Cond.code ({ cls := "java/lang/AbstractStringBuilder", name := "append", desc := "(Ljava/lang/String;)Ljava/lang/AbstractStringBuilder;" } : Jvm.MethodName) jdk_68_method_22_code (3 : Nat) (Option.some (Jvm.ClassFile.FieldType.object "java/lang/AbstractStringBuilder"))).before args0 about1 = true := code_word (m := ⟨6, 5⟩) (meth := k6m5) (c := k6c5) (by decide +kernel) rfl rfl rfl (by decide +kernel)
set_option maxRecDepth 65536 in
theorem w_c15 : (Jvm.Cond.code ({ cls := "java/lang/String", name := "length", desc := "()I" } : Jvm.MethodName) jdk_42_method_54_code (1 : Nat) (Option.some Jvm.ClassFile.FieldType.int)).before args0 about1 = true := code_word (m := ⟨12, 2⟩) (meth := k12m2) (c := k12c2) (by decide +kernel) rfl rfl rfl (by decide +kernel)
set_option maxRecDepth 65536 in
theorem w_c16 : (Jvm.Cond.code ({ cls := "java/lang/String", name := "coder", desc := "()B" } : Jvm.MethodName) jdk_42_method_152_code (1 : Nat) (Option.some Jvm.ClassFile.FieldType.byte)).before args0 about1 = true := code_word (m := ⟨12, 6⟩) (meth := k12m6) (c := k12c6) (by decide +kernel) rfl rfl rfl (by decide +kernel)
set_option maxRecDepth 65536 in
theorem w_c17 : (Jvm.Cond.code ({ cls := "java/lang/AbstractStringBuilder", name := "putStringAt", desc := "(ILjava/lang/String;)V" } : Jvm.MethodName) jdk_68_method_73_code (3 : Nat) (Option.none : Option Jvm.ClassFile.FieldType)).before args0 about1 = true := code_word (m := ⟨6, 10⟩) (meth := k6m10) (c := k6c10) (by decide +kernel) rfl rfl rfl (by decide +kernel)
set_option maxRecDepth 65536 in
theorem w_c18 : (Jvm.Cond.code ({ cls := "java/lang/AbstractStringBuilder", name := "inflateIfNeededFor", desc := "(Ljava/lang/String;)V" } : Jvm.MethodName) jdk_68_method_71_code (2 : Nat) (Option.none : Option Jvm.ClassFile.FieldType)).before args0 about1 = true := code_word (m := ⟨6, 9⟩) (meth := k6m9) (c := k6c9) (by decide +kernel) rfl rfl rfl (by decide +kernel)
set_option maxRecDepth 65536 in
theorem w_c19 : (Jvm.Cond.code ({ cls := "java/lang/String", name := "getBytes", desc := "([BIB)V" } : Jvm.MethodName) jdk_42_method_147_code (4 : Nat) (Option.none : Option Jvm.ClassFile.FieldType)).before args0 about1 = true := code_word (m := ⟨12, 4⟩) (meth := k12m4) (c := k12c4) (by decide +kernel) rfl rfl rfl (by decide +kernel)
set_option maxRecDepth 65536 in
theorem w_c20 : (Jvm.Cond.code ({ cls := "java/lang/StringBuilder", name := "toString", desc := "()Ljava/lang/String;" } : Jvm.MethodName) jdk_67_method_42_code (1 : Nat) (Option.some (Jvm.ClassFile.FieldType.object "java/lang/String"))).before args0 about1 = true := code_word (m := ⟨9, 3⟩) (meth := k9m3) (c := k9c3) (by decide +kernel) rfl rfl rfl (by decide +kernel)
set_option maxRecDepth 65536 in
theorem w_c21 : (Jvm.Cond.code ({ cls := "java/lang/String", name := "<init>", desc := "(Ljava/lang/StringBuilder;)V" } : Jvm.MethodName) jdk_42_method_53_code (2 : Nat) (Option.none : Option Jvm.ClassFile.FieldType)).before args0 about1 = true := code_word (m := ⟨12, 1⟩) (meth := k12m1) (c := k12c1) (by decide +kernel) rfl rfl rfl (by decide +kernel)
set_option maxRecDepth 65536 in
theorem w_c22 : (Jvm.Cond.code ({ cls := "java/lang/String", name := "<init>", desc := "(Ljava/lang/AbstractStringBuilder;Ljava/lang/Void;)V" } : Jvm.MethodName) jdk_42_method_150_code (5 : Nat) (Option.none : Option Jvm.ClassFile.FieldType)).before args0 about1 = true := code_word (m := ⟨12, 5⟩) (meth := k12m5) (c := k12c5) (by decide +kernel) rfl rfl rfl (by decide +kernel)
set_option maxRecDepth 65536 in
theorem w_c23 : (Jvm.Cond.code ({ cls := "java/lang/AbstractStringBuilder", name := "getValue", desc := "()[B" } : Jvm.MethodName) jdk_68_method_64_code (1 : Nat) (Option.some (Jvm.ClassFile.FieldType.array Jvm.ClassFile.FieldType.byte))).before args0 about1 = true := code_word (m := ⟨6, 7⟩) (meth := k6m7) (c := k6c7) (by decide +kernel) rfl rfl rfl (by decide +kernel)
set_option maxRecDepth 65536 in
theorem w_c24 : (Jvm.Cond.code ({ cls := "java/lang/StringBuilder", name := "length", desc := "()I" } : Jvm.MethodName) jdk_67_method_93_code (1 : Nat) (Option.some Jvm.ClassFile.FieldType.int)).before args0 about1 = true := code_word (m := ⟨9, 4⟩) (meth := k9m4) (c := k9c4) (by decide +kernel) rfl rfl rfl (by decide +kernel)
set_option maxRecDepth 65536 in
theorem w_c25 : (Jvm.Cond.code ({ cls := "java/lang/AbstractStringBuilder", name := "length", desc := "()I" } : Jvm.MethodName) jdk_68_method_6_code (1 : Nat) (Option.some Jvm.ClassFile.FieldType.int)).before args0 about1 = true := code_word (m := ⟨6, 2⟩) (meth := k6m2) (c := k6c2) (by decide +kernel) rfl rfl rfl (by decide +kernel)
set_option maxRecDepth 65536 in
theorem w_c26 : (Jvm.Cond.code ({ cls := "java/util/Arrays", name := "copyOfRange", desc := "([BII)[B" } : Jvm.MethodName) jdk_65_method_132_code (3 : Nat) (Option.some (Jvm.ClassFile.FieldType.array Jvm.ClassFile.FieldType.byte))).before args0 about1 = true := code_word (m := ⟨16, 3⟩) (meth := k16m3) (c := k16c3) (by decide +kernel) rfl rfl rfl (by decide +kernel)
set_option maxRecDepth 65536 in
theorem w_c27 : (Jvm.Cond.code ({ cls := "java/util/Arrays", name := "copyOfRangeByte", desc := "([BII)[B" } : Jvm.MethodName) jdk_65_method_133_code (5 : Nat) (Option.some (Jvm.ClassFile.FieldType.array Jvm.ClassFile.FieldType.byte))).before args0 about1 = true := code_word (m := ⟨16, 4⟩) (meth := k16m4) (c := k16c4) (by decide +kernel) rfl rfl rfl (by decide +kernel)
set_option maxRecDepth 65536 in
theorem w_c28 : (Jvm.Cond.code ({ cls := "java/util/Arrays", name := "checkLength", desc := "(II)V" } : Jvm.MethodName) jdk_65_method_131_code (2 : Nat) (Option.none : Option Jvm.ClassFile.FieldType)).before args0 about1 = true := code_word (m := ⟨16, 2⟩) (meth := k16m2) (c := k16c2) (by decide +kernel) rfl rfl rfl (by decide +kernel)
set_option maxRecDepth 65536 in
theorem w_c29 : (Jvm.Cond.code ({ cls := "java/lang/Math", name := "min", desc := "(II)I" } : Jvm.MethodName) jdk_29_method_69_code (2 : Nat) (Option.some Jvm.ClassFile.FieldType.int)).before args0 about1 = true := code_word (m := ⟨17, 2⟩) (meth := k17m2) (c := k17c2) (by decide +kernel) rfl rfl rfl (by decide +kernel)
set_option maxRecDepth 65536 in
theorem w_c30 : (Jvm.Cond.code ({ cls := "com/example/myna/myna/limits/RateLimitToStringPinLaw", name := "digitCount", desc := "(I)I" } : Jvm.MethodName) method_3_code (1 : Nat) (Option.some Jvm.ClassFile.FieldType.int)).before args0 about1 = true := code_word (m := ⟨1, 2⟩) (meth := k1m2) (c := k1c2) (by decide +kernel) rfl rfl rfl (by decide +kernel)
set_option maxRecDepth 65536 in
theorem w_c31 : (Jvm.Cond.code ({ cls := "java/lang/String", name := "charAt", desc := "(I)C" } : Jvm.MethodName) jdk_42_method_56_code (2 : Nat) (Option.some Jvm.ClassFile.FieldType.char)).before args0 about1 = true := code_word (m := ⟨12, 3⟩) (meth := k12m3) (c := k12c3) (by decide +kernel) rfl rfl rfl (by decide +kernel)
set_option maxRecDepth 65536 in
theorem w_c32 : (Jvm.Cond.code ({ cls := "java/lang/String", name := "isLatin1", desc := "()Z" } : Jvm.MethodName) jdk_42_method_154_code (1 : Nat) (Option.some Jvm.ClassFile.FieldType.boolean)).before args0 about1 = true := code_word (m := ⟨12, 7⟩) (meth := k12m7) (c := k12c7) (by decide +kernel) rfl rfl rfl (by decide +kernel)
set_option maxRecDepth 65536 in
theorem w_c33 : (Jvm.Cond.code ({ cls := "java/lang/StringLatin1", name := "charAt", desc := "([BI)C" } : Jvm.MethodName) jdk_43_method_2_code (2 : Nat) (Option.some Jvm.ClassFile.FieldType.char)).before args0 about1 = true := code_word (m := ⟨18, 1⟩) (meth := k18m1) (c := k18c1) (by decide +kernel) rfl rfl rfl (by decide +kernel)
set_option maxRecDepth 65536 in
theorem w_c34 : (Jvm.Cond.code ({ cls := "java/lang/String", name := "checkIndex", desc := "(II)V" } : Jvm.MethodName) jdk_42_method_155_code (2 : Nat) (Option.none : Option Jvm.ClassFile.FieldType)).before args0 about1 = true := code_word (m := ⟨12, 8⟩) (meth := k12m8) (c := k12c8) (by decide +kernel) rfl rfl rfl (by decide +kernel)
set_option maxRecDepth 65536 in
theorem w_c35 : (Jvm.Cond.code ({ cls := "jdk/internal/util/Preconditions", name := "checkIndex", desc := "(IILjava/util/function/BiFunction;)I" } : Jvm.MethodName) jdk_41_method_11_code (3 : Nat) (Option.some Jvm.ClassFile.FieldType.int)).before args0 about1 = true := code_word (m := ⟨19, 1⟩) (meth := k19m1) (c := k19c1) (by decide +kernel) rfl rfl rfl (by decide +kernel)
set_option maxRecDepth 65536 in
theorem w_c36 : (Jvm.Cond.code ({ cls := "com/example/myna/myna/limits/RateLimitToStringPinLaw", name := "number", desc := "(Ljava/lang/String;III)Z" } : Jvm.MethodName) method_5_code (4 : Nat) (Option.some Jvm.ClassFile.FieldType.boolean)).before args0 about1 = true := code_word (m := ⟨1, 4⟩) (meth := k1m4) (c := k1c4) (by decide +kernel) rfl rfl rfl (by decide +kernel)
set_option maxRecDepth 65536 in
theorem w_c37 : (Jvm.Cond.code ({ cls := "com/example/myna/myna/limits/RateLimitToStringPinLaw", name := "digit", desc := "(Ljava/lang/String;IIII)Z" } : Jvm.MethodName) method_6_code (6 : Nat) (Option.some Jvm.ClassFile.FieldType.boolean)).before args0 about1 = true := code_word (m := ⟨1, 5⟩) (meth := k1m5) (c := k1c5) (by decide +kernel) rfl rfl rfl (by decide +kernel)
set_option maxRecDepth 65536 in
theorem w_c38 : (Jvm.Cond.code ({ cls := "com/example/myna/myna/limits/RateLimitToStringPinLaw", name := "pow10", desc := "(I)I" } : Jvm.MethodName) method_4_code (1 : Nat) (Option.some Jvm.ClassFile.FieldType.int)).before args0 about1 = true := code_word (m := ⟨1, 3⟩) (meth := k1m3) (c := k1c3) (by decide +kernel) rfl rfl rfl (by decide +kernel)
set_option maxRecDepth 65536 in
theorem w_c39 : (Jvm.Cond.code ({ cls := "java/lang/AbstractStringBuilder", name := "newCapacity", desc := "(I)I" } : Jvm.MethodName) jdk_68_method_10_code (6 : Nat) (Option.some Jvm.ClassFile.FieldType.int)).before args0 about1 = true := code_word (m := ⟨6, 4⟩) (meth := k6m4) (c := k6c4) (by decide +kernel) rfl rfl rfl (by decide +kernel)
set_option maxRecDepth 65536 in
theorem w_c40 : (Jvm.Cond.code ({ cls := "jdk/internal/util/ArraysSupport", name := "newLength", desc := "(III)I" } : Jvm.MethodName) jdk_48_method_27_code (4 : Nat) (Option.some Jvm.ClassFile.FieldType.int)).before args0 about1 = true := code_word (m := ⟨20, 1⟩) (meth := k20m1) (c := k20c1) (by decide +kernel) rfl rfl rfl (by decide +kernel)
set_option maxRecDepth 65536 in
theorem w_c41 : (Jvm.Cond.code ({ cls := "java/lang/Math", name := "max", desc := "(II)I" } : Jvm.MethodName) jdk_29_method_65_code (2 : Nat) (Option.some Jvm.ClassFile.FieldType.int)).before args0 about1 = true := code_word (m := ⟨17, 1⟩) (meth := k17m1) (c := k17c1) (by decide +kernel) rfl rfl rfl (by decide +kernel)
set_option maxRecDepth 65536 in
theorem w_c42 : (Jvm.Cond.code ({ cls := "java/util/Arrays", name := "copyOf", desc := "([BI)[B" } : Jvm.MethodName) jdk_65_method_121_code (3 : Nat) (Option.some (Jvm.ClassFile.FieldType.array Jvm.ClassFile.FieldType.byte))).before args0 about1 = true := code_word (m := ⟨16, 1⟩) (meth := k16m1) (c := k16c1) (by decide +kernel) rfl rfl rfl (by decide +kernel)
def codes1 : List Jvm.Cond := [Jvm.Cond.code x code maxLocals ret, Jvm.Cond.code ({ cls := "com/example/myna/myna/limits/RateLimit", name := "<init>", desc := "(II)V" } : Jvm.MethodName) prog_14_method_1_code (3 : Nat) (Option.none : Option Jvm.ClassFile.FieldType), Jvm.Cond.code ({ cls := "java/lang/Record", name := "<init>", desc := "()V" } : Jvm.MethodName) jdk_30_method_1_code (1 : Nat) (Option.none : Option Jvm.ClassFile.FieldType), Jvm.Cond.code ({ cls := "java/lang/Object", name := "<init>", desc := "()V" } : Jvm.MethodName) object_method_1_code (1 : Nat) (Option.none : Option Jvm.ClassFile.FieldType), Jvm.Cond.code ({ cls := "com/example/myna/myna/limits/RateLimit", name := "toString", desc := "()Ljava/lang/String;" } : Jvm.MethodName) prog_14_method_3_code (1 : Nat) (Option.some (Jvm.ClassFile.FieldType.object "java/lang/String")), Jvm.Cond.code ({ cls := "java/lang/StringBuilder", name := "<init>", desc := "()V" } : Jvm.MethodName) jdk_67_method_1_code (1 : Nat) (Option.none : Option Jvm.ClassFile.FieldType), Jvm.Cond.code ({ cls := "java/lang/AbstractStringBuilder", name := "<init>", desc := "(I)V" } : Jvm.MethodName) jdk_68_method_2_code (2 : Nat) (Option.none : Option Jvm.ClassFile.FieldType), Jvm.Cond.code ({ cls := "java/lang/StringBuilder", name := "append", desc := "(I)Ljava/lang/StringBuilder;" } : Jvm.MethodName) jdk_67_method_15_code (2 : Nat) (Option.some (Jvm.ClassFile.FieldType.object "java/lang/StringBuilder")), Jvm.Cond.code ({ cls := "java/lang/AbstractStringBuilder", name := "append", desc := "(I)Ljava/lang/AbstractStringBuilder;" } : Jvm.MethodName) jdk_68_method_32_code (4 : Nat) (Option.some (Jvm.ClassFile.FieldType.object "java/lang/AbstractStringBuilder")), Jvm.Cond.code ({ cls := "java/lang/Integer", name := "stringSize", desc := "(I)I" } : Jvm.MethodName) jdk_33_method_13_code (4 : Nat) (Option.some Jvm.ClassFile.FieldType.int), Jvm.Cond.code ({ cls := "java/lang/AbstractStringBuilder", name := "ensureCapacityInternal", desc := "(I)V" } : Jvm.MethodName) jdk_68_method_9_code (3 : Nat) (Option.none : Option Jvm.ClassFile.FieldType), Jvm.Cond.code ({ cls := "java/lang/AbstractStringBuilder", name := "isLatin1", desc := "()Z" } : Jvm.MethodName) jdk_68_method_68_code (1 : Nat) (Option.some Jvm.ClassFile.FieldType.boolean), Jvm.Cond.code ({ cls := "java/lang/Integer", name := "getChars", desc := "(II[B)I" } : Jvm.MethodName) jdk_33_method_12_code (7 : Nat) (Option.some Jvm.ClassFile.FieldType.int), Jvm.Cond.code ({ cls := "java/lang/StringBuilder", name := "append", desc := "(Ljava/lang/String;)Ljava/lang/StringBuilder;" } : Jvm.MethodName) jdk_67_method_7_code (2 : Nat) (Option.some (Jvm.ClassFile.FieldType.object "java/lang/StringBuilder")), Jvm.Cond.code ({ cls := "java/lang/AbstractStringBuilder", name := "append", desc := "(Ljava/lang/String;)Ljava/lang/AbstractStringBuilder;" } : Jvm.MethodName) jdk_68_method_22_code (3 : Nat) (Option.some (Jvm.ClassFile.FieldType.object "java/lang/AbstractStringBuilder")), Jvm.Cond.code ({ cls := "java/lang/String", name := "length", desc := "()I" } : Jvm.MethodName) jdk_42_method_54_code (1 : Nat) (Option.some Jvm.ClassFile.FieldType.int), Jvm.Cond.code ({ cls := "java/lang/String", name := "coder", desc := "()B" } : Jvm.MethodName) jdk_42_method_152_code (1 : Nat) (Option.some Jvm.ClassFile.FieldType.byte), Jvm.Cond.code ({ cls := "java/lang/AbstractStringBuilder", name := "putStringAt", desc := "(ILjava/lang/String;)V" } : Jvm.MethodName) jdk_68_method_73_code (3 : Nat) (Option.none : Option Jvm.ClassFile.FieldType), Jvm.Cond.code ({ cls := "java/lang/AbstractStringBuilder", name := "inflateIfNeededFor", desc := "(Ljava/lang/String;)V" } : Jvm.MethodName) jdk_68_method_71_code (2 : Nat) (Option.none : Option Jvm.ClassFile.FieldType), Jvm.Cond.code ({ cls := "java/lang/String", name := "getBytes", desc := "([BIB)V" } : Jvm.MethodName) jdk_42_method_147_code (4 : Nat) (Option.none : Option Jvm.ClassFile.FieldType), Jvm.Cond.code ({ cls := "java/lang/StringBuilder", name := "toString", desc := "()Ljava/lang/String;" } : Jvm.MethodName) jdk_67_method_42_code (1 : Nat) (Option.some (Jvm.ClassFile.FieldType.object "java/lang/String")), Jvm.Cond.code ({ cls := "java/lang/String", name := "<init>", desc := "(Ljava/lang/StringBuilder;)V" } : Jvm.MethodName) jdk_42_method_53_code (2 : Nat) (Option.none : Option Jvm.ClassFile.FieldType), Jvm.Cond.code ({ cls := "java/lang/String", name := "<init>", desc := "(Ljava/lang/AbstractStringBuilder;Ljava/lang/Void;)V" } : Jvm.MethodName) jdk_42_method_150_code (5 : Nat) (Option.none : Option Jvm.ClassFile.FieldType), Jvm.Cond.code ({ cls := "java/lang/AbstractStringBuilder", name := "getValue", desc := "()[B" } : Jvm.MethodName) jdk_68_method_64_code (1 : Nat) (Option.some (Jvm.ClassFile.FieldType.array Jvm.ClassFile.FieldType.byte)), Jvm.Cond.code ({ cls := "java/lang/StringBuilder", name := "length", desc := "()I" } : Jvm.MethodName) jdk_67_method_93_code (1 : Nat) (Option.some Jvm.ClassFile.FieldType.int), Jvm.Cond.code ({ cls := "java/lang/AbstractStringBuilder", name := "length", desc := "()I" } : Jvm.MethodName) jdk_68_method_6_code (1 : Nat) (Option.some Jvm.ClassFile.FieldType.int), Jvm.Cond.code ({ cls := "java/util/Arrays", name := "copyOfRange", desc := "([BII)[B" } : Jvm.MethodName) jdk_65_method_132_code (3 : Nat) (Option.some (Jvm.ClassFile.FieldType.array Jvm.ClassFile.FieldType.byte)), Jvm.Cond.code ({ cls := "java/util/Arrays", name := "copyOfRangeByte", desc := "([BII)[B" } : Jvm.MethodName) jdk_65_method_133_code (5 : Nat) (Option.some (Jvm.ClassFile.FieldType.array Jvm.ClassFile.FieldType.byte)), Jvm.Cond.code ({ cls := "java/util/Arrays", name := "checkLength", desc := "(II)V" } : Jvm.MethodName) jdk_65_method_131_code (2 : Nat) (Option.none : Option Jvm.ClassFile.FieldType), Jvm.Cond.code ({ cls := "java/lang/Math", name := "min", desc := "(II)I" } : Jvm.MethodName) jdk_29_method_69_code (2 : Nat) (Option.some Jvm.ClassFile.FieldType.int), Jvm.Cond.code ({ cls := "com/example/myna/myna/limits/RateLimitToStringPinLaw", name := "digitCount", desc := "(I)I" } : Jvm.MethodName) method_3_code (1 : Nat) (Option.some Jvm.ClassFile.FieldType.int), Jvm.Cond.code ({ cls := "java/lang/String", name := "charAt", desc := "(I)C" } : Jvm.MethodName) jdk_42_method_56_code (2 : Nat) (Option.some Jvm.ClassFile.FieldType.char), Jvm.Cond.code ({ cls := "java/lang/String", name := "isLatin1", desc := "()Z" } : Jvm.MethodName) jdk_42_method_154_code (1 : Nat) (Option.some Jvm.ClassFile.FieldType.boolean), Jvm.Cond.code ({ cls := "java/lang/StringLatin1", name := "charAt", desc := "([BI)C" } : Jvm.MethodName) jdk_43_method_2_code (2 : Nat) (Option.some Jvm.ClassFile.FieldType.char), Jvm.Cond.code ({ cls := "java/lang/String", name := "checkIndex", desc := "(II)V" } : Jvm.MethodName) jdk_42_method_155_code (2 : Nat) (Option.none : Option Jvm.ClassFile.FieldType), Jvm.Cond.code ({ cls := "jdk/internal/util/Preconditions", name := "checkIndex", desc := "(IILjava/util/function/BiFunction;)I" } : Jvm.MethodName) jdk_41_method_11_code (3 : Nat) (Option.some Jvm.ClassFile.FieldType.int), Jvm.Cond.code ({ cls := "com/example/myna/myna/limits/RateLimitToStringPinLaw", name := "number", desc := "(Ljava/lang/String;III)Z" } : Jvm.MethodName) method_5_code (4 : Nat) (Option.some Jvm.ClassFile.FieldType.boolean), Jvm.Cond.code ({ cls := "com/example/myna/myna/limits/RateLimitToStringPinLaw", name := "digit", desc := "(Ljava/lang/String;IIII)Z" } : Jvm.MethodName) method_6_code (6 : Nat) (Option.some Jvm.ClassFile.FieldType.boolean), Jvm.Cond.code ({ cls := "com/example/myna/myna/limits/RateLimitToStringPinLaw", name := "pow10", desc := "(I)I" } : Jvm.MethodName) method_4_code (1 : Nat) (Option.some Jvm.ClassFile.FieldType.int), Jvm.Cond.code ({ cls := "java/lang/AbstractStringBuilder", name := "newCapacity", desc := "(I)I" } : Jvm.MethodName) jdk_68_method_10_code (6 : Nat) (Option.some Jvm.ClassFile.FieldType.int), Jvm.Cond.code ({ cls := "jdk/internal/util/ArraysSupport", name := "newLength", desc := "(III)I" } : Jvm.MethodName) jdk_48_method_27_code (4 : Nat) (Option.some Jvm.ClassFile.FieldType.int), Jvm.Cond.code ({ cls := "java/lang/Math", name := "max", desc := "(II)I" } : Jvm.MethodName) jdk_29_method_65_code (2 : Nat) (Option.some Jvm.ClassFile.FieldType.int), Jvm.Cond.code ({ cls := "java/util/Arrays", name := "copyOf", desc := "([BI)[B" } : Jvm.MethodName) jdk_65_method_121_code (3 : Nat) (Option.some (Jvm.ClassFile.FieldType.array Jvm.ClassFile.FieldType.byte))]
set_option maxRecDepth 65536 in
theorem codes_eq : words1.filter isCode = codes1 := rfl
theorem w_codes : ∀ c ∈ words1.filter isCode, c.before args0 about1 = true := by
  rw [codes_eq]
  intro c hc
  simp only [codes1, List.mem_cons, List.not_mem_nil, or_false] at hc
  rcases hc with rfl | rfl | rfl | rfl | rfl | rfl | rfl | rfl | rfl | rfl | rfl | rfl | rfl | rfl | rfl | rfl | rfl | rfl | rfl | rfl | rfl | rfl | rfl | rfl | rfl | rfl | rfl | rfl | rfl | rfl | rfl | rfl | rfl | rfl | rfl | rfl | rfl | rfl | rfl | rfl | rfl | rfl | rfl
  · exact w_c0
  · exact w_c1
  · exact w_c2
  · exact w_c3
  · exact w_c4
  · exact w_c5
  · exact w_c6
  · exact w_c7
  · exact w_c8
  · exact w_c9
  · exact w_c10
  · exact w_c11
  · exact w_c12
  · exact w_c13
  · exact w_c14
  · exact w_c15
  · exact w_c16
  · exact w_c17
  · exact w_c18
  · exact w_c19
  · exact w_c20
  · exact w_c21
  · exact w_c22
  · exact w_c23
  · exact w_c24
  · exact w_c25
  · exact w_c26
  · exact w_c27
  · exact w_c28
  · exact w_c29
  · exact w_c30
  · exact w_c31
  · exact w_c32
  · exact w_c33
  · exact w_c34
  · exact w_c35
  · exact w_c36
  · exact w_c37
  · exact w_c38
  · exact w_c39
  · exact w_c40
  · exact w_c41
  · exact w_c42
set_option maxRecDepth 65536 in
theorem w_t1 : (words1.take 24).all (fun c => isCode c || c.before args0 about1) = true := by decide +kernel
set_option maxRecDepth 65536 in
theorem w_t2 : ((words1.drop 24).take 24).all (fun c => isCode c || c.before args0 about1) = true := by decide +kernel
set_option maxRecDepth 65536 in
theorem w_t3 : (((words1.drop 24).drop 24).take 24).all (fun c => isCode c || c.before args0 about1) = true := by decide +kernel
set_option maxRecDepth 65536 in
theorem w_t4 : ((((words1.drop 24).drop 24).drop 24).take 24).all (fun c => isCode c || c.before args0 about1) = true := by decide +kernel
set_option maxRecDepth 65536 in
theorem w_t5 : (((((words1.drop 24).drop 24).drop 24).drop 24).take 24).all (fun c => isCode c || c.before args0 about1) = true := by decide +kernel
set_option maxRecDepth 65536 in
theorem w_t6 : ((((((words1.drop 24).drop 24).drop 24).drop 24).drop 24).take 24).all (fun c => isCode c || c.before args0 about1) = true := by decide +kernel
set_option maxRecDepth 65536 in
theorem w_t7 : (((((((words1.drop 24).drop 24).drop 24).drop 24).drop 24).drop 24).take 24).all (fun c => isCode c || c.before args0 about1) = true := by decide +kernel
set_option maxRecDepth 65536 in
theorem w_t8 : ((((((((words1.drop 24).drop 24).drop 24).drop 24).drop 24).drop 24).drop 24).take 24).all (fun c => isCode c || c.before args0 about1) = true := by decide +kernel
set_option maxRecDepth 65536 in
theorem w_t9 : (((((((((words1.drop 24).drop 24).drop 24).drop 24).drop 24).drop 24).drop 24).drop 24).take 24).all (fun c => isCode c || c.before args0 about1) = true := by decide +kernel
set_option maxRecDepth 65536 in
theorem w_t10 : (((((((((words1.drop 24).drop 24).drop 24).drop 24).drop 24).drop 24).drop 24).drop 24).drop 24).all (fun c => isCode c || c.before args0 about1) = true := by decide +kernel
theorem w_tables : (allAtoms (Jvm.Cond.code x code maxLocals ret :: tables_1)).before args0 about1 = true := by
  rw [allAtoms_all]
  show words1.all (fun c => c.before args0 about1) = true
  refine all_split ?_ w_codes
  rw [← List.take_append_drop 24 words1, List.all_append, w_t1, ← List.take_append_drop 24 (words1.drop 24), List.all_append, w_t2, ← List.take_append_drop 24 ((words1.drop 24).drop 24), List.all_append, w_t3, ← List.take_append_drop 24 (((words1.drop 24).drop 24).drop 24), List.all_append, w_t4, ← List.take_append_drop 24 ((((words1.drop 24).drop 24).drop 24).drop 24), List.all_append, w_t5, ← List.take_append_drop 24 (((((words1.drop 24).drop 24).drop 24).drop 24).drop 24), List.all_append, w_t6, ← List.take_append_drop 24 ((((((words1.drop 24).drop 24).drop 24).drop 24).drop 24).drop 24), List.all_append, w_t7, ← List.take_append_drop 24 (((((((words1.drop 24).drop 24).drop 24).drop 24).drop 24).drop 24).drop 24), List.all_append, w_t8, ← List.take_append_drop 24 ((((((((words1.drop 24).drop 24).drop 24).drop 24).drop 24).drop 24).drop 24).drop 24), List.all_append, w_t9, w_t10]
  rfl
set_option maxRecDepth 65536 in
theorem w_rest : rest_1_c.before args0 about1 = true := by decide +kernel
set_option maxRecDepth 65536 in
theorem w_case : (Jvm.Cond.and given_1 narrow_1).before args0 about1 = true := by decide +kernel
set_option maxRecDepth 65536 in
theorem w_consts : constsHeld consts_1 about1 := Jvm.Lit.constsHeldB_iff.mp (by decide +kernel)
theorem w_applies : (headSpec (Jvm.Cond.code x code maxLocals ret :: tables_1) room_1).applies x e0.platform about1 = true :=
  (Spec.applies_iff w_frames).mpr ⟨w_running, w_runnable, w_alone, w_named, w_hears, w_ripe, w_room, w_tables⟩
theorem atStart : AtStart classFile x code maxLocals ret World_1 tables_1 room_1 Calls_1 rest_1 Pre_1 launch0 p0 e0 about1 theMethod args0 below0 :=
  ⟨lists_1, trivial, launch0.admits_env _ _ _, launch0.least_env, fairChoices_fair.cas, fairChoices_fair.clock, w_frames, w_args, w_heap, w_applies, ⟨w_consts, trivial⟩, w_rest, w_case⟩
end start1
theorem witness_1 : WitnessClaimed_1 := ⟨start1.p0, start1.e0, start1.about1, start1.theMethod, start1.args0, start1.below0, start1.atStart⟩
end Jvm.Pilot.@@N@@

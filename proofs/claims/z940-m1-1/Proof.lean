import JvmDerived
import JvmDerived.Pilot.@@N@@Statement
import JvmDerived.Pilot.@@N@@Code
set_option linter.unusedVariables false
set_option linter.unusedSimpArgs false
namespace Jvm.RoadKit
open Sem ClassFile Op Lib Jvm.Stand Jvm.Free Jvm.LawKit
section New
variable {p : Program} {l : Launch} {e : Env} {R : Room} {s : State} {m : MethodId} {args : Array Value} {below : List Frame} {meth : Method} {c : Code} {T : State} {locs : List Loc} {cells slots : Nat}
theorem retI (X : Stand p l e R s m args below meth c T locs cells slots) (hx : p.tables.exec = Jvm.exec) {pc : Nat} {Ls : Array Slot} {z : Int32} {rest : List Value} (hret : meth.sig.returnType = some .int) (hd : decode c.code pc = .ok (.ireturn, 1)) {fs : List Frame}
    (hl : ∀ (f : JFrame) (acts : List Action), f.method = m → f.locked = none → f.entered = [] → (doReturn e (T.setTop f) acts (some (.int z))).1 = T.setFrames fs) : Steps p.tables e below (T.setTop (mkF m pc Ls (.int z :: rest))) (T.setFrames fs) := by
  have hm' : T.vm.method? m = some meth := X.method'
  have hn : narrow .int (.int z) = .int z := rfl
  show Steps p.tables e below (T.setTop { method := m, pc := pc, locals := Ls, stack := _ :: rest, locked := none }) _
  jvm_step X.here [X.here.top, hx, hd, hm', hret, hn]
  first | (intro acts; rw [hl _ acts rfl rfl rfl]) | rw [hl _ _ rfl rfl rfl]
  exact Steps.refl _
end New
end Jvm.RoadKit
namespace Jvm.Pilot.@@N@@
open Jvm Jvm.ClassFile Sem Op Lib Jvm.Free Jvm.Stand Jvm.LawKit Jvm.RoadKit Bundle Jvm.Pilot.@@N@@.Jvm.D
/-- every run from the state T with the frame f on top is a run from s0 with f0 -/
def GoTo (tb : Tables) (e : Env) (below : List Frame) (s0 : State) (f0 : JFrame) (T : State) (f : JFrame) : Prop := ∀ t, Steps tb e below (T.setTop f) t → Steps tb e below (s0.setTop f0) t
theorem own_zlt {Z : State} {n0 : Nat} {h : Heap} {a : Addr} (O : Old Z n0 h) (q : a < Z.heap.size) : a < n0 := O.1 ▸ q
theorem own_selfSel {s : State} {args : Array Value} {C : String} {y : MethodName} (hsel : (Cond.selects C y y).before args s = true) (hpriv : s.PrivateAt y) (hinst : (Cond.instanceMethod y).before args s = true) (hy : y.cls ≠ "java/lang/invoke/MethodHandle" ∧ y.cls ≠ "java/lang/invoke/VarHandle") : (Cond.selects y.cls y y).before args s = true := by
  obtain ⟨c2, r2, m2, -, -, q3, -, kP, hkP, hkPi⟩ := Cond.selects_spec hsel
  exact selects_self_of_private (findClass_of_methodNamed q3) hkP hkPi hpriv hinst hy
theorem own_sameSelf {s : State} {args : Array Value} {C : String} {y z : MethodName} (hsel : (Cond.selects C z z).before args s = true) (hzy : z.cls = y.cls) (hinst : (Cond.instanceMethod y).before args s = true) (hy : y.cls ≠ "java/lang/invoke/MethodHandle" ∧ y.cls ≠ "java/lang/invoke/VarHandle") : (Cond.sameMethod y.cls y.cls y.name y.desc).before args s = true := by
  obtain ⟨c2, r2, m2, -, -, q3, -, kP, hkP, hkPi⟩ := Cond.selects_spec hsel
  obtain ⟨mk, methM, hnamed, hmethM, -, -⟩ := Cond.instanceMethod_spec hinst
  have h1 := findClass_of_methodNamed q3
  have h2 := findClass_of_methodNamed hnamed
  rw [hzy] at h1
  have hcls : mk.cls = m2.cls := Option.some.inj (h2.symm.trans h1)
  have hf := State.methodFound?_of_named hnamed hy
  obtain ⟨yc, yn, yd⟩ := y
  dsimp only at h1 h2 hf ⊢
  simp only [Cond.before, Cond.holds, Cond.value, h2, hf, hnamed, hcls, hkP]
  simp [hkPi]
theorem own_notFace {s : State} {args : Array Value} {C : String} {x y z : MethodName} (hsel : (Cond.selects C x z).before args s = true) (hzy : z.cls = y.cls) : NotFace s y := fun r0 h0 => by
  obtain ⟨c2, r2, m2, -, -, q3, -, kP, hkP, hkPi⟩ := Cond.selects_spec hsel
  have h1 := findClass_of_methodNamed q3
  rw [hzy] at h1
  have h2 := findClass_of_methodNamed h0
  have e : m2.cls = r0.cls := Option.some.inj (h1.symm.trans h2)
  exact ⟨kP, e ▸ hkP, hkPi⟩
theorem own_le {Z : State} {n0 : Nat} {h : Heap} (O : Old Z n0 h) : n0 ≤ h.size := O.1 ▸ O.2.1
theorem own_d_prog_22_method_4_code_0 : decode prog_22_method_4_code 0 = .ok (.aload_n 0, 1) := by decide +kernel
theorem own_d_prog_22_method_4_code_1 : decode prog_22_method_4_code 1 = .ok (.getstatic 7, 3) := by decide +kernel
theorem own_d_prog_22_method_4_code_4 : decode prog_22_method_4_code 4 = .ok (.if_acmp .ne 7, 3) := by decide +kernel
theorem own_d_prog_22_method_4_code_7 : decode prog_22_method_4_code 7 = .ok (.iconst 1, 1) := by decide +kernel
theorem own_d_prog_22_method_4_code_8 : decode prog_22_method_4_code 8 = .ok (.goto 4, 3) := by decide +kernel
theorem own_d_prog_22_method_4_code_12 : decode prog_22_method_4_code 12 = .ok (.ireturn, 1) := by decide +kernel
theorem own_d_prog_22_method_4_code_11 : decode prog_22_method_4_code 11 = .ok (.iconst 0, 1) := by decide +kernel
theorem own_pd0 : parseMethodDescriptor "()Z" = some ⟨[], some .boolean⟩ := by decide +kernel
theorem own_pn_own_isShared : plainName "com/example/holdfast/holdfast/LockStore$Mode" = true := by first | (simp [plainName, overriddenIn]; done) | decide +kernel
theorem own_ef_own_isShared (m : MethodId) (a : Addr) : entryFrame m #[(.ref a)] 1 = mkF m 0 #[.val (.ref a)] [] := by first | (simp [entryFrame, mkF, argsToLocals, Value.category]; done) | rfl
abbrev own_F_own_isShared (m : MethodId) (a : Addr) : JFrame := entryFrame m #[(.ref a)] 1
def Q_own_isShared (Z : State) (a : Addr) (w : Addr) (h0 : Heap) (n0 : Nat) (v : Option Value) (h : Heap) (L : List Loc) : Prop := v = some (.int (if a = w then (1 : Int32) else 0)) ∧ Fr n0 L ∧ h = h0
set_option maxRecDepth 65536 in
set_option maxHeartbeats 40000000 in
theorem own_isShared (l : Launch) (Z : State) (a0 : Array Value) (hw : ∀ d ∈ tables_1, d.before a0 Z = true) (ws : List Jvm.Cond) (a : Addr) (w : Addr) (h0 : Heap) (n0 : Nat) (O0 : Old Z n0 h0) (hp0 : Sta Z Z.heap "com/example/holdfast/holdfast/LockStore$Mode" "READ" "Lcom/example/holdfast/holdfast/LockStore$Mode;" (.ref w)) :
    MetFree l (⟨"com/example/holdfast/holdfast/LockStore$Mode", "isShared", "()Z"⟩ : MethodName) (head1 (Jvm.Cond.code (⟨"com/example/holdfast/holdfast/LockStore$Mode", "isShared", "()Z"⟩ : MethodName) prog_22_method_4_code 1 (some .boolean) :: ws) ({ frames := 0, cells := 0, slots := 0, locals := 0 } : Room)) (fun aa_ U_ => aa_ = #[(.ref a)] ∧ Z.Warmed39 U_.vm ∧ U_.heap = h0) (fun _ _ _ _ _ => True) (fun _ U_ o_ V_ => ∃ v_ L_, o_ = .returned v_ ∧ Q_own_isShared Z a w h0 n0 v_ V_.heap L_ ∧ FrameEnd U_ o_ V_ L_ ({ frames := 0, cells := 0, slots := 0, locals := 0 } : Room).cells ({ frames := 0, cells := 0, slots := 0, locals := 0 } : Room).slots) := by
  refine MetFree.of_bodySF (plainFor_of_name own_pn_own_isShared) hisR ?_
  intro p e s m args below meth c s₁ Bd hml0 hP hK
  obtain ⟨rfl, hZ, hh⟩ := hP
  have hx := Bd.exec
  have hby := Bd.bytes
  have hml : c.maxLocals = 1 := hml0
  have hown : s.vm.findClass "com/example/holdfast/holdfast/LockStore$Mode" = some m.cls := findClass_of_methodNamed Bd.named
  have hnm := (name_of_methodNamed Bd.named Bd.method).1
  have X0 : Stand p l e ({ frames := 0, cells := 0, slots := 0, locals := 0 } : Room) s m #[(.ref a)] below meth c s₁ [] 0 0 := Stand.of_body Bd
  have e0 : s₁.heap = h0 := by rw [← hh, Bd.state]; rfl
  have N0 := Fr.nil n0
  have K0 : Keep h0 h0 [] := Keep.refl _ _
  have r0 : GoTo p.tables e below s₁ (own_F_own_isShared m a) s₁ (mkF m 0 #[.val (.ref a)] []) := fun tt_ kk_ => castTop (own_ef_own_isShared m a) kk_
  obtain ⟨T1, X1, e1, st1⟩ := getS2 X0 hx hZ hown (host := "") (Or.inl (hw _ (List.mem_of_getElem? (i := 9) rfl))) Via.refl e0 (hp0.ext (O0.keep K0 all0).2) (g := (mkF m 1 #[.val (.ref a)] [(.ref a)])) rfl (hb hby own_d_prog_22_method_4_code_1)
  have r2 : GoTo p.tables e below s₁ (own_F_own_isShared m a) T1 (mkF m 4 #[.val (.ref a)] [(.ref w), (.ref a)]) := fun tt_ kk_ => r0 tt_ (by
      show Steps p.tables e below (s₁.setTop (mkF m 0 #[.val (.ref a)] [])) _
      refine XS.aloadN X0.here hx rfl (hb hby own_d_prog_22_method_4_code_0) rfl rfl ?_
      show Steps p.tables e below (s₁.setTop (mkF m 1 #[.val (.ref a)] [(.ref a)])) _
      refine st1 _ ?_
      show Steps p.tables e below (T1.setTop (mkF m 4 #[.val (.ref a)] [(.ref w), (.ref a)])) _
      exact kk_)
  by_cases hc3 : a = w
  · obtain ⟨fs, hr, hrun, hended, hW, hsame⟩ := X1.leave (v := some (.int (nar .boolean (1 : Int32)))) (fun h => by rw [Bd.returns] at h; cases h)
    refine ⟨_, _, r2 _ ?_, hrun, hended, _, _, rfl, ?_, ⟨_, rfl⟩, hW, hsame.mono (by decide) (by decide)⟩
    · show Steps p.tables e below (T1.setTop (mkF m 4 #[.val (.ref a)] [(.ref w), (.ref a)])) _
      refine Jvm.RoadKit.acmp (g := (mkF m 4 #[.val (.ref a)] [(.ref w), (.ref a)])) X1 hx rfl rfl rfl (pc0 := 4) (pc' := 7) (same := true) rfl (hb hby own_d_prog_22_method_4_code_4) rfl (decide_eq_true (congrArg Value.ref hc3)) (by decide) (by decide) ?_
      show Steps p.tables e below (T1.setTop (mkF m 7 #[.val (.ref a)] [])) _
      refine XS.iconst X1.here hx rfl (hb hby own_d_prog_22_method_4_code_7) ?_
      show Steps p.tables e below (T1.setTop (mkF m 8 #[.val (.ref a)] [(.int (1 : Int32))])) _
      refine XS.goto X1.here hx rfl (pc0 := 8) (pc' := 12) rfl (hb hby own_d_prog_22_method_4_code_8) (by decide) (by decide) ?_
      show Steps p.tables e below (T1.setTop (mkF m 12 #[.val (.ref a)] [(.int (1 : Int32))])) _
      exact retN X1 hx (t := .boolean) Bd.returns (by simp) (hb hby own_d_prog_22_method_4_code_12) hr
    · show Q_own_isShared Z a w h0 n0 _ T1.heap _
      rw [e1]
      exact ⟨(by rw [if_pos hc3]; rfl), N0, rfl⟩
  · obtain ⟨fs, hr, hrun, hended, hW, hsame⟩ := X1.leave (v := some (.int (nar .boolean (0 : Int32)))) (fun h => by rw [Bd.returns] at h; cases h)
    refine ⟨_, _, r2 _ ?_, hrun, hended, _, _, rfl, ?_, ⟨_, rfl⟩, hW, hsame.mono (by decide) (by decide)⟩
    · show Steps p.tables e below (T1.setTop (mkF m 4 #[.val (.ref a)] [(.ref w), (.ref a)])) _
      refine Jvm.RoadKit.acmp (g := (mkF m 4 #[.val (.ref a)] [(.ref w), (.ref a)])) X1 hx rfl rfl rfl (pc0 := 4) (pc' := 11) (same := false) rfl (hb hby own_d_prog_22_method_4_code_4) rfl (decide_eq_false fun q => hc3 (Value.ref.inj q)) (by decide) (by decide) ?_
      show Steps p.tables e below (T1.setTop (mkF m 11 #[.val (.ref a)] [])) _
      refine XS.iconst X1.here hx rfl (hb hby own_d_prog_22_method_4_code_11) ?_
      show Steps p.tables e below (T1.setTop (mkF m 12 #[.val (.ref a)] [(.int (0 : Int32))])) _
      exact retN X1 hx (t := .boolean) Bd.returns (by simp) (hb hby own_d_prog_22_method_4_code_12) hr
    · show Q_own_isShared Z a w h0 n0 _ T1.heap _
      rw [e1]
      exact ⟨(by rw [if_neg hc3]; rfl), N0, rfl⟩
theorem own_pn_own_law : plainName "com/example/holdfast/holdfast/ModeIsSharedPinLaw" = true := by first | (simp [plainName, overriddenIn]; done) | decide +kernel
theorem own_ef_own_law (m : MethodId) (k : Int32) : entryFrame m #[(.int k)] maxLocals = mkF m 0 #[.val (.int k), .unset, .unset, .unset] [] := by first | (simp [entryFrame, mkF, argsToLocals, Value.category, maxLocals]; done) | rfl
abbrev own_F_own_law (m : MethodId) (k : Int32) : JFrame := entryFrame m #[(.int k)] maxLocals
def Q_own_law (Z : State) (k : Int32) (aE : Addr) (aR : Addr) (aW : Addr) (h0 : Heap) (n0 : Nat) (v : Option Value) (h : Heap) (L : List Loc) : Prop := v = some (.int (1 : Int32)) ∧ Fr n0 L
set_option maxRecDepth 65536 in
set_option maxHeartbeats 40000000 in
theorem own_law (l : Launch) (Z : State) (a0 : Array Value) (hw : ∀ d ∈ tables_1, d.before a0 Z = true) (ws : List Jvm.Cond) (k : Int32) (aE : Addr) (aR : Addr) (aW : Addr) (h0 : Heap) (n0 : Nat) (O0 : Old Z n0 h0) (hp0 : Sta Z Z.heap "com/example/holdfast/holdfast/LockStore$Mode" "EXCLUSIVE" "Lcom/example/holdfast/holdfast/LockStore$Mode;" (.ref aE)) (hp1 : Sta Z Z.heap "com/example/holdfast/holdfast/LockStore$Mode" "READ" "Lcom/example/holdfast/holdfast/LockStore$Mode;" (.ref aR)) (hp2 : Sta Z Z.heap "com/example/holdfast/holdfast/LockStore$Mode" "WRITE" "Lcom/example/holdfast/holdfast/LockStore$Mode;" (.ref aW)) (hp3 : Exa Z h0 aE "com/example/holdfast/holdfast/LockStore$Mode") (hp4 : Exa Z h0 aR "com/example/holdfast/holdfast/LockStore$Mode") (hp5 : Exa Z h0 aW "com/example/holdfast/holdfast/LockStore$Mode") (hp6 : aE ≠ aR) (hp7 : aW ≠ aR) :
    MetFree l x (head1 (Jvm.Cond.code x code maxLocals ret :: ws) room_1) (fun aa_ U_ => aa_ = #[(.int k)] ∧ Z.Warmed39 U_.vm ∧ U_.heap = h0) (fun _ _ _ _ _ => True) (fun _ U_ o_ V_ => ∃ v_ L_, o_ = .returned v_ ∧ Q_own_law Z k aE aR aW h0 n0 v_ V_.heap L_ ∧ FrameEnd U_ o_ V_ L_ room_1.cells room_1.slots) := by
  refine MetFree.of_bodySF (plainFor_of_name own_pn_own_law) hisR ?_
  intro p e s m args below meth c s₁ Bd hml0 hP hK
  obtain ⟨rfl, hZ, hh⟩ := hP
  have hx := Bd.exec
  have hby := Bd.bytes
  have hml : c.maxLocals = 4 := hml0
  have hown : s.vm.findClass "com/example/holdfast/holdfast/ModeIsSharedPinLaw" = some m.cls := findClass_of_methodNamed Bd.named
  have hnm := (name_of_methodNamed Bd.named Bd.method).1
  have X0 : Stand p l e room_1 s m #[(.int k)] below meth c s₁ [] 0 0 := Stand.of_body Bd
  have e0 : s₁.heap = h0 := by rw [← hh, Bd.state]; rfl
  have N0 := Fr.nil n0
  have K0 : Keep h0 h0 [] := Keep.refl _ _
  have r0 : GoTo p.tables e below s₁ (own_F_own_law m k) s₁ (mkF m 0 #[.val (.int k), .unset, .unset, .unset] []) := fun tt_ kk_ => castTop (own_ef_own_law m k) kk_
  have r1 : GoTo p.tables e below s₁ (own_F_own_law m k) s₁ (mkF m 8 #[.val (.int k), .val (.int ((k &&& (2147483647 : Int32)) % (3 : Int32))), .unset, .unset] [(.int ((k &&& (2147483647 : Int32)) % (3 : Int32)))]) := fun tt_ kk_ => r0 tt_ (by
      show Steps p.tables e below (s₁.setTop (mkF m 0 #[.val (.int k), .unset, .unset, .unset] [])) _
      refine XS.iloadN X0.here hx rfl (hb hby at_0) rfl ?_
      show Steps p.tables e below (s₁.setTop (mkF m 1 #[.val (.int k), .unset, .unset, .unset] [(.int k)])) _
      refine X0.ldcI hx hown (mvT hZ (hw _ (List.mem_of_getElem? (i := 0) rfl))) rfl (hb hby at_1) ?_
      show Steps p.tables e below (s₁.setTop (mkF m 3 #[.val (.int k), .unset, .unset, .unset] [(.int (2147483647 : Int32)), (.int k)])) _
      refine XS.iand X0.here hx rfl (hb hby at_3) rfl ?_
      show Steps p.tables e below (s₁.setTop (mkF m 4 #[.val (.int k), .unset, .unset, .unset] [(.int (k &&& (2147483647 : Int32)))])) _
      refine XS.iconst X0.here hx rfl (hb hby at_4) ?_
      show Steps p.tables e below (s₁.setTop (mkF m 5 #[.val (.int k), .unset, .unset, .unset] [(.int (3 : Int32)), (.int (k &&& (2147483647 : Int32)))])) _
      refine iremM X0 hx rfl (hb hby at_5) rfl (by decide) ?_
      show Steps p.tables e below (s₁.setTop (mkF m 6 #[.val (.int k), .unset, .unset, .unset] [(.int ((k &&& (2147483647 : Int32)) % (3 : Int32)))])) _
      refine XS.istoreN X0.here hx rfl (hb hby at_6) rfl (l' := #[.val (.int k), .val (.int ((k &&& (2147483647 : Int32)) % (3 : Int32))), .unset, .unset]) rfl ?_
      show Steps p.tables e below (s₁.setTop (mkF m 7 #[.val (.int k), .val (.int ((k &&& (2147483647 : Int32)) % (3 : Int32))), .unset, .unset] [])) _
      refine XS.iloadN X0.here hx rfl (hb hby at_7) rfl ?_
      show Steps p.tables e below (s₁.setTop (mkF m 8 #[.val (.int k), .val (.int ((k &&& (2147483647 : Int32)) % (3 : Int32))), .unset, .unset] [(.int ((k &&& (2147483647 : Int32)) % (3 : Int32)))])) _
      exact kk_)
  by_cases hc2 : ((k &&& (2147483647 : Int32)) % (3 : Int32)) = (0 : Int32)
  · obtain ⟨T3, X3, e3, st3⟩ := getS2 X0 hx hZ hown (host := "") (Or.inl (hw _ (List.mem_of_getElem? (i := 1) rfl))) Via.refl e0 (hp0.ext (O0.keep K0 all0).2) (g := (mkF m 11 #[.val (.int k), .val (.int ((k &&& (2147483647 : Int32)) % (3 : Int32))), .unset, .unset] [])) rfl (hb hby at_11)
    obtain ⟨cq4, kq4, qa4, qb4, qc4⟩ := isOf hZ e3 hp3
    obtain ⟨_, _, ⟨T4, L4, k4, n4⟩, -, X4, ⟨Lc4, hQ4, l4, y4, z4⟩, st4⟩ := X3.virtualBack hx (y := (⟨"com/example/holdfast/holdfast/LockStore$Mode", "isShared", "()Z"⟩ : MethodName)) (z := (⟨"com/example/holdfast/holdfast/LockStore$Mode", "isShared", "()Z"⟩ : MethodName)) hown (mvT hZ (hw _ (List.mem_of_getElem? (i := 4) rfl))) (mvT hZ (hw _ (List.mem_of_getElem? (i := 5) rfl))) (notFace_of_selects (args := #[]) (mvT hZ (hw _ (List.mem_of_getElem? (i := 7) rfl)))) (mvT hZ (hw _ (List.mem_of_getElem? (i := 7) rfl))) (mvT hZ (hw _ (List.mem_of_getElem? (i := 6) rfl))) (by decide) (backOf (W := 0) (own_isShared l Z a0 hw [] (aE) (aR) h0 n0 (O0.keep K0 all0) (hp1)) hZ (hw _ (List.mem_of_getElem? (i := 8) rfl)) (hw _ (List.mem_of_getElem? (i := 2) rfl)) (by decide) (by decide)) qa4 qc4 (g := (mkF m 41 #[.val (.int k), .val (.int ((k &&& (2147483647 : Int32)) % (3 : Int32))), .val (.ref aE), .val (.int (0 : Int32))] [(.ref aE)])) rfl (by rw [hml]; rfl) (Steps.refl _) (argsL := []) (rest := []) (lenOf own_pd0 rfl) rfl (by show 2 * 0 + _ ≤ _; exact Nat.le_of_eq rfl) (hb hby at_41) (fun _ _ => ⟨rfl, e3, (by decide : 0 + 0 ≤ _), (by decide : 0 + 0 ≤ _)⟩)
    dsimp only [Pt.U, Pt.locs, Pt.cells, Pt.slots] at X4 l4 y4 z4 st4 hQ4
    subst l4 y4 z4
    obtain ⟨rfl, Nq4, hh4⟩ := hQ4
    have N4 := Fr.app N0 Nq4
    obtain ⟨fs, hr, hrun, hended, hW, hsame⟩ := X4.leave (v := some (.int (nar .boolean (1 : Int32)))) (fun h => by rw [Bd.returns] at h; cases h)
    refine ⟨_, _, r1 _ ?_, hrun, hended, _, _, rfl, ?_, ⟨_, rfl⟩, hW, hsame.mono (by decide) (by decide)⟩
    · show Steps p.tables e below (s₁.setTop (mkF m 8 #[.val (.int k), .val (.int ((k &&& (2147483647 : Int32)) % (3 : Int32))), .unset, .unset] [(.int ((k &&& (2147483647 : Int32)) % (3 : Int32)))])) _
      refine XS.ifNo X0.here hx rfl (hb hby at_8) rfl ((if0 _ _).trans (teq hc2).2) ?_
      show Steps p.tables e below (s₁.setTop (mkF m 11 #[.val (.int k), .val (.int ((k &&& (2147483647 : Int32)) % (3 : Int32))), .unset, .unset] [])) _
      refine st3 _ ?_
      show Steps p.tables e below (T3.setTop (mkF m 14 #[.val (.int k), .val (.int ((k &&& (2147483647 : Int32)) % (3 : Int32))), .unset, .unset] [(.ref aE)])) _
      refine XS.astoreN X3.here hx rfl (hb hby at_14) rfl rfl (l' := #[.val (.int k), .val (.int ((k &&& (2147483647 : Int32)) % (3 : Int32))), .val (.ref aE), .unset]) rfl ?_
      show Steps p.tables e below (T3.setTop (mkF m 15 #[.val (.int k), .val (.int ((k &&& (2147483647 : Int32)) % (3 : Int32))), .val (.ref aE), .unset] [])) _
      refine XS.iconst X3.here hx rfl (hb hby at_15) ?_
      show Steps p.tables e below (T3.setTop (mkF m 16 #[.val (.int k), .val (.int ((k &&& (2147483647 : Int32)) % (3 : Int32))), .val (.ref aE), .unset] [(.int (0 : Int32))])) _
      refine XS.istoreN X3.here hx rfl (hb hby at_16) rfl (l' := #[.val (.int k), .val (.int ((k &&& (2147483647 : Int32)) % (3 : Int32))), .val (.ref aE), .val (.int (0 : Int32))]) rfl ?_
      show Steps p.tables e below (T3.setTop (mkF m 17 #[.val (.int k), .val (.int ((k &&& (2147483647 : Int32)) % (3 : Int32))), .val (.ref aE), .val (.int (0 : Int32))] [])) _
      refine XS.goto X3.here hx rfl (pc0 := 17) (pc' := 40) rfl (hb hby at_17) (by decide) (by decide) ?_
      show Steps p.tables e below (T3.setTop (mkF m 40 #[.val (.int k), .val (.int ((k &&& (2147483647 : Int32)) % (3 : Int32))), .val (.ref aE), .val (.int (0 : Int32))] [])) _
      refine XS.aloadN X3.here hx rfl (hb hby at_40) rfl rfl ?_
      show Steps p.tables e below (T3.setTop (mkF m 41 #[.val (.int k), .val (.int ((k &&& (2147483647 : Int32)) % (3 : Int32))), .val (.ref aE), .val (.int (0 : Int32))] [(.ref aE)])) _
      refine st4.trans ?_
      show Steps p.tables e below (T4.setTop (mkF m 44 #[.val (.int k), .val (.int ((k &&& (2147483647 : Int32)) % (3 : Int32))), .val (.ref aE), .val (.int (0 : Int32))] [(.int (if aE = aR then (1 : Int32) else 0))])) _
      refine XS.iloadN X4.here hx rfl (hb hby at_44) rfl ?_
      show Steps p.tables e below (T4.setTop (mkF m 45 #[.val (.int k), .val (.int ((k &&& (2147483647 : Int32)) % (3 : Int32))), .val (.ref aE), .val (.int (0 : Int32))] [(.int (0 : Int32)), (.int (if aE = aR then (1 : Int32) else 0))])) _
      refine XS.icmpNo X4.here hx rfl (hb hby at_45) rfl (teq (if_neg hp6)).2 ?_
      show Steps p.tables e below (T4.setTop (mkF m 48 #[.val (.int k), .val (.int ((k &&& (2147483647 : Int32)) % (3 : Int32))), .val (.ref aE), .val (.int (0 : Int32))] [])) _
      refine XS.iconst X4.here hx rfl (hb hby at_48) ?_
      show Steps p.tables e below (T4.setTop (mkF m 49 #[.val (.int k), .val (.int ((k &&& (2147483647 : Int32)) % (3 : Int32))), .val (.ref aE), .val (.int (0 : Int32))] [(.int (1 : Int32))])) _
      refine XS.goto X4.here hx rfl (pc0 := 49) (pc' := 53) rfl (hb hby at_49) (by decide) (by decide) ?_
      show Steps p.tables e below (T4.setTop (mkF m 53 #[.val (.int k), .val (.int ((k &&& (2147483647 : Int32)) % (3 : Int32))), .val (.ref aE), .val (.int (0 : Int32))] [(.int (1 : Int32))])) _
      exact retN X4 hx (t := .boolean) Bd.returns (by simp) (hb hby at_53) hr
    · show Q_own_law Z k aE aR aW h0 n0 _ T4.heap _
      rw [hh4]
      exact ⟨rfl, N4⟩
  · have r5 : GoTo p.tables e below s₁ (own_F_own_law m k) s₁ (mkF m 22 #[.val (.int k), .val (.int ((k &&& (2147483647 : Int32)) % (3 : Int32))), .unset, .unset] [(.int (1 : Int32)), (.int ((k &&& (2147483647 : Int32)) % (3 : Int32)))]) := fun tt_ kk_ => r1 tt_ (by
        show Steps p.tables e below (s₁.setTop (mkF m 8 #[.val (.int k), .val (.int ((k &&& (2147483647 : Int32)) % (3 : Int32))), .unset, .unset] [(.int ((k &&& (2147483647 : Int32)) % (3 : Int32)))])) _
        refine XS.ifYes X0.here hx rfl (pc0 := 8) (pc' := 20) rfl (hb hby at_8) rfl ((if0 _ _).trans (feq hc2).2) (by decide) (by decide) ?_
        show Steps p.tables e below (s₁.setTop (mkF m 20 #[.val (.int k), .val (.int ((k &&& (2147483647 : Int32)) % (3 : Int32))), .unset, .unset] [])) _
        refine XS.iloadN X0.here hx rfl (hb hby at_20) rfl ?_
        show Steps p.tables e below (s₁.setTop (mkF m 21 #[.val (.int k), .val (.int ((k &&& (2147483647 : Int32)) % (3 : Int32))), .unset, .unset] [(.int ((k &&& (2147483647 : Int32)) % (3 : Int32)))])) _
        refine XS.iconst X0.here hx rfl (hb hby at_21) ?_
        show Steps p.tables e below (s₁.setTop (mkF m 22 #[.val (.int k), .val (.int ((k &&& (2147483647 : Int32)) % (3 : Int32))), .unset, .unset] [(.int (1 : Int32)), (.int ((k &&& (2147483647 : Int32)) % (3 : Int32)))])) _
        exact kk_)
    by_cases hc6 : ((k &&& (2147483647 : Int32)) % (3 : Int32)) = (1 : Int32)
    · obtain ⟨T7, X7, e7, st7⟩ := getS2 X0 hx hZ hown (host := "") (Or.inl (hw _ (List.mem_of_getElem? (i := 13) rfl))) Via.refl e0 (hp1.ext (O0.keep K0 all0).2) (g := (mkF m 25 #[.val (.int k), .val (.int ((k &&& (2147483647 : Int32)) % (3 : Int32))), .unset, .unset] [])) rfl (hb hby at_25)
      obtain ⟨cq8, kq8, qa8, qb8, qc8⟩ := isOf hZ e7 hp4
      obtain ⟨_, _, ⟨T8, L8, k8, n8⟩, -, X8, ⟨Lc8, hQ8, l8, y8, z8⟩, st8⟩ := X7.virtualBack hx (y := (⟨"com/example/holdfast/holdfast/LockStore$Mode", "isShared", "()Z"⟩ : MethodName)) (z := (⟨"com/example/holdfast/holdfast/LockStore$Mode", "isShared", "()Z"⟩ : MethodName)) hown (mvT hZ (hw _ (List.mem_of_getElem? (i := 4) rfl))) (mvT hZ (hw _ (List.mem_of_getElem? (i := 5) rfl))) (notFace_of_selects (args := #[]) (mvT hZ (hw _ (List.mem_of_getElem? (i := 7) rfl)))) (mvT hZ (hw _ (List.mem_of_getElem? (i := 7) rfl))) (mvT hZ (hw _ (List.mem_of_getElem? (i := 6) rfl))) (by decide) (backOf (W := 0) (own_isShared l Z a0 hw [] (aR) (aR) h0 n0 (O0.keep K0 all0) (hp1)) hZ (hw _ (List.mem_of_getElem? (i := 8) rfl)) (hw _ (List.mem_of_getElem? (i := 2) rfl)) (by decide) (by decide)) qa8 qc8 (g := (mkF m 41 #[.val (.int k), .val (.int ((k &&& (2147483647 : Int32)) % (3 : Int32))), .val (.ref aR), .val (.int (1 : Int32))] [(.ref aR)])) rfl (by rw [hml]; rfl) (Steps.refl _) (argsL := []) (rest := []) (lenOf own_pd0 rfl) rfl (by show 2 * 0 + _ ≤ _; exact Nat.le_of_eq rfl) (hb hby at_41) (fun _ _ => ⟨rfl, e7, (by decide : 0 + 0 ≤ _), (by decide : 0 + 0 ≤ _)⟩)
      dsimp only [Pt.U, Pt.locs, Pt.cells, Pt.slots] at X8 l8 y8 z8 st8 hQ8
      subst l8 y8 z8
      obtain ⟨rfl, Nq8, hh8⟩ := hQ8
      have N8 := Fr.app N0 Nq8
      obtain ⟨fs, hr, hrun, hended, hW, hsame⟩ := X8.leave (v := some (.int (nar .boolean (1 : Int32)))) (fun h => by rw [Bd.returns] at h; cases h)
      refine ⟨_, _, r5 _ ?_, hrun, hended, _, _, rfl, ?_, ⟨_, rfl⟩, hW, hsame.mono (by decide) (by decide)⟩
      · show Steps p.tables e below (s₁.setTop (mkF m 22 #[.val (.int k), .val (.int ((k &&& (2147483647 : Int32)) % (3 : Int32))), .unset, .unset] [(.int (1 : Int32)), (.int ((k &&& (2147483647 : Int32)) % (3 : Int32)))])) _
        refine XS.icmpNo X0.here hx rfl (hb hby at_22) rfl (teq hc6).2 ?_
        show Steps p.tables e below (s₁.setTop (mkF m 25 #[.val (.int k), .val (.int ((k &&& (2147483647 : Int32)) % (3 : Int32))), .unset, .unset] [])) _
        refine st7 _ ?_
        show Steps p.tables e below (T7.setTop (mkF m 28 #[.val (.int k), .val (.int ((k &&& (2147483647 : Int32)) % (3 : Int32))), .unset, .unset] [(.ref aR)])) _
        refine XS.astoreN X7.here hx rfl (hb hby at_28) rfl rfl (l' := #[.val (.int k), .val (.int ((k &&& (2147483647 : Int32)) % (3 : Int32))), .val (.ref aR), .unset]) rfl ?_
        show Steps p.tables e below (T7.setTop (mkF m 29 #[.val (.int k), .val (.int ((k &&& (2147483647 : Int32)) % (3 : Int32))), .val (.ref aR), .unset] [])) _
        refine XS.iconst X7.here hx rfl (hb hby at_29) ?_
        show Steps p.tables e below (T7.setTop (mkF m 30 #[.val (.int k), .val (.int ((k &&& (2147483647 : Int32)) % (3 : Int32))), .val (.ref aR), .unset] [(.int (1 : Int32))])) _
        refine XS.istoreN X7.here hx rfl (hb hby at_30) rfl (l' := #[.val (.int k), .val (.int ((k &&& (2147483647 : Int32)) % (3 : Int32))), .val (.ref aR), .val (.int (1 : Int32))]) rfl ?_
        show Steps p.tables e below (T7.setTop (mkF m 31 #[.val (.int k), .val (.int ((k &&& (2147483647 : Int32)) % (3 : Int32))), .val (.ref aR), .val (.int (1 : Int32))] [])) _
        refine XS.goto X7.here hx rfl (pc0 := 31) (pc' := 40) rfl (hb hby at_31) (by decide) (by decide) ?_
        show Steps p.tables e below (T7.setTop (mkF m 40 #[.val (.int k), .val (.int ((k &&& (2147483647 : Int32)) % (3 : Int32))), .val (.ref aR), .val (.int (1 : Int32))] [])) _
        refine XS.aloadN X7.here hx rfl (hb hby at_40) rfl rfl ?_
        show Steps p.tables e below (T7.setTop (mkF m 41 #[.val (.int k), .val (.int ((k &&& (2147483647 : Int32)) % (3 : Int32))), .val (.ref aR), .val (.int (1 : Int32))] [(.ref aR)])) _
        refine st8.trans ?_
        show Steps p.tables e below (T8.setTop (mkF m 44 #[.val (.int k), .val (.int ((k &&& (2147483647 : Int32)) % (3 : Int32))), .val (.ref aR), .val (.int (1 : Int32))] [(.int (if aR = aR then (1 : Int32) else 0))])) _
        refine XS.iloadN X8.here hx rfl (hb hby at_44) rfl ?_
        show Steps p.tables e below (T8.setTop (mkF m 45 #[.val (.int k), .val (.int ((k &&& (2147483647 : Int32)) % (3 : Int32))), .val (.ref aR), .val (.int (1 : Int32))] [(.int (1 : Int32)), (.int (if aR = aR then (1 : Int32) else 0))])) _
        refine XS.icmpNo X8.here hx rfl (hb hby at_45) rfl (teq (if_pos rfl)).2 ?_
        show Steps p.tables e below (T8.setTop (mkF m 48 #[.val (.int k), .val (.int ((k &&& (2147483647 : Int32)) % (3 : Int32))), .val (.ref aR), .val (.int (1 : Int32))] [])) _
        refine XS.iconst X8.here hx rfl (hb hby at_48) ?_
        show Steps p.tables e below (T8.setTop (mkF m 49 #[.val (.int k), .val (.int ((k &&& (2147483647 : Int32)) % (3 : Int32))), .val (.ref aR), .val (.int (1 : Int32))] [(.int (1 : Int32))])) _
        refine XS.goto X8.here hx rfl (pc0 := 49) (pc' := 53) rfl (hb hby at_49) (by decide) (by decide) ?_
        show Steps p.tables e below (T8.setTop (mkF m 53 #[.val (.int k), .val (.int ((k &&& (2147483647 : Int32)) % (3 : Int32))), .val (.ref aR), .val (.int (1 : Int32))] [(.int (1 : Int32))])) _
        exact retN X8 hx (t := .boolean) Bd.returns (by simp) (hb hby at_53) hr
      · show Q_own_law Z k aE aR aW h0 n0 _ T8.heap _
        rw [hh8]
        exact ⟨rfl, N8⟩
    · obtain ⟨T9, X9, e9, st9⟩ := getS2 X0 hx hZ hown (host := "") (Or.inl (hw _ (List.mem_of_getElem? (i := 11) rfl))) Via.refl e0 (hp2.ext (O0.keep K0 all0).2) (g := (mkF m 34 #[.val (.int k), .val (.int ((k &&& (2147483647 : Int32)) % (3 : Int32))), .unset, .unset] [])) rfl (hb hby at_34)
      obtain ⟨cq10, kq10, qa10, qb10, qc10⟩ := isOf hZ e9 hp5
      obtain ⟨_, _, ⟨T10, L10, k10, n10⟩, -, X10, ⟨Lc10, hQ10, l10, y10, z10⟩, st10⟩ := X9.virtualBack hx (y := (⟨"com/example/holdfast/holdfast/LockStore$Mode", "isShared", "()Z"⟩ : MethodName)) (z := (⟨"com/example/holdfast/holdfast/LockStore$Mode", "isShared", "()Z"⟩ : MethodName)) hown (mvT hZ (hw _ (List.mem_of_getElem? (i := 4) rfl))) (mvT hZ (hw _ (List.mem_of_getElem? (i := 5) rfl))) (notFace_of_selects (args := #[]) (mvT hZ (hw _ (List.mem_of_getElem? (i := 7) rfl)))) (mvT hZ (hw _ (List.mem_of_getElem? (i := 7) rfl))) (mvT hZ (hw _ (List.mem_of_getElem? (i := 6) rfl))) (by decide) (backOf (W := 0) (own_isShared l Z a0 hw [] (aW) (aR) h0 n0 (O0.keep K0 all0) (hp1)) hZ (hw _ (List.mem_of_getElem? (i := 8) rfl)) (hw _ (List.mem_of_getElem? (i := 2) rfl)) (by decide) (by decide)) qa10 qc10 (g := (mkF m 41 #[.val (.int k), .val (.int ((k &&& (2147483647 : Int32)) % (3 : Int32))), .val (.ref aW), .val (.int (0 : Int32))] [(.ref aW)])) rfl (by rw [hml]; rfl) (Steps.refl _) (argsL := []) (rest := []) (lenOf own_pd0 rfl) rfl (by show 2 * 0 + _ ≤ _; exact Nat.le_of_eq rfl) (hb hby at_41) (fun _ _ => ⟨rfl, e9, (by decide : 0 + 0 ≤ _), (by decide : 0 + 0 ≤ _)⟩)
      dsimp only [Pt.U, Pt.locs, Pt.cells, Pt.slots] at X10 l10 y10 z10 st10 hQ10
      subst l10 y10 z10
      obtain ⟨rfl, Nq10, hh10⟩ := hQ10
      have N10 := Fr.app N0 Nq10
      obtain ⟨fs, hr, hrun, hended, hW, hsame⟩ := X10.leave (v := some (.int (nar .boolean (1 : Int32)))) (fun h => by rw [Bd.returns] at h; cases h)
      refine ⟨_, _, r5 _ ?_, hrun, hended, _, _, rfl, ?_, ⟨_, rfl⟩, hW, hsame.mono (by decide) (by decide)⟩
      · show Steps p.tables e below (s₁.setTop (mkF m 22 #[.val (.int k), .val (.int ((k &&& (2147483647 : Int32)) % (3 : Int32))), .unset, .unset] [(.int (1 : Int32)), (.int ((k &&& (2147483647 : Int32)) % (3 : Int32)))])) _
        refine XS.icmpYes X0.here hx rfl (pc0 := 22) (pc' := 34) rfl (hb hby at_22) rfl (feq hc6).2 (by decide) (by decide) ?_
        show Steps p.tables e below (s₁.setTop (mkF m 34 #[.val (.int k), .val (.int ((k &&& (2147483647 : Int32)) % (3 : Int32))), .unset, .unset] [])) _
        refine st9 _ ?_
        show Steps p.tables e below (T9.setTop (mkF m 37 #[.val (.int k), .val (.int ((k &&& (2147483647 : Int32)) % (3 : Int32))), .unset, .unset] [(.ref aW)])) _
        refine XS.astoreN X9.here hx rfl (hb hby at_37) rfl rfl (l' := #[.val (.int k), .val (.int ((k &&& (2147483647 : Int32)) % (3 : Int32))), .val (.ref aW), .unset]) rfl ?_
        show Steps p.tables e below (T9.setTop (mkF m 38 #[.val (.int k), .val (.int ((k &&& (2147483647 : Int32)) % (3 : Int32))), .val (.ref aW), .unset] [])) _
        refine XS.iconst X9.here hx rfl (hb hby at_38) ?_
        show Steps p.tables e below (T9.setTop (mkF m 39 #[.val (.int k), .val (.int ((k &&& (2147483647 : Int32)) % (3 : Int32))), .val (.ref aW), .unset] [(.int (0 : Int32))])) _
        refine XS.istoreN X9.here hx rfl (hb hby at_39) rfl (l' := #[.val (.int k), .val (.int ((k &&& (2147483647 : Int32)) % (3 : Int32))), .val (.ref aW), .val (.int (0 : Int32))]) rfl ?_
        show Steps p.tables e below (T9.setTop (mkF m 40 #[.val (.int k), .val (.int ((k &&& (2147483647 : Int32)) % (3 : Int32))), .val (.ref aW), .val (.int (0 : Int32))] [])) _
        refine XS.aloadN X9.here hx rfl (hb hby at_40) rfl rfl ?_
        show Steps p.tables e below (T9.setTop (mkF m 41 #[.val (.int k), .val (.int ((k &&& (2147483647 : Int32)) % (3 : Int32))), .val (.ref aW), .val (.int (0 : Int32))] [(.ref aW)])) _
        refine st10.trans ?_
        show Steps p.tables e below (T10.setTop (mkF m 44 #[.val (.int k), .val (.int ((k &&& (2147483647 : Int32)) % (3 : Int32))), .val (.ref aW), .val (.int (0 : Int32))] [(.int (if aW = aR then (1 : Int32) else 0))])) _
        refine XS.iloadN X10.here hx rfl (hb hby at_44) rfl ?_
        show Steps p.tables e below (T10.setTop (mkF m 45 #[.val (.int k), .val (.int ((k &&& (2147483647 : Int32)) % (3 : Int32))), .val (.ref aW), .val (.int (0 : Int32))] [(.int (0 : Int32)), (.int (if aW = aR then (1 : Int32) else 0))])) _
        refine XS.icmpNo X10.here hx rfl (hb hby at_45) rfl (teq (if_neg hp7)).2 ?_
        show Steps p.tables e below (T10.setTop (mkF m 48 #[.val (.int k), .val (.int ((k &&& (2147483647 : Int32)) % (3 : Int32))), .val (.ref aW), .val (.int (0 : Int32))] [])) _
        refine XS.iconst X10.here hx rfl (hb hby at_48) ?_
        show Steps p.tables e below (T10.setTop (mkF m 49 #[.val (.int k), .val (.int ((k &&& (2147483647 : Int32)) % (3 : Int32))), .val (.ref aW), .val (.int (0 : Int32))] [(.int (1 : Int32))])) _
        refine XS.goto X10.here hx rfl (pc0 := 49) (pc' := 53) rfl (hb hby at_49) (by decide) (by decide) ?_
        show Steps p.tables e below (T10.setTop (mkF m 53 #[.val (.int k), .val (.int ((k &&& (2147483647 : Int32)) % (3 : Int32))), .val (.ref aW), .val (.int (0 : Int32))] [(.int (1 : Int32))])) _
        exact retN X10 hx (t := .boolean) Bd.returns (by simp) (hb hby at_53) hr
      · show Q_own_law Z k aE aR aW h0 n0 _ T10.heap _
        rw [hh10]
        exact ⟨rfl, N10⟩
theorem own_eqI {t : Term} {args : Array Value} {s : State} {k : Int32} (h : (Jvm.Cond.eq t (Jvm.Term.int k)).value args s none s [] = some true) : t.eval args s none [] s = some (.int k) := by
  obtain ⟨x, y, h1, h2, h3, h4⟩ := cmp_v (Or.inl h)
  have h5 : (Jvm.Term.int k).eval args s none [] s = some (.int k) := Term.int_eval k
  rw [h5] at h2
  obtain rfl : (Value.int k) = y := Option.some.inj h2
  obtain ⟨z, rfl⟩ := h4
  have h6 : (Jvm.Cond.eq t (Jvm.Term.int k)).value args s none s [] = some (decide (z = k)) := by simp [Cond.value, h1, h5]
  rw [h6] at h
  have h7 : z = k := of_decide_eq_true (Option.some.inj h)
  rw [h1, h7]
theorem own_ord {s : State} {args : Array Value} {t t' : Term} {a b : Addr} {C n d : String} {i j : Int32} (ha : t.eval args s none [] s = some (.ref a)) (hb : t'.eval args s none [] s = some (.ref b))
    (h1 : (Jvm.Cond.eq (Jvm.Term.field t C n d) (Jvm.Term.int i)).value args s none s [] = some true) (h2 : (Jvm.Cond.eq (Jvm.Term.field t' C n d) (Jvm.Term.int j)).value args s none s [] = some true) (hij : i ≠ j) : a ≠ b := fun e => by
  subst e
  have e1 := own_eqI h1; have e2 := own_eqI h2
  rw [fld_at ha] at e1; rw [fld_at hb] at e2
  rw [e1] at e2
  exact hij (Value.int.inj (Option.some.inj e2))
set_option maxRecDepth 65536 in
set_option maxHeartbeats 40000000 in
theorem comes_1 {Post : Tables → Env → Array Value → State → Outcome → State → Prop} (hpost : ∀ tb e args s v u, (limb_1_1.after args s (.returned v) u = true ∧ limb_1_2.after args s (.returned v) u = true ∧ True) → FrameEnd s (.returned v) u (Jvm.fieldLocs frame_1_writes args s ++ Jvm.arrayLocs frame_1_arrays args s ++ Jvm.staticLocs frame_1_statics s) 0 0 → Post tb e args s (.returned v) u) :
    ArmFor flags0 classFile x code maxLocals ret World_1 tables_1 room_1 Calls_1 rest_1 Pre_1 Post := by
  intro l hfl _ _ p e ha hc hk s m args below hf hA hF happ hP
  obtain ⟨hcalls, hrest, hpre⟩ := hP
  obtain ⟨-, -, -, hnamed, -, -, -, hat⟩ := (Spec.applies_iff hf).mp happ
  obtain ⟨hg, hn⟩ := and_e (Cond.before_iff.mp (show (Jvm.Cond.and given_1 narrow_1).before args s = true from hpre))
  obtain ⟨g0, g1⟩ := and_e hg
  obtain ⟨w0, rfl⟩ : ∃ w0 : Value, args = #[w0] := by
    have hs : args.size = 1 := by simpa [Cond.value, given_1] using g0
    obtain ⟨L⟩ := args
    match L, hs with
    | [w0], _ => exact ⟨w0, rfl⟩
  have hw := fun d (hd : d ∈ tables_1) => atoms_spec (ws := Jvm.Cond.code x code maxLocals ret :: tables_1) hat d (List.mem_cons_of_mem _ hd)
  have hfit : Fit s := fun {y c} hc i hi => by
    obtain ⟨ha, rfl⟩ := Array.getElem?_eq_some_iff.mp hc
    have q := List.all_eq_true.mp ((Array.all_eq_true_iff_forall_mem.mp hF) _ (Array.getElem_mem ha)) i (List.mem_range.mpr hi)
    simpa [Array.getElem?_eq_getElem hi] using q
  obtain ⟨i0, ev0⟩ := is_v g1
  obtain rfl : w0 = (.int i0) := Option.some.inj ev0
  obtain ⟨n0, hn1⟩ := and_e hn
  obtain ⟨n1, hn2⟩ := and_e hn1
  obtain ⟨n2, hn3⟩ := and_e hn2
  obtain ⟨n3, hn4⟩ := and_e hn3
  obtain ⟨n4, n5⟩ := and_e hn4
  obtain ⟨a_EXCLUSIVE, ev_EXCLUSIVE⟩ := exa_v n0
  have X_EXCLUSIVE := Exa.start ev_EXCLUSIVE n0
  have S_EXCLUSIVE := Sta.start ev_EXCLUSIVE (Or.inr ⟨(hw _ (List.mem_of_getElem? (i := 2) rfl)), (hw _ (List.mem_of_getElem? (i := 3) rfl))⟩)
  obtain ⟨a_READ, ev_READ⟩ := exa_v n1
  have X_READ := Exa.start ev_READ n1
  have S_READ := Sta.start ev_READ (Or.inr ⟨(hw _ (List.mem_of_getElem? (i := 2) rfl)), (hw _ (List.mem_of_getElem? (i := 10) rfl))⟩)
  obtain ⟨a_WRITE, ev_WRITE⟩ := exa_v n4
  have X_WRITE := Exa.start ev_WRITE n4
  have S_WRITE := Sta.start ev_WRITE (Or.inr ⟨(hw _ (List.mem_of_getElem? (i := 2) rfl)), (hw _ (List.mem_of_getElem? (i := 12) rfl))⟩)
  have d1 : a_EXCLUSIVE ≠ a_READ := own_ord ev_EXCLUSIVE ev_READ n2 n3 (by decide)
  have d2 : a_WRITE ≠ a_READ := own_ord ev_WRITE ev_READ n5 n3 (by decide)
  obtain ⟨n, o, h1, h2, h3, _, L, rfl, ⟨rfl, N⟩, hq⟩ := own_law l s _ hw tables_1 i0 a_EXCLUSIVE a_READ a_WRITE s.heap s.heap.size (Old.start s) S_EXCLUSIVE S_READ S_WRITE X_EXCLUSIVE X_READ X_WRITE d1 d2 p e ha hc hk s m _ below hf ((Spec.applies_iff_loose hf).mp happ).1 ⟨rfl, State.Warmed39.refl s, rfl⟩ trivial
  refine ⟨n, _, h1, h2, h3, hpost _ _ _ _ _ _ ⟨Cond.after_iff.mpr rfl, Cond.after_iff.mpr (eq_i res_at (Term.int_eval (1)) rfl), trivial⟩ ⟨hq.1, hq.2.1, (hq.2.2.sift fun y hy => Or.inr (N y hy)).mono (by decide) (by decide)⟩⟩
theorem main_1_1 : Claimed_1_1 := comes_1 fun _ _ _ _ _ _ h hF => ⟨h.1, hF⟩
theorem main_1_2 : Claimed_1_2 := comes_1 fun _ _ _ _ _ _ h hF => ⟨h.2.1, hF⟩
end Jvm.Pilot.@@N@@
namespace Jvm.Pilot.@@N@@
open Jvm Jvm.ClassFile Sem Op Lib Jvm.Free Jvm.Stand Jvm.Pilot.@@N@@.Jvm.D
/-! MADE BY PROGRAM (witnessworld.py) out of the Statement's table words and the real class files: 12 classes; the members and pool entries that the words name. The judged class is class 1, her method 1. -/
namespace start1
open Jvm.ClassFile
def u (s : String) : CpInfo := .utf8 (stringToUtf16 s)
/-- a pool by its gaps: so many unusable entries, then the entry; so many at the end -/
def gap : Nat → List CpInfo → List CpInfo
  | 0, r => r
  | n + 1, r => .unusable :: gap n r
def poolList (es : List (Nat × CpInfo)) (last : Nat) : List CpInfo := es.foldr (fun e r => gap e.1 (e.2 :: r)) (gap last [])
def pool (es : List (Nat × CpInfo)) (last : Nat) : Array CpInfo := ⟨poolList es last⟩
def fileOf (pool : Array CpInfo) (this : Nat) (attrs : Array Attribute := #[]) (ms : Array MethodInfo := #[]) (fl : Nat := 33) (sup : Nat := 0) (ifs : Array Nat := #[]) (fds : Array FieldInfo := #[]) : ClassFile where
  minorVersion := 0
  majorVersion := 65
  constantPool := pool
  accessFlags := fl
  thisClass := this
  superClass := sup
  interfaces := ifs
  fields := fds
  methods := ms
  attributes := attrs
def plain (name : String) (sup : Option ClassId) : Class where
  name := name
  kind := .ordinary
  loader := none
  accessFlags := 33
  super := sup
  interfaces := #[]
  cf := none
  fields := #[]
  methods := #[]
  instanceTypes := #[]
  staticTypes := #[]
  resolved := #[]
  callSites := []
  init := .initialized
  statics := none
  mirror := none

def pool0 : Array CpInfo := pool [(5, u "<init>"), (0, u "()V"), (1, .class_ 10), (1, u "java/lang/Object")] 113

def k0m0 : Method := { name := "<init>", desc := "()V", sig := { parameters := [], returnType := none }, accessFlags := 1, code := none }
/-- java/lang/Object -/
def k0 : Class := { plain "java/lang/Object" none with
  accessFlags := 33
  interfaces := #[]
  cf := some (fileOf pool0 8 #[] #[{ accessFlags := 1, nameIndex := 5, descriptorIndex := 6, attributes := #[] }] 33 0 #[] #[])
  fields := #[]
  methods := #[k0m0]
  instanceTypes := #[]
  staticTypes := #[]
  resolved := Array.replicate 124 none
  statics := none }

def pool1 : Array CpInfo := pool [(2, .class_ 4), (1, u "java/lang/Object"), (0, u "<init>"), (0, u "()V"), (0, .integer 2147483647), (0, .fieldref 9 10), (0, .class_ 11), (0, .nameAndType 12 13), (0, u "com/example/holdfast/holdfast/LockStore$Mode"), (0, u "EXCLUSIVE"), (0, u "Lcom/example/holdfast/holdfast/LockStore$Mode;"), (0, .fieldref 9 15), (0, .nameAndType 16 13), (0, u "READ"), (0, .fieldref 9 18), (0, .nameAndType 19 13), (0, u "WRITE"), (0, .methodref 9 21), (0, .nameAndType 22 23), (0, u "isShared"), (0, u "()Z"), (0, .class_ 25), (0, u "com/example/holdfast/holdfast/ModeIsSharedPinLaw"), (2, u "law"), (0, u "(I)Z")] 7

def k1m0 : Method := { name := "<init>", desc := "()V", sig := { parameters := [], returnType := none }, accessFlags := 2, code := none }
def k1c1 : Code := { maxStack := 2, maxLocals := 4, code := code, exceptionTable := #[], attributes := #[] }
def k1m1 : Method := { name := "law", desc := "(I)Z", sig := { parameters := [.int], returnType := some .boolean }, accessFlags := 9, code := some k1c1 }
/-- com/example/holdfast/holdfast/ModeIsSharedPinLaw -/
def k1 : Class := { plain "com/example/holdfast/holdfast/ModeIsSharedPinLaw" (some 0) with
  accessFlags := 49
  interfaces := #[]
  cf := some (fileOf pool1 24 #[] #[{ accessFlags := 2, nameIndex := 5, descriptorIndex := 6, attributes := #[] }, { accessFlags := 9, nameIndex := 28, descriptorIndex := 29, attributes := #[] }] 49 2 #[] #[])
  fields := #[]
  methods := #[k1m0, k1m1]
  instanceTypes := #[]
  staticTypes := #[]
  resolved := Array.replicate 37 none
  statics := none }

def pool2 : Array CpInfo := pool [(1, .class_ 2), (0, u "java/lang/constant/Constable"), (0, .class_ 4), (0, u "java/lang/Object")] 6

/-- java/lang/constant/Constable -/
def k2 : Class := { plain "java/lang/constant/Constable" (some 0) with
  accessFlags := 1537
  interfaces := #[]
  cf := some (fileOf pool2 1 #[] #[] 1537 3 #[] #[])
  fields := #[]
  methods := #[]
  instanceTypes := #[]
  staticTypes := #[]
  resolved := Array.replicate 11 none
  statics := none }

def pool3 : Array CpInfo := pool [(1, .class_ 2), (0, u "java/lang/Comparable"), (0, .class_ 4), (0, u "java/lang/Object")] 7

/-- java/lang/Comparable -/
def k3 : Class := { plain "java/lang/Comparable" (some 0) with
  accessFlags := 1537
  interfaces := #[]
  cf := some (fileOf pool3 1 #[] #[] 1537 3 #[] #[])
  fields := #[]
  methods := #[]
  instanceTypes := #[]
  staticTypes := #[]
  resolved := Array.replicate 12 none
  statics := none }

def pool4 : Array CpInfo := pool [(1, .class_ 2), (0, u "java/io/Serializable"), (0, .class_ 4), (0, u "java/lang/Object")] 2

/-- java/io/Serializable -/
def k4 : Class := { plain "java/io/Serializable" (some 0) with
  accessFlags := 1537
  interfaces := #[]
  cf := some (fileOf pool4 1 #[] #[] 1537 3 #[] #[])
  fields := #[]
  methods := #[]
  instanceTypes := #[]
  staticTypes := #[]
  resolved := Array.replicate 7 none
  statics := none }

def pool5 : Array CpInfo := pool [(2, .class_ 4), (1, u "java/lang/Enum"), (0, u "name"), (0, u "Ljava/lang/String;"), (2, u "ordinal"), (0, u "I"), (1, .class_ 14), (1, u "java/lang/Object"), (4, u "hash"), (86, .class_ 108), (1, u "java/lang/Enum$EnumDesc"), (2, .class_ 112), (0, u "java/lang/constant/Constable"), (0, .class_ 114), (0, u "java/lang/Comparable"), (0, .class_ 116), (0, u "java/io/Serializable")] 87

/-- java/lang/Enum -/
def k5 : Class := { plain "java/lang/Enum" (some 0) with
  accessFlags := 1057
  interfaces := #[2, 3, 4]
  cf := some (fileOf pool5 2 #[.nestMembers #[106]] #[] 1057 12 #[111, 113, 115] #[{ accessFlags := 18, nameIndex := 5, descriptorIndex := 6, attributes := #[] }, { accessFlags := 18, nameIndex := 9, descriptorIndex := 10, attributes := #[] }, { accessFlags := 2, nameIndex := 19, descriptorIndex := 10, attributes := #[] }])
  fields := #[{ name := "name", type := (.object "java/lang/String"), accessFlags := 18, slot := 0, constantValue := 0 }, { name := "ordinal", type := .int, accessFlags := 18, slot := 1, constantValue := 0 }, { name := "hash", type := .int, accessFlags := 2, slot := 2, constantValue := 0 }]
  methods := #[]
  instanceTypes := #[(.object "java/lang/String"), .int, .int]
  staticTypes := #[]
  resolved := Array.replicate 204 none
  statics := none }

def pool6 : Array CpInfo := pool [(1, .class_ 2), (0, u "com/example/holdfast/holdfast/LockStore$Mode"), (2, u "EXCLUSIVE"), (0, u "Lcom/example/holdfast/holdfast/LockStore$Mode;"), (0, .fieldref 1 8), (0, .nameAndType 9 6), (0, u "READ"), (2, u "WRITE"), (2, u "$VALUES"), (0, u "[Lcom/example/holdfast/holdfast/LockStore$Mode;"), (6, .class_ 25), (1, u "java/lang/Enum"), (8, u "kind"), (0, u "Ljava/lang/String;"), (27, u "isShared"), (0, u "()Z"), (9, .class_ 75), (0, u "com/example/holdfast/holdfast/LockStore")] 16

def k6c0 : Code := { maxStack := 2, maxLocals := 1, code := prog_22_method_4_code, exceptionTable := #[], attributes := #[] }
def k6m0 : Method := { name := "isShared", desc := "()Z", sig := { parameters := [], returnType := some .boolean }, accessFlags := 0, code := some k6c0 }
/-- com/example/holdfast/holdfast/LockStore$Mode -/
def k6 : Class := { plain "com/example/holdfast/holdfast/LockStore$Mode" (some 5) with
  accessFlags := 16433
  interfaces := #[]
  cf := some (fileOf pool6 1 #[.nestHost 74] #[{ accessFlags := 0, nameIndex := 63, descriptorIndex := 64, attributes := #[] }] 16433 23 #[] #[{ accessFlags := 16409, nameIndex := 5, descriptorIndex := 6, attributes := #[] }, { accessFlags := 16409, nameIndex := 9, descriptorIndex := 6, attributes := #[] }, { accessFlags := 16409, nameIndex := 12, descriptorIndex := 6, attributes := #[] }, { accessFlags := 18, nameIndex := 34, descriptorIndex := 35, attributes := #[] }, { accessFlags := 4122, nameIndex := 15, descriptorIndex := 16, attributes := #[] }])
  fields := #[{ name := "EXCLUSIVE", type := (.object "com/example/holdfast/holdfast/LockStore$Mode"), accessFlags := 16409, slot := 0, constantValue := 0 }, { name := "READ", type := (.object "com/example/holdfast/holdfast/LockStore$Mode"), accessFlags := 16409, slot := 1, constantValue := 0 }, { name := "WRITE", type := (.object "com/example/holdfast/holdfast/LockStore$Mode"), accessFlags := 16409, slot := 2, constantValue := 0 }, { name := "kind", type := (.object "java/lang/String"), accessFlags := 18, slot := 3, constantValue := 0 }, { name := "$VALUES", type := (.array (.object "com/example/holdfast/holdfast/LockStore$Mode")), accessFlags := 4122, slot := 3, constantValue := 0 }]
  methods := #[k6m0]
  instanceTypes := #[(.object "java/lang/String"), .int, .int, (.object "java/lang/String")]
  staticTypes := #[(.object "com/example/holdfast/holdfast/LockStore$Mode"), (.object "com/example/holdfast/holdfast/LockStore$Mode"), (.object "com/example/holdfast/holdfast/LockStore$Mode"), (.array (.object "com/example/holdfast/holdfast/LockStore$Mode"))]
  resolved := Array.replicate 92 none
  statics := some 0 }

def pool7 : Array CpInfo := pool [(1, u "java/lang/Cloneable"), (0, .class_ 1), (0, u "java/lang/Object"), (0, .class_ 3)] 3

/-- java/lang/Cloneable -/
def k7 : Class := { plain "java/lang/Cloneable" (some 0) with
  accessFlags := 1537
  interfaces := #[]
  cf := some (fileOf pool7 2 #[] #[] 1537 4 #[] #[])
  fields := #[]
  methods := #[]
  instanceTypes := #[]
  staticTypes := #[]
  resolved := Array.replicate 8 none
  statics := none }

/-- the primitive byte -/
def k8 : Class := { plain "byte" none with kind := .primitive 'B', accessFlags := 0x411 }
/-- [B -/
def k9 : Class := { plain "[B" (some 0) with kind := .array 8 .byte, interfaces := #[7, 4], accessFlags := 1041 }

/-- the primitive int -/
def k10 : Class := { plain "int" none with kind := .primitive 'I', accessFlags := 0x411 }
/-- [I -/
def k11 : Class := { plain "[I" (some 0) with kind := .array 10 .int, interfaces := #[7, 4], accessFlags := 1041 }

def heap : Heap := #[{ cls := 6, slots := #[.ref 1, .ref 2, .ref 3, .null], vm := .statics 6 },
  { cls := 6, slots := #[.null, .int 0, .int 0, .null], vm := .none },
  { cls := 6, slots := #[.null, .int 1, .int 0, .null], vm := .none },
  { cls := 6, slots := #[.null, .int 2, .int 0, .null], vm := .none }]
def classes : Array Class := #[k0, k1, k2, k3, k4, k5, k6, k7, k8, k9, k10, k11]
def interned : List (Array UInt16 × Addr) := []
def slotsUsed : Nat := 16
def theMethod : MethodId := ⟨1, 1⟩
def args0 : Array Value := #[.int 5]
def aboutOver (below : List Frame) : State where
  vm := { classes := classes, interned := interned.toArray }
  heap := heap
  slotsUsed := slotsUsed
  threads := #[{ frames := .invoking theMethod args0 :: below }]
def below0 : List Frame := [.native { method := ⟨0, 0⟩, args := #[] }]
def about1 : State := aboutOver below0
def p0 : Program := .bare "" "" ""
def e0 : Env := launch0.env 0 0 0
theorem w_frames : about1.frames = Frame.invoking theMethod args0 :: below0 := rfl
set_option maxRecDepth 65536 in
theorem w_args : argsFit about1.vm theMethod args0 = true := by decide +kernel
set_option maxRecDepth 65536 in
theorem w_heap : heapFits about1 = true := by decide +kernel
set_option maxRecDepth 65536 in
theorem w_runnable : about1.curStatus? = some .runnable := by decide +kernel
set_option maxRecDepth 65536 in
theorem w_alone : about1.alone = true := by decide +kernel
set_option maxRecDepth 65536 in
theorem w_named : about1.methodNamed? x = some theMethod := by decide +kernel
set_option maxRecDepth 65536 in
theorem w_hears : about1.hears theMethod below0 = true := by decide +kernel
set_option maxRecDepth 65536 in
theorem w_ripe : about1.ripe theMethod args0 below0 = true := by decide +kernel
theorem w_running : about1.status = .running := rfl
set_option maxRecDepth 65536 in
theorem w_room : about1.hasRoom e0.platform room_1 = true :=
  launch0.hasRoom_least _ room_1 (by decide +kernel) (by decide +kernel) (by decide +kernel) (by decide +kernel) (by decide +kernel) (by decide +kernel)
theorem allAtoms_all (ts : List Jvm.Cond) (a : Array Jvm.Value) (st : Jvm.State) : (allAtoms ts).before a st = ts.all (fun c => c.before a st) := by
  induction ts with
  | nil => rfl
  | cons c t ih =>
    show (Jvm.Cond.and c (allAtoms t)).before a st = _
    rw [Jvm.Cond.before_and, ih, List.all_cons]
def words1 : List Jvm.Cond := Jvm.Cond.code x code maxLocals ret :: tables_1
/-- a 'code' word, met by the world's own term for the bytes: nothing is compared byte by byte -/
theorem code_word {y : MethodName} {bytes : ByteArray} {mx : Nat} {rt : Option FieldType} {a : Array Value} {s : State} {m : MethodId} {meth : Method} {c : Code} (h1 : s.methodNamed? y = some m) (h2 : s.vm.method? m = some meth) (h3 : meth.code = some c) (h4 : c.code = bytes)
    (h5 : (c.maxLocals == mx && c.exceptionTable.isEmpty && decide (c.maxStack ≤ mostOperands) && decide (meth.sig.returnType = rt) && !meth.locks && decide (parseMethodDescriptor y.desc = some meth.sig)) = true) : (Jvm.Cond.code y bytes mx rt).before a s = true := by
  simp only [Bool.and_eq_true, beq_iff_eq, Bool.not_eq_true', decide_eq_true_eq] at h5
  obtain ⟨⟨⟨⟨⟨g1, g2⟩, g3⟩, g4⟩, g5⟩, g6⟩ := h5
  simp [Cond.before, Cond.holds, Cond.value, h1, h2, h3, h4, g1, g2, g3, g4, g5, g6]
def isCode : Jvm.Cond → Bool
  | .code _ _ _ _ => true
  | _ => false
theorem all_split {L : List Jvm.Cond} {P : Jvm.Cond → Bool} (h1 : L.all (fun c => isCode c || P c) = true) (h2 : ∀ c ∈ L.filter isCode, P c = true) : L.all P = true := by
  refine List.all_eq_true.mpr fun c hc => ?_
  have h := List.all_eq_true.mp h1 c hc
  rcases Bool.eq_false_or_eq_true (isCode c) with hi | hi
  · exact h2 c (List.mem_filter.mpr ⟨hc, hi⟩)
  · simpa [hi] using h
set_option maxRecDepth 65536 in
theorem w_c0 : (Jvm.Cond.code x code maxLocals ret).before args0 about1 = true := code_word (m := ⟨1, 1⟩) (meth := k1m1) (c := k1c1) (by decide +kernel) rfl rfl rfl (by decide +kernel)
set_option maxRecDepth 65536 in
theorem w_c1 : (Jvm.Cond.code ({ cls := "com/example/holdfast/holdfast/LockStore$Mode", name := "isShared", desc := "()Z" } : Jvm.MethodName) prog_22_method_4_code (1 : Nat) (Option.some Jvm.ClassFile.FieldType.boolean)).before args0 about1 = true := code_word (m := ⟨6, 0⟩) (meth := k6m0) (c := k6c0) (by decide +kernel) rfl rfl rfl (by decide +kernel)
def codes1 : List Jvm.Cond := [Jvm.Cond.code x code maxLocals ret, Jvm.Cond.code ({ cls := "com/example/holdfast/holdfast/LockStore$Mode", name := "isShared", desc := "()Z" } : Jvm.MethodName) prog_22_method_4_code (1 : Nat) (Option.some Jvm.ClassFile.FieldType.boolean)]
set_option maxRecDepth 65536 in
theorem codes_eq : words1.filter isCode = codes1 := rfl
theorem w_codes : ∀ c ∈ words1.filter isCode, c.before args0 about1 = true := by
  rw [codes_eq]
  intro c hc
  simp only [codes1, List.mem_cons, List.not_mem_nil, or_false] at hc
  rcases hc with rfl | rfl
  · exact w_c0
  · exact w_c1
set_option maxRecDepth 65536 in
theorem w_t1 : words1.all (fun c => isCode c || c.before args0 about1) = true := by decide +kernel
theorem w_tables : (allAtoms (Jvm.Cond.code x code maxLocals ret :: tables_1)).before args0 about1 = true := by
  rw [allAtoms_all]
  show words1.all (fun c => c.before args0 about1) = true
  refine all_split ?_ w_codes
  rw [w_t1]
set_option maxRecDepth 65536 in
theorem w_case : (Jvm.Cond.and given_1 narrow_1).before args0 about1 = true := by decide +kernel
theorem w_applies : (headSpec (Jvm.Cond.code x code maxLocals ret :: tables_1) room_1).applies x e0.platform about1 = true :=
  (Spec.applies_iff w_frames).mpr ⟨w_running, w_runnable, w_alone, w_named, w_hears, w_ripe, w_room, w_tables⟩
theorem atStart : AtStart classFile x code maxLocals ret World_1 tables_1 room_1 Calls_1 rest_1 Pre_1 launch0 p0 e0 about1 theMethod args0 below0 :=
  ⟨lists_1, trivial, launch0.admits_env _ _ _, launch0.least_env, fairChoices_fair.cas, fairChoices_fair.clock, w_frames, w_args, w_heap, w_applies, trivial, trivial, w_case⟩
end start1
theorem witness_1 : WitnessClaimed_1 := ⟨start1.p0, start1.e0, start1.about1, start1.theMethod, start1.args0, start1.below0, start1.atStart⟩
end Jvm.Pilot.@@N@@

import JvmDerived
import JvmDerived.Pilot.@@N@@Statement
import JvmDerived.Pilot.@@N@@Code
set_option linter.unusedVariables false
set_option linter.unusedSimpArgs false
@@BLOCK:NumsL.lean.txt@@
namespace Jvm.RoadKit
open Sem ClassFile Op Lib Jvm.Stand Jvm.Free Jvm.LawKit
section New
variable {p : Program} {l : Launch} {e : Env} {R : Room} {s : State} {m : MethodId} {args : Array Value} {below : List Frame} {meth : Method} {c : Code} {T : State} {locs : List Loc} {cells slots : Nat}
theorem retI (X : Stand p l e R s m args below meth c T locs cells slots) (hx : p.tables.exec = Jvm.exec) {pc : Nat} {Ls : Array Slot} {z : Int32} {rest : List Value} (hret : meth.sig.returnType = some .int) (hd : decode c.code pc = .ok (.ireturn, 1)) {fs : List Frame}
    (hl : ∀ (f : JFrame) (acts : List Action), f.method = m → f.locked = none → f.entered = [] → (doReturn e (T.setTop f) acts (some (.int z))).1 = T.setFrames fs) : Steps p.tables e below (T.setTop (mkF m pc Ls (.int z :: rest))) (T.setFrames fs) := by
  have hm' : T.vm.method? m = some meth := X.method'
  have hn : narrow .int (.int z) = .int z := rfl
  show Steps p.tables e below (T.setTop { method := m, pc := pc, locals := Ls, stack := _ :: rest, locked := none }) _
  jvm_step X.here [X.here.top, hx, hd, hm', hret, hn]
  first | (intro acts; rw [hl _ acts rfl rfl rfl]) | rw [hl _ _ rfl rfl rfl]
  exact Steps.refl _
end New
end Jvm.RoadKit
namespace Jvm.Pilot.@@N@@
open Jvm Jvm.ClassFile Sem Op Lib Jvm.Free Jvm.Stand Jvm.LawKit Jvm.RoadKit Bundle Jvm.Pilot.@@N@@.Jvm.D
/-- every run from the state T with the frame f on top is a run from s0 with f0 -/
def GoTo (tb : Tables) (e : Env) (below : List Frame) (s0 : State) (f0 : JFrame) (T : State) (f : JFrame) : Prop := ∀ t, Steps tb e below (T.setTop f) t → Steps tb e below (s0.setTop f0) t
theorem own_zlt {Z : State} {n0 : Nat} {h : Heap} {a : Addr} (O : Old Z n0 h) (q : a < Z.heap.size) : a < n0 := O.1 ▸ q
theorem own_selfSel {s : State} {args : Array Value} {C : String} {y : MethodName} (hsel : (Cond.selects C y y).before args s = true) (hpriv : s.PrivateAt y) (hinst : (Cond.instanceMethod y).before args s = true) (hy : y.cls ≠ "java/lang/invoke/MethodHandle" ∧ y.cls ≠ "java/lang/invoke/VarHandle") : (Cond.selects y.cls y y).before args s = true := by
  obtain ⟨c2, r2, m2, -, -, q3, -, kP, hkP, hkPi⟩ := Cond.selects_spec hsel
  exact selects_self_of_private (findClass_of_methodNamed q3) hkP hkPi hpriv hinst hy
theorem own_sameSelf {s : State} {args : Array Value} {C : String} {y z : MethodName} (hsel : (Cond.selects C z z).before args s = true) (hzy : z.cls = y.cls) (hinst : (Cond.instanceMethod y).before args s = true) (hy : y.cls ≠ "java/lang/invoke/MethodHandle" ∧ y.cls ≠ "java/lang/invoke/VarHandle") : (Cond.sameMethod y.cls y.cls y.name y.desc).before args s = true := by
  obtain ⟨c2, r2, m2, -, -, q3, -, kP, hkP, hkPi⟩ := Cond.selects_spec hsel
  obtain ⟨mk, methM, hnamed, hmethM, -, -⟩ := Cond.instanceMethod_spec hinst
  have h1 := findClass_of_methodNamed q3
  have h2 := findClass_of_methodNamed hnamed
  rw [hzy] at h1
  have hcls : mk.cls = m2.cls := Option.some.inj (h2.symm.trans h1)
  have hf := State.methodFound?_of_named hnamed hy
  obtain ⟨yc, yn, yd⟩ := y
  dsimp only at h1 h2 hf ⊢
  simp only [Cond.before, Cond.holds, Cond.value, h2, hf, hnamed, hcls, hkP]
  simp [hkPi]
theorem own_notFace {s : State} {args : Array Value} {C : String} {x y z : MethodName} (hsel : (Cond.selects C x z).before args s = true) (hzy : z.cls = y.cls) : NotFace s y := fun r0 h0 => by
  obtain ⟨c2, r2, m2, -, -, q3, -, kP, hkP, hkPi⟩ := Cond.selects_spec hsel
  have h1 := findClass_of_methodNamed q3
  rw [hzy] at h1
  have h2 := findClass_of_methodNamed h0
  have e : m2.cls = r0.cls := Option.some.inj (h1.symm.trans h2)
  exact ⟨kP, e ▸ hkP, hkPi⟩
theorem own_le {Z : State} {n0 : Nat} {h : Heap} (O : Old Z n0 h) : n0 ≤ h.size := O.1 ▸ O.2.1
theorem own_d_jdk_30_method_1_code_0 : decode jdk_30_method_1_code 0 = .ok (.aload_n 0, 1) := by decide +kernel
theorem own_d_jdk_30_method_1_code_1 : decode jdk_30_method_1_code 1 = .ok (.invokespecial 1, 3) := by decide +kernel
theorem own_d_jdk_30_method_1_code_4 : decode jdk_30_method_1_code 4 = .ok (.return_, 1) := by decide +kernel
theorem own_d_prog_12_method_1_code_0 : decode prog_12_method_1_code 0 = .ok (.aload_n 0, 1) := by decide +kernel
theorem own_d_prog_12_method_1_code_1 : decode prog_12_method_1_code 1 = .ok (.invokespecial 1, 3) := by decide +kernel
theorem own_pd0 : parseMethodDescriptor "()V" = some ⟨[], none⟩ := by decide +kernel
theorem own_d_prog_12_method_1_code_4 : decode prog_12_method_1_code 4 = .ok (.aload_n 0, 1) := by decide +kernel
theorem own_d_prog_12_method_1_code_5 : decode prog_12_method_1_code 5 = .ok (.iload_n 1, 1) := by decide +kernel
theorem own_d_prog_12_method_1_code_6 : decode prog_12_method_1_code 6 = .ok (.putfield 7, 3) := by decide +kernel
theorem own_d_prog_12_method_1_code_9 : decode prog_12_method_1_code 9 = .ok (.aload_n 0, 1) := by decide +kernel
theorem own_d_prog_12_method_1_code_10 : decode prog_12_method_1_code 10 = .ok (.iload_n 2, 1) := by decide +kernel
theorem own_d_prog_12_method_1_code_11 : decode prog_12_method_1_code 11 = .ok (.putfield 13, 3) := by decide +kernel
theorem own_d_prog_12_method_1_code_14 : decode prog_12_method_1_code 14 = .ok (.aload_n 0, 1) := by decide +kernel
theorem own_d_prog_12_method_1_code_15 : decode prog_12_method_1_code 15 = .ok (.iload_n 3, 1) := by decide +kernel
theorem own_d_prog_12_method_1_code_16 : decode prog_12_method_1_code 16 = .ok (.putfield 17, 3) := by decide +kernel
theorem own_d_prog_12_method_1_code_19 : decode prog_12_method_1_code 19 = .ok (.aload_n 0, 1) := by decide +kernel
theorem own_d_prog_12_method_1_code_20 : decode prog_12_method_1_code 20 = .ok (.aload 4, 2) := by decide +kernel
theorem own_d_prog_12_method_1_code_22 : decode prog_12_method_1_code 22 = .ok (.putfield 20, 3) := by decide +kernel
theorem own_d_prog_12_method_1_code_25 : decode prog_12_method_1_code 25 = .ok (.return_, 1) := by decide +kernel
theorem own_d_prog_12_method_2_code_0 : decode prog_12_method_2_code 0 = .ok (.aload_n 0, 1) := by decide +kernel
theorem own_d_prog_12_method_2_code_1 : decode prog_12_method_2_code 1 = .ok (.getfield 13, 3) := by decide +kernel
theorem own_d_prog_12_method_2_code_4 : decode prog_12_method_2_code 4 = .ok (.ifCond .eq 21, 3) := by decide +kernel
theorem own_d_prog_12_method_2_code_25 : decode prog_12_method_2_code 25 = .ok (.iload_n 1, 1) := by decide +kernel
theorem own_d_prog_12_method_2_code_26 : decode prog_12_method_2_code 26 = .ok (.aload_n 0, 1) := by decide +kernel
theorem own_d_prog_12_method_2_code_27 : decode prog_12_method_2_code 27 = .ok (.getfield 7, 3) := by decide +kernel
theorem own_d_prog_12_method_2_code_30 : decode prog_12_method_2_code 30 = .ok (.if_icmp .ne 7, 3) := by decide +kernel
theorem own_d_prog_12_method_2_code_33 : decode prog_12_method_2_code 33 = .ok (.iconst 1, 1) := by decide +kernel
theorem own_d_prog_12_method_2_code_34 : decode prog_12_method_2_code 34 = .ok (.goto 4, 3) := by decide +kernel
theorem own_d_prog_12_method_2_code_38 : decode prog_12_method_2_code 38 = .ok (.ireturn, 1) := by decide +kernel
theorem own_d_prog_12_method_2_code_37 : decode prog_12_method_2_code 37 = .ok (.iconst 0, 1) := by decide +kernel
theorem own_d_prog_12_method_2_code_7 : decode prog_12_method_2_code 7 = .ok (.iload_n 1, 1) := by decide +kernel
theorem own_d_prog_12_method_2_code_8 : decode prog_12_method_2_code 8 = .ok (.aload_n 0, 1) := by decide +kernel
theorem own_d_prog_12_method_2_code_9 : decode prog_12_method_2_code 9 = .ok (.getfield 7, 3) := by decide +kernel
theorem own_d_prog_12_method_2_code_12 : decode prog_12_method_2_code 12 = .ok (.iconst 1, 1) := by decide +kernel
theorem own_d_prog_12_method_2_code_13 : decode prog_12_method_2_code 13 = .ok (.isub, 1) := by decide +kernel
theorem own_d_prog_12_method_2_code_14 : decode prog_12_method_2_code 14 = .ok (.if_icmp .lt 7, 3) := by decide +kernel
theorem own_d_prog_12_method_2_code_21 : decode prog_12_method_2_code 21 = .ok (.iconst 0, 1) := by decide +kernel
theorem own_d_prog_12_method_2_code_22 : decode prog_12_method_2_code 22 = .ok (.goto 16, 3) := by decide +kernel
theorem own_d_prog_12_method_2_code_17 : decode prog_12_method_2_code 17 = .ok (.iconst 1, 1) := by decide +kernel
theorem own_d_prog_12_method_2_code_18 : decode prog_12_method_2_code 18 = .ok (.goto 20, 3) := by decide +kernel
theorem own_pd1 : parseMethodDescriptor "(IZZLcom/example/anteroom/anteroom/resolve/DeclaredType$Access;)V" = some ⟨[.int, .boolean, .boolean, (.object "com/example/anteroom/anteroom/resolve/DeclaredType$Access")], none⟩ := by decide +kernel
theorem own_pd2 : parseMethodDescriptor "(I)Z" = some ⟨[.int], some .boolean⟩ := by decide +kernel
theorem own_pn_own_rec : plainName "java/lang/Record" = true := by first | (simp [plainName, overriddenIn]; done) | decide +kernel
theorem own_ef_own_rec (m : MethodId) (a : Addr) : entryFrame m #[(.ref a)] 1 = mkF m 0 #[.val (.ref a)] [] := by first | (simp [entryFrame, mkF, argsToLocals, Value.category]; done) | rfl
abbrev own_F_own_rec (m : MethodId) (a : Addr) : JFrame := entryFrame m #[(.ref a)] 1
def Q_own_rec (Z : State) (a : Addr) (h0 : Heap) (n0 : Nat) (v : Option Value) (h : Heap) (L : List Loc) : Prop := v = none ∧ Fr n0 L ∧ h = h0
set_option maxRecDepth 65536 in
set_option maxHeartbeats 40000000 in
theorem own_rec (l : Launch) (Z : State) (a0 : Array Value) (hw : ∀ d ∈ tables_1, d.before a0 Z = true) (ws : List Jvm.Cond) (a : Addr) (h0 : Heap) (n0 : Nat) (O0 : Old Z n0 h0) :
    MetFree l (⟨"java/lang/Record", "<init>", "()V"⟩ : MethodName) (head1 (Jvm.Cond.code (⟨"java/lang/Record", "<init>", "()V"⟩ : MethodName) jdk_30_method_1_code 1 none :: ws) ({ frames := 1, cells := 0, slots := 0, locals := 12 } : Room)) (fun aa_ U_ => aa_ = #[(.ref a)] ∧ Z.Warmed39 U_.vm ∧ U_.heap = h0) (fun _ _ _ _ _ => True) (fun _ U_ o_ V_ => ∃ v_ L_, o_ = .returned v_ ∧ Q_own_rec Z a h0 n0 v_ V_.heap L_ ∧ FrameEnd U_ o_ V_ L_ ({ frames := 1, cells := 0, slots := 0, locals := 12 } : Room).cells ({ frames := 1, cells := 0, slots := 0, locals := 12 } : Room).slots) := by
  refine MetFree.of_bodySF (plainFor_of_name own_pn_own_rec) hisR ?_
  intro p e s m args below meth c s₁ Bd hml0 hP hK
  obtain ⟨rfl, hZ, hh⟩ := hP
  have hx := Bd.exec
  have hby := Bd.bytes
  have hml : c.maxLocals = 1 := hml0
  have hown : s.vm.findClass "java/lang/Record" = some m.cls := findClass_of_methodNamed Bd.named
  have hnm := (name_of_methodNamed Bd.named Bd.method).1
  have X0 : Stand p l e ({ frames := 1, cells := 0, slots := 0, locals := 12 } : Room) s m #[(.ref a)] below meth c s₁ [] 0 0 := Stand.of_body Bd
  have e0 : s₁.heap = h0 := by rw [← hh, Bd.state]; rfl
  have N0 := Fr.nil n0
  have K0 : Keep h0 h0 [] := Keep.refl _ _
  have r0 : GoTo p.tables e below s₁ (own_F_own_rec m a) s₁ (mkF m 0 #[.val (.ref a)] []) := fun tt_ kk_ => castTop (own_ef_own_rec m a) kk_
  obtain ⟨T1, X1, e1, st1⟩ := initO X0 hx hZ hown (hw _ (List.mem_of_getElem? (i := 15) rfl)) (hw _ (List.mem_of_getElem? (i := 16) rfl)) (hw _ (List.mem_of_getElem? (i := 17) rfl)) e0 (g := (mkF m 1 #[.val (.ref a)] [(.ref a)])) rfl (by rw [hml]; rfl) rfl (hb hby own_d_jdk_30_method_1_code_1) (by decide) (W := 0) (by show 2 * 0 + _ ≤ _; exact Nat.le_of_eq rfl) (by decide)
  obtain ⟨fs, hr, hrun, hended, hW, hsame⟩ := X1.leave (v := none) (fun _ => rfl)
  refine ⟨_, _, r0 _ ?_, hrun, hended, _, _, rfl, ?_, ⟨_, rfl⟩, hW, hsame.mono (by decide) (by decide)⟩
  · show Steps p.tables e below (s₁.setTop (mkF m 0 #[.val (.ref a)] [])) _
    refine XS.aloadN X0.here hx rfl (hb hby own_d_jdk_30_method_1_code_0) rfl rfl ?_
    show Steps p.tables e below (s₁.setTop (mkF m 1 #[.val (.ref a)] [(.ref a)])) _
    refine st1 _ ?_
    show Steps p.tables e below (T1.setTop (mkF m 4 #[.val (.ref a)] [])) _
    exact X1.returnOut hx Bd.returns (hb hby own_d_jdk_30_method_1_code_4) hr
  · show Q_own_rec Z a h0 n0 _ T1.heap _
    rw [e1]
    exact ⟨rfl, N0, rfl⟩
theorem own_pn_own_init : plainName "com/example/anteroom/anteroom/resolve/DeclaredType$Method" = true := by first | (simp [plainName, overriddenIn]; done) | decide +kernel
theorem own_ef_own_init (m : MethodId) (a : Addr) (i1 : Int32) (i2 : Int32) (i3 : Int32) (ac : Addr) : entryFrame m #[(.ref a), (.int i1), (.int i2), (.int i3), (.ref ac)] 5 = mkF m 0 #[.val (.ref a), .val (.int i1), .val (.int i2), .val (.int i3), .val (.ref ac)] [] := by first | (simp [entryFrame, mkF, argsToLocals, Value.category]; done) | rfl
abbrev own_F_own_init (m : MethodId) (a : Addr) (i1 : Int32) (i2 : Int32) (i3 : Int32) (ac : Addr) : JFrame := entryFrame m #[(.ref a), (.int i1), (.int i2), (.int i3), (.ref ac)] 5
def Q_own_init (Z : State) (a : Addr) (i1 : Int32) (i2 : Int32) (i3 : Int32) (ac : Addr) (h0 : Heap) (n0 : Nat) (v : Option Value) (h : Heap) (L : List Loc) : Prop := v = none ∧ Fr n0 L ∧ Keep h0 h [a] ∧ (Exa Z h a "com/example/anteroom/anteroom/resolve/DeclaredType$Method") ∧ (Fld Z h a "com/example/anteroom/anteroom/resolve/DeclaredType$Method" "parameters" "I" (.int i1)) ∧ (Fld Z h a "com/example/anteroom/anteroom/resolve/DeclaredType$Method" "varArgs" "Z" (.int (nar .boolean i2)))
set_option maxRecDepth 65536 in
set_option maxHeartbeats 40000000 in
theorem own_init (l : Launch) (Z : State) (a0 : Array Value) (hw : ∀ d ∈ tables_1, d.before a0 Z = true) (ws : List Jvm.Cond) (a : Addr) (i1 : Int32) (i2 : Int32) (i3 : Int32) (ac : Addr) (h0 : Heap) (n0 : Nat) (O0 : Old Z n0 h0) (hp0 : Exa Z h0 a "com/example/anteroom/anteroom/resolve/DeclaredType$Method") (hp1 : n0 ≤ a) (hp2 : Fld Z h0 a "com/example/anteroom/anteroom/resolve/DeclaredType$Method" "parameters" "I" (.int (0 : Int32))) (hp3 : Fld Z h0 a "com/example/anteroom/anteroom/resolve/DeclaredType$Method" "varArgs" "Z" (.int (0 : Int32))) (hp4 : Fld Z h0 a "com/example/anteroom/anteroom/resolve/DeclaredType$Method" "isStatic" "Z" (.int (0 : Int32))) (hp5 : Fld Z h0 a "com/example/anteroom/anteroom/resolve/DeclaredType$Method" "access" "Lcom/example/anteroom/anteroom/resolve/DeclaredType$Access;" .null) :
    MetFree l (⟨"com/example/anteroom/anteroom/resolve/DeclaredType$Method", "<init>", "(IZZLcom/example/anteroom/anteroom/resolve/DeclaredType$Access;)V"⟩ : MethodName) (head1 (Jvm.Cond.code (⟨"com/example/anteroom/anteroom/resolve/DeclaredType$Method", "<init>", "(IZZLcom/example/anteroom/anteroom/resolve/DeclaredType$Access;)V"⟩ : MethodName) prog_12_method_1_code 5 none :: ws) ({ frames := 2, cells := 0, slots := 0, locals := 24 } : Room)) (fun aa_ U_ => aa_ = #[(.ref a), (.int i1), (.int i2), (.int i3), (.ref ac)] ∧ Z.Warmed39 U_.vm ∧ U_.heap = h0) (fun _ _ _ _ _ => True) (fun _ U_ o_ V_ => ∃ v_ L_, o_ = .returned v_ ∧ Q_own_init Z a i1 i2 i3 ac h0 n0 v_ V_.heap L_ ∧ FrameEnd U_ o_ V_ L_ ({ frames := 2, cells := 0, slots := 0, locals := 24 } : Room).cells ({ frames := 2, cells := 0, slots := 0, locals := 24 } : Room).slots) := by
  refine MetFree.of_bodySF (plainFor_of_name own_pn_own_init) hisR ?_
  intro p e s m args below meth c s₁ Bd hml0 hP hK
  obtain ⟨rfl, hZ, hh⟩ := hP
  have hx := Bd.exec
  have hby := Bd.bytes
  have hml : c.maxLocals = 5 := hml0
  have hown : s.vm.findClass "com/example/anteroom/anteroom/resolve/DeclaredType$Method" = some m.cls := findClass_of_methodNamed Bd.named
  have hnm := (name_of_methodNamed Bd.named Bd.method).1
  have X0 : Stand p l e ({ frames := 2, cells := 0, slots := 0, locals := 24 } : Room) s m #[(.ref a), (.int i1), (.int i2), (.int i3), (.ref ac)] below meth c s₁ [] 0 0 := Stand.of_body Bd
  have e0 : s₁.heap = h0 := by rw [← hh, Bd.state]; rfl
  have N0 := Fr.nil n0
  have K0 : Keep h0 h0 [a] := Keep.refl _ _
  have r0 : GoTo p.tables e below s₁ (own_F_own_init m a i1 i2 i3 ac) s₁ (mkF m 0 #[.val (.ref a), .val (.int i1), .val (.int i2), .val (.int i3), .val (.ref ac)] []) := fun tt_ kk_ => castTop (own_ef_own_init m a i1 i2 i3 ac) kk_
  obtain ⟨_, _, ⟨T1, L1, k1, n1⟩, -, X1, ⟨Lc1, hQ1, l1, y1, z1⟩, st1⟩ := X0.specialBack hx (y := (⟨"java/lang/Record", "<init>", "()V"⟩ : MethodName)) rfl hown (mvT hZ (hw _ (List.mem_of_getElem? (i := 10) rfl))) (mvT hZ (hw _ (List.mem_of_getElem? (i := 11) rfl))) (mvT hZ (hw _ (List.mem_of_getElem? (i := 14) rfl))) (by decide) (backOf (W := 0) (own_rec l Z a0 hw [] (a) h0 n0 (O0.keep K0 (allS hp1 all0))) hZ (hw _ (List.mem_of_getElem? (i := 14) rfl)) (hw _ (List.mem_of_getElem? (i := 13) rfl)) (by decide) (by decide)) (g := (mkF m 1 #[.val (.ref a), .val (.int i1), .val (.int i2), .val (.int i3), .val (.ref ac)] [(.ref a)])) rfl (by rw [hml]; rfl) (Steps.refl _) (a := a) (argsL := []) (rest := []) (lenOf own_pd0 rfl) rfl (by show 2 * 0 + _ ≤ _; exact Nat.le_of_eq rfl) (hb hby own_d_prog_12_method_1_code_1) (fun _ _ => ⟨rfl, e0, (by decide : 0 + 0 ≤ _), (by decide : 0 + 0 ≤ _)⟩)
  dsimp only [Pt.U, Pt.locs, Pt.cells, Pt.slots] at X1 l1 y1 z1 st1 hQ1
  subst l1 y1 z1
  obtain ⟨rfl, Nq1, hh1⟩ := hQ1
  have N1 := Fr.app N0 Nq1
  obtain ⟨T2, h2, X2, e2, W2, st2⟩ := putF X1 hx hZ hown (host := "") (Or.inl (hw _ (List.mem_of_getElem? (i := 18) rfl))) Via.refl hh1 hp2 hp0 (Or.inr ⟨(hw _ (List.mem_of_getElem? (i := 19) rfl)), rfl, hnm⟩) (hw _ (List.mem_of_getElem? (i := 5) rfl)) (ty := .int) (by decide) rfl rfl (g := (mkF m 6 #[.val (.ref a), .val (.int i1), .val (.int i2), .val (.int i3), .val (.ref ac)] [(.int i1), (.ref a)])) rfl rfl (hb hby own_d_prog_12_method_1_code_6)
  have K3 : Keep h0 h2 [a] := K0.wr W2 (Or.inl (List.mem_of_getElem? (i := 0) rfl))
  have Fw2 : Fld Z h2 a "com/example/anteroom/anteroom/resolve/DeclaredType$Method" "parameters" "I" (.int i1) := hp2.same W2
  have N2 := Fr.snoc X2 N1 hp1
  have f4 : Fld Z h2 a "com/example/anteroom/anteroom/resolve/DeclaredType$Method" "varArgs" "Z" (.int (0 : Int32)) := (hp3.other W2 (Or.inr (Jvm.RoadKit.slot_ne (Or.inr (hw _ (List.mem_of_getElem? (i := 21) rfl))) (Or.inr (hw _ (List.mem_of_getElem? (i := 19) rfl))) (by decide) (t := .boolean) (t' := .int) (by decide) (by decide))))
  have f5 : Exa Z h2 a "com/example/anteroom/anteroom/resolve/DeclaredType$Method" := (hp0.wr W2)
  obtain ⟨T6, h6, X6, e6, W6, st6⟩ := putFN X2 hx hZ hown (hw _ (List.mem_of_getElem? (i := 20) rfl)) Via.refl e2 f4 f5 (Or.inr ⟨(hw _ (List.mem_of_getElem? (i := 21) rfl)), rfl, hnm⟩) (hw _ (List.mem_of_getElem? (i := 5) rfl)) (ty := .boolean) (v' := (.int (nar .boolean i2))) (by decide) rfl (fits_nar_bool _) (g := (mkF m 11 #[.val (.ref a), .val (.int i1), .val (.int i2), .val (.int i3), .val (.ref ac)] [(.int i2), (.ref a)])) rfl rfl (hb hby own_d_prog_12_method_1_code_11)
  have K7 : Keep h0 h6 [a] := K3.wr W6 (Or.inl (List.mem_of_getElem? (i := 0) rfl))
  have Fw6 : Fld Z h6 a "com/example/anteroom/anteroom/resolve/DeclaredType$Method" "varArgs" "Z" (.int (nar .boolean i2)) := f4.same W6
  have N6 := Fr.snoc X6 N2 hp1
  have f8 : Fld Z h6 a "com/example/anteroom/anteroom/resolve/DeclaredType$Method" "isStatic" "Z" (.int (0 : Int32)) := ((hp4.other W2 (Or.inr (Jvm.RoadKit.slot_ne (Or.inr (hw _ (List.mem_of_getElem? (i := 23) rfl))) (Or.inr (hw _ (List.mem_of_getElem? (i := 19) rfl))) (by decide) (t := .boolean) (t' := .int) (by decide) (by decide)))).other W6 (Or.inr (Jvm.RoadKit.slot_ne (Or.inr (hw _ (List.mem_of_getElem? (i := 23) rfl))) (Or.inr (hw _ (List.mem_of_getElem? (i := 21) rfl))) (by decide) (t := .boolean) (t' := .boolean) (by decide) (by decide))))
  have f9 : Exa Z h6 a "com/example/anteroom/anteroom/resolve/DeclaredType$Method" := (f5.wr W6)
  obtain ⟨T10, h10, X10, e10, W10, st10⟩ := putFN X6 hx hZ hown (hw _ (List.mem_of_getElem? (i := 22) rfl)) Via.refl e6 f8 f9 (Or.inr ⟨(hw _ (List.mem_of_getElem? (i := 23) rfl)), rfl, hnm⟩) (hw _ (List.mem_of_getElem? (i := 5) rfl)) (ty := .boolean) (v' := (.int (nar .boolean i3))) (by decide) rfl (fits_nar_bool _) (g := (mkF m 16 #[.val (.ref a), .val (.int i1), .val (.int i2), .val (.int i3), .val (.ref ac)] [(.int i3), (.ref a)])) rfl rfl (hb hby own_d_prog_12_method_1_code_16)
  have K11 : Keep h0 h10 [a] := K7.wr W10 (Or.inl (List.mem_of_getElem? (i := 0) rfl))
  have Fw10 : Fld Z h10 a "com/example/anteroom/anteroom/resolve/DeclaredType$Method" "isStatic" "Z" (.int (nar .boolean i3)) := f8.same W10
  have N10 := Fr.snoc X10 N6 hp1
  have f12 : Fld Z h10 a "com/example/anteroom/anteroom/resolve/DeclaredType$Method" "access" "Lcom/example/anteroom/anteroom/resolve/DeclaredType$Access;" .null := (((hp5.other W2 (Or.inr (Jvm.RoadKit.slot_ne (Or.inr (hw _ (List.mem_of_getElem? (i := 25) rfl))) (Or.inr (hw _ (List.mem_of_getElem? (i := 19) rfl))) (by decide) (t := (.object "com/example/anteroom/anteroom/resolve/DeclaredType$Access")) (t' := .int) (by decide) (by decide)))).other W6 (Or.inr (Jvm.RoadKit.slot_ne (Or.inr (hw _ (List.mem_of_getElem? (i := 25) rfl))) (Or.inr (hw _ (List.mem_of_getElem? (i := 21) rfl))) (by decide) (t := (.object "com/example/anteroom/anteroom/resolve/DeclaredType$Access")) (t' := .boolean) (by decide) (by decide)))).other W10 (Or.inr (Jvm.RoadKit.slot_ne (Or.inr (hw _ (List.mem_of_getElem? (i := 25) rfl))) (Or.inr (hw _ (List.mem_of_getElem? (i := 23) rfl))) (by decide) (t := (.object "com/example/anteroom/anteroom/resolve/DeclaredType$Access")) (t' := .boolean) (by decide) (by decide))))
  have f13 : Exa Z h10 a "com/example/anteroom/anteroom/resolve/DeclaredType$Method" := (f9.wr W10)
  obtain ⟨T14, h14, X14, e14, W14, st14⟩ := putF X10 hx hZ hown (host := "") (Or.inl (hw _ (List.mem_of_getElem? (i := 24) rfl))) Via.refl e10 f12 f13 (Or.inr ⟨(hw _ (List.mem_of_getElem? (i := 25) rfl)), rfl, hnm⟩) (hw _ (List.mem_of_getElem? (i := 5) rfl)) (ty := (.object "com/example/anteroom/anteroom/resolve/DeclaredType$Access")) (by decide) rfl rfl (g := (mkF m 22 #[.val (.ref a), .val (.int i1), .val (.int i2), .val (.int i3), .val (.ref ac)] [(.ref ac), (.ref a)])) rfl rfl (hb hby own_d_prog_12_method_1_code_22)
  have K15 : Keep h0 h14 [a] := K11.wr W14 (Or.inl (List.mem_of_getElem? (i := 0) rfl))
  have Fw14 : Fld Z h14 a "com/example/anteroom/anteroom/resolve/DeclaredType$Method" "access" "Lcom/example/anteroom/anteroom/resolve/DeclaredType$Access;" (.ref ac) := f12.same W14
  have N14 := Fr.snoc X14 N10 hp1
  obtain ⟨fs, hr, hrun, hended, hW, hsame⟩ := X14.leave (v := none) (fun _ => rfl)
  refine ⟨_, _, r0 _ ?_, hrun, hended, _, _, rfl, ?_, ⟨_, rfl⟩, hW, hsame.mono (by decide) (by decide)⟩
  · show Steps p.tables e below (s₁.setTop (mkF m 0 #[.val (.ref a), .val (.int i1), .val (.int i2), .val (.int i3), .val (.ref ac)] [])) _
    refine XS.aloadN X0.here hx rfl (hb hby own_d_prog_12_method_1_code_0) rfl rfl ?_
    show Steps p.tables e below (s₁.setTop (mkF m 1 #[.val (.ref a), .val (.int i1), .val (.int i2), .val (.int i3), .val (.ref ac)] [(.ref a)])) _
    refine st1.trans ?_
    show Steps p.tables e below (T1.setTop (mkF m 4 #[.val (.ref a), .val (.int i1), .val (.int i2), .val (.int i3), .val (.ref ac)] [])) _
    refine XS.aloadN X1.here hx rfl (hb hby own_d_prog_12_method_1_code_4) rfl rfl ?_
    show Steps p.tables e below (T1.setTop (mkF m 5 #[.val (.ref a), .val (.int i1), .val (.int i2), .val (.int i3), .val (.ref ac)] [(.ref a)])) _
    refine XS.iloadN X1.here hx rfl (hb hby own_d_prog_12_method_1_code_5) rfl ?_
    show Steps p.tables e below (T1.setTop (mkF m 6 #[.val (.ref a), .val (.int i1), .val (.int i2), .val (.int i3), .val (.ref ac)] [(.int i1), (.ref a)])) _
    refine st2 _ ?_
    show Steps p.tables e below (T2.setTop (mkF m 9 #[.val (.ref a), .val (.int i1), .val (.int i2), .val (.int i3), .val (.ref ac)] [])) _
    refine XS.aloadN X2.here hx rfl (hb hby own_d_prog_12_method_1_code_9) rfl rfl ?_
    show Steps p.tables e below (T2.setTop (mkF m 10 #[.val (.ref a), .val (.int i1), .val (.int i2), .val (.int i3), .val (.ref ac)] [(.ref a)])) _
    refine XS.iloadN X2.here hx rfl (hb hby own_d_prog_12_method_1_code_10) rfl ?_
    show Steps p.tables e below (T2.setTop (mkF m 11 #[.val (.ref a), .val (.int i1), .val (.int i2), .val (.int i3), .val (.ref ac)] [(.int i2), (.ref a)])) _
    refine st6 _ ?_
    show Steps p.tables e below (T6.setTop (mkF m 14 #[.val (.ref a), .val (.int i1), .val (.int i2), .val (.int i3), .val (.ref ac)] [])) _
    refine XS.aloadN X6.here hx rfl (hb hby own_d_prog_12_method_1_code_14) rfl rfl ?_
    show Steps p.tables e below (T6.setTop (mkF m 15 #[.val (.ref a), .val (.int i1), .val (.int i2), .val (.int i3), .val (.ref ac)] [(.ref a)])) _
    refine XS.iloadN X6.here hx rfl (hb hby own_d_prog_12_method_1_code_15) rfl ?_
    show Steps p.tables e below (T6.setTop (mkF m 16 #[.val (.ref a), .val (.int i1), .val (.int i2), .val (.int i3), .val (.ref ac)] [(.int i3), (.ref a)])) _
    refine st10 _ ?_
    show Steps p.tables e below (T10.setTop (mkF m 19 #[.val (.ref a), .val (.int i1), .val (.int i2), .val (.int i3), .val (.ref ac)] [])) _
    refine XS.aloadN X10.here hx rfl (hb hby own_d_prog_12_method_1_code_19) rfl rfl ?_
    show Steps p.tables e below (T10.setTop (mkF m 20 #[.val (.ref a), .val (.int i1), .val (.int i2), .val (.int i3), .val (.ref ac)] [(.ref a)])) _
    refine XS.aload X10.here hx rfl (hb hby own_d_prog_12_method_1_code_20) rfl rfl ?_
    show Steps p.tables e below (T10.setTop (mkF m 22 #[.val (.ref a), .val (.int i1), .val (.int i2), .val (.int i3), .val (.ref ac)] [(.ref ac), (.ref a)])) _
    refine st14 _ ?_
    show Steps p.tables e below (T14.setTop (mkF m 25 #[.val (.ref a), .val (.int i1), .val (.int i2), .val (.int i3), .val (.ref ac)] [])) _
    exact X14.returnOut hx Bd.returns (hb hby own_d_prog_12_method_1_code_25) hr
  · show Q_own_init Z a i1 i2 i3 ac h0 n0 _ T14.heap _
    rw [e14]
    have f16 : Exa Z h14 a "com/example/anteroom/anteroom/resolve/DeclaredType$Method" := (f13.wr W14)
    have f17 : Fld Z h14 a "com/example/anteroom/anteroom/resolve/DeclaredType$Method" "parameters" "I" (.int i1) := (((Fw2.other W6 (Or.inr (Jvm.RoadKit.slot_ne (Or.inr (hw _ (List.mem_of_getElem? (i := 19) rfl))) (Or.inr (hw _ (List.mem_of_getElem? (i := 21) rfl))) (by decide) (t := .int) (t' := .boolean) (by decide) (by decide)))).other W10 (Or.inr (Jvm.RoadKit.slot_ne (Or.inr (hw _ (List.mem_of_getElem? (i := 19) rfl))) (Or.inr (hw _ (List.mem_of_getElem? (i := 23) rfl))) (by decide) (t := .int) (t' := .boolean) (by decide) (by decide)))).other W14 (Or.inr (Jvm.RoadKit.slot_ne (Or.inr (hw _ (List.mem_of_getElem? (i := 19) rfl))) (Or.inr (hw _ (List.mem_of_getElem? (i := 25) rfl))) (by decide) (t := .int) (t' := (.object "com/example/anteroom/anteroom/resolve/DeclaredType$Access")) (by decide) (by decide))))
    have f18 : Fld Z h14 a "com/example/anteroom/anteroom/resolve/DeclaredType$Method" "varArgs" "Z" (.int (nar .boolean i2)) := ((Fw6.other W10 (Or.inr (Jvm.RoadKit.slot_ne (Or.inr (hw _ (List.mem_of_getElem? (i := 21) rfl))) (Or.inr (hw _ (List.mem_of_getElem? (i := 23) rfl))) (by decide) (t := .boolean) (t' := .boolean) (by decide) (by decide)))).other W14 (Or.inr (Jvm.RoadKit.slot_ne (Or.inr (hw _ (List.mem_of_getElem? (i := 21) rfl))) (Or.inr (hw _ (List.mem_of_getElem? (i := 25) rfl))) (by decide) (t := .boolean) (t' := (.object "com/example/anteroom/anteroom/resolve/DeclaredType$Access")) (by decide) (by decide))))
    exact ⟨rfl, N14, K15, f16, f17, f18⟩
theorem own_pn_own_acc : plainName "com/example/anteroom/anteroom/resolve/DeclaredType$Method" = true := by first | (simp [plainName, overriddenIn]; done) | decide +kernel
theorem own_ef_own_acc (m : MethodId) (a : Addr) (n : Int32) : entryFrame m #[(.ref a), (.int n)] 2 = mkF m 0 #[.val (.ref a), .val (.int n)] [] := by first | (simp [entryFrame, mkF, argsToLocals, Value.category]; done) | rfl
abbrev own_F_own_acc (m : MethodId) (a : Addr) (n : Int32) : JFrame := entryFrame m #[(.ref a), (.int n)] 2
def Q_own_acc (Z : State) (a : Addr) (n : Int32) (pp : Int32) (va : Int32) (h0 : Heap) (n0 : Nat) (v : Option Value) (h : Heap) (L : List Loc) : Prop := v = some (.int (if va = (0 : Int32) then (if n = pp then (1 : Int32) else 0) else (if n < (pp - (1 : Int32)) then (0 : Int32) else 1))) ∧ Fr n0 L ∧ h = h0
set_option maxRecDepth 65536 in
set_option maxHeartbeats 40000000 in
theorem own_acc (l : Launch) (Z : State) (a0 : Array Value) (hw : ∀ d ∈ tables_1, d.before a0 Z = true) (ws : List Jvm.Cond) (a : Addr) (n : Int32) (pp : Int32) (va : Int32) (h0 : Heap) (n0 : Nat) (O0 : Old Z n0 h0) (hp0 : Fld Z h0 a "com/example/anteroom/anteroom/resolve/DeclaredType$Method" "parameters" "I" (.int pp)) (hp1 : Fld Z h0 a "com/example/anteroom/anteroom/resolve/DeclaredType$Method" "varArgs" "Z" (.int va)) :
    MetFree l (⟨"com/example/anteroom/anteroom/resolve/DeclaredType$Method", "accepts", "(I)Z"⟩ : MethodName) (head1 (Jvm.Cond.code (⟨"com/example/anteroom/anteroom/resolve/DeclaredType$Method", "accepts", "(I)Z"⟩ : MethodName) prog_12_method_2_code 2 (some .boolean) :: ws) ({ frames := 0, cells := 0, slots := 0, locals := 0 } : Room)) (fun aa_ U_ => aa_ = #[(.ref a), (.int n)] ∧ Z.Warmed39 U_.vm ∧ U_.heap = h0) (fun _ _ _ _ _ => True) (fun _ U_ o_ V_ => ∃ v_ L_, o_ = .returned v_ ∧ Q_own_acc Z a n pp va h0 n0 v_ V_.heap L_ ∧ FrameEnd U_ o_ V_ L_ ({ frames := 0, cells := 0, slots := 0, locals := 0 } : Room).cells ({ frames := 0, cells := 0, slots := 0, locals := 0 } : Room).slots) := by
  refine MetFree.of_bodySF (plainFor_of_name own_pn_own_acc) hisR ?_
  intro p e s m args below meth c s₁ Bd hml0 hP hK
  obtain ⟨rfl, hZ, hh⟩ := hP
  have hx := Bd.exec
  have hby := Bd.bytes
  have hml : c.maxLocals = 2 := hml0
  have hown : s.vm.findClass "com/example/anteroom/anteroom/resolve/DeclaredType$Method" = some m.cls := findClass_of_methodNamed Bd.named
  have hnm := (name_of_methodNamed Bd.named Bd.method).1
  have X0 : Stand p l e ({ frames := 0, cells := 0, slots := 0, locals := 0 } : Room) s m #[(.ref a), (.int n)] below meth c s₁ [] 0 0 := Stand.of_body Bd
  have e0 : s₁.heap = h0 := by rw [← hh, Bd.state]; rfl
  have N0 := Fr.nil n0
  have K0 : Keep h0 h0 [] := Keep.refl _ _
  have r0 : GoTo p.tables e below s₁ (own_F_own_acc m a n) s₁ (mkF m 0 #[.val (.ref a), .val (.int n)] []) := fun tt_ kk_ => castTop (own_ef_own_acc m a n) kk_
  obtain ⟨T1, X1, e1, st1⟩ := getF X0 hx hZ hown (host := "") (Or.inl (hw _ (List.mem_of_getElem? (i := 20) rfl))) Via.refl e0 hp1 (g := (mkF m 1 #[.val (.ref a), .val (.int n)] [(.ref a)])) rfl rfl (hb hby own_d_prog_12_method_2_code_1)
  have r2 : GoTo p.tables e below s₁ (own_F_own_acc m a n) T1 (mkF m 4 #[.val (.ref a), .val (.int n)] [(.int va)]) := fun tt_ kk_ => r0 tt_ (by
      show Steps p.tables e below (s₁.setTop (mkF m 0 #[.val (.ref a), .val (.int n)] [])) _
      refine XS.aloadN X0.here hx rfl (hb hby own_d_prog_12_method_2_code_0) rfl rfl ?_
      show Steps p.tables e below (s₁.setTop (mkF m 1 #[.val (.ref a), .val (.int n)] [(.ref a)])) _
      refine st1 _ ?_
      show Steps p.tables e below (T1.setTop (mkF m 4 #[.val (.ref a), .val (.int n)] [(.int va)])) _
      exact kk_)
  by_cases hc3 : va = (0 : Int32)
  · obtain ⟨T4, X4, e4, st4⟩ := getF X1 hx hZ hown (host := "") (Or.inl (hw _ (List.mem_of_getElem? (i := 18) rfl))) Via.refl e1 hp0 (g := (mkF m 27 #[.val (.ref a), .val (.int n)] [(.ref a), (.int n)])) rfl rfl (hb hby own_d_prog_12_method_2_code_27)
    have r5 : GoTo p.tables e below s₁ (own_F_own_acc m a n) T4 (mkF m 30 #[.val (.ref a), .val (.int n)] [(.int pp), (.int n)]) := fun tt_ kk_ => r2 tt_ (by
        show Steps p.tables e below (T1.setTop (mkF m 4 #[.val (.ref a), .val (.int n)] [(.int va)])) _
        refine XS.ifYes X1.here hx rfl (pc0 := 4) (pc' := 25) rfl (hb hby own_d_prog_12_method_2_code_4) rfl ((if0 _ _).trans (teq hc3).1) (by decide) (by decide) ?_
        show Steps p.tables e below (T1.setTop (mkF m 25 #[.val (.ref a), .val (.int n)] [])) _
        refine XS.iloadN X1.here hx rfl (hb hby own_d_prog_12_method_2_code_25) rfl ?_
        show Steps p.tables e below (T1.setTop (mkF m 26 #[.val (.ref a), .val (.int n)] [(.int n)])) _
        refine XS.aloadN X1.here hx rfl (hb hby own_d_prog_12_method_2_code_26) rfl rfl ?_
        show Steps p.tables e below (T1.setTop (mkF m 27 #[.val (.ref a), .val (.int n)] [(.ref a), (.int n)])) _
        refine st4 _ ?_
        show Steps p.tables e below (T4.setTop (mkF m 30 #[.val (.ref a), .val (.int n)] [(.int pp), (.int n)])) _
        exact kk_)
    by_cases hc6 : n = pp
    · obtain ⟨fs, hr, hrun, hended, hW, hsame⟩ := X4.leave (v := some (.int (nar .boolean (1 : Int32)))) (fun h => by rw [Bd.returns] at h; cases h)
      refine ⟨_, _, r5 _ ?_, hrun, hended, _, _, rfl, ?_, ⟨_, rfl⟩, hW, hsame.mono (by decide) (by decide)⟩
      · show Steps p.tables e below (T4.setTop (mkF m 30 #[.val (.ref a), .val (.int n)] [(.int pp), (.int n)])) _
        refine XS.icmpNo X4.here hx rfl (hb hby own_d_prog_12_method_2_code_30) rfl (teq hc6).2 ?_
        show Steps p.tables e below (T4.setTop (mkF m 33 #[.val (.ref a), .val (.int n)] [])) _
        refine XS.iconst X4.here hx rfl (hb hby own_d_prog_12_method_2_code_33) ?_
        show Steps p.tables e below (T4.setTop (mkF m 34 #[.val (.ref a), .val (.int n)] [(.int (1 : Int32))])) _
        refine XS.goto X4.here hx rfl (pc0 := 34) (pc' := 38) rfl (hb hby own_d_prog_12_method_2_code_34) (by decide) (by decide) ?_
        show Steps p.tables e below (T4.setTop (mkF m 38 #[.val (.ref a), .val (.int n)] [(.int (1 : Int32))])) _
        exact retN X4 hx (t := .boolean) Bd.returns (by simp) (hb hby own_d_prog_12_method_2_code_38) hr
      · show Q_own_acc Z a n pp va h0 n0 _ T4.heap _
        rw [e4]
        exact ⟨(by rw [if_pos hc3]; rw [if_pos hc6]; rfl), N0, rfl⟩
    · obtain ⟨fs, hr, hrun, hended, hW, hsame⟩ := X4.leave (v := some (.int (nar .boolean (0 : Int32)))) (fun h => by rw [Bd.returns] at h; cases h)
      refine ⟨_, _, r5 _ ?_, hrun, hended, _, _, rfl, ?_, ⟨_, rfl⟩, hW, hsame.mono (by decide) (by decide)⟩
      · show Steps p.tables e below (T4.setTop (mkF m 30 #[.val (.ref a), .val (.int n)] [(.int pp), (.int n)])) _
        refine XS.icmpYes X4.here hx rfl (pc0 := 30) (pc' := 37) rfl (hb hby own_d_prog_12_method_2_code_30) rfl (feq hc6).2 (by decide) (by decide) ?_
        show Steps p.tables e below (T4.setTop (mkF m 37 #[.val (.ref a), .val (.int n)] [])) _
        refine XS.iconst X4.here hx rfl (hb hby own_d_prog_12_method_2_code_37) ?_
        show Steps p.tables e below (T4.setTop (mkF m 38 #[.val (.ref a), .val (.int n)] [(.int (0 : Int32))])) _
        exact retN X4 hx (t := .boolean) Bd.returns (by simp) (hb hby own_d_prog_12_method_2_code_38) hr
      · show Q_own_acc Z a n pp va h0 n0 _ T4.heap _
        rw [e4]
        exact ⟨(by rw [if_pos hc3]; rw [if_neg hc6]; rfl), N0, rfl⟩
  · obtain ⟨T7, X7, e7, st7⟩ := getF X1 hx hZ hown (host := "") (Or.inl (hw _ (List.mem_of_getElem? (i := 18) rfl))) Via.refl e1 hp0 (g := (mkF m 9 #[.val (.ref a), .val (.int n)] [(.ref a), (.int n)])) rfl rfl (hb hby own_d_prog_12_method_2_code_9)
    have r8 : GoTo p.tables e below s₁ (own_F_own_acc m a n) T7 (mkF m 14 #[.val (.ref a), .val (.int n)] [(.int (pp - (1 : Int32))), (.int n)]) := fun tt_ kk_ => r2 tt_ (by
        show Steps p.tables e below (T1.setTop (mkF m 4 #[.val (.ref a), .val (.int n)] [(.int va)])) _
        refine XS.ifNo X1.here hx rfl (hb hby own_d_prog_12_method_2_code_4) rfl ((if0 _ _).trans (feq hc3).1) ?_
        show Steps p.tables e below (T1.setTop (mkF m 7 #[.val (.ref a), .val (.int n)] [])) _
        refine XS.iloadN X1.here hx rfl (hb hby own_d_prog_12_method_2_code_7) rfl ?_
        show Steps p.tables e below (T1.setTop (mkF m 8 #[.val (.ref a), .val (.int n)] [(.int n)])) _
        refine XS.aloadN X1.here hx rfl (hb hby own_d_prog_12_method_2_code_8) rfl rfl ?_
        show Steps p.tables e below (T1.setTop (mkF m 9 #[.val (.ref a), .val (.int n)] [(.ref a), (.int n)])) _
        refine st7 _ ?_
        show Steps p.tables e below (T7.setTop (mkF m 12 #[.val (.ref a), .val (.int n)] [(.int pp), (.int n)])) _
        refine XS.iconst X7.here hx rfl (hb hby own_d_prog_12_method_2_code_12) ?_
        show Steps p.tables e below (T7.setTop (mkF m 13 #[.val (.ref a), .val (.int n)] [(.int (1 : Int32)), (.int pp), (.int n)])) _
        refine XS.isub X7.here hx rfl (hb hby own_d_prog_12_method_2_code_13) rfl ?_
        show Steps p.tables e below (T7.setTop (mkF m 14 #[.val (.ref a), .val (.int n)] [(.int (pp - (1 : Int32))), (.int n)])) _
        exact kk_)
    by_cases hc9 : n < (pp - (1 : Int32))
    · obtain ⟨fs, hr, hrun, hended, hW, hsame⟩ := X7.leave (v := some (.int (nar .boolean (0 : Int32)))) (fun h => by rw [Bd.returns] at h; cases h)
      refine ⟨_, _, r8 _ ?_, hrun, hended, _, _, rfl, ?_, ⟨_, rfl⟩, hW, hsame.mono (by decide) (by decide)⟩
      · show Steps p.tables e below (T7.setTop (mkF m 14 #[.val (.ref a), .val (.int n)] [(.int (pp - (1 : Int32))), (.int n)])) _
        refine XS.icmpYes X7.here hx rfl (pc0 := 14) (pc' := 21) rfl (hb hby own_d_prog_12_method_2_code_14) rfl (tlt hc9).1 (by decide) (by decide) ?_
        show Steps p.tables e below (T7.setTop (mkF m 21 #[.val (.ref a), .val (.int n)] [])) _
        refine XS.iconst X7.here hx rfl (hb hby own_d_prog_12_method_2_code_21) ?_
        show Steps p.tables e below (T7.setTop (mkF m 22 #[.val (.ref a), .val (.int n)] [(.int (0 : Int32))])) _
        refine XS.goto X7.here hx rfl (pc0 := 22) (pc' := 38) rfl (hb hby own_d_prog_12_method_2_code_22) (by decide) (by decide) ?_
        show Steps p.tables e below (T7.setTop (mkF m 38 #[.val (.ref a), .val (.int n)] [(.int (0 : Int32))])) _
        exact retN X7 hx (t := .boolean) Bd.returns (by simp) (hb hby own_d_prog_12_method_2_code_38) hr
      · show Q_own_acc Z a n pp va h0 n0 _ T7.heap _
        rw [e7]
        exact ⟨(by rw [if_neg hc3]; rw [if_pos hc9]; rfl), N0, rfl⟩
    · obtain ⟨fs, hr, hrun, hended, hW, hsame⟩ := X7.leave (v := some (.int (nar .boolean (1 : Int32)))) (fun h => by rw [Bd.returns] at h; cases h)
      refine ⟨_, _, r8 _ ?_, hrun, hended, _, _, rfl, ?_, ⟨_, rfl⟩, hW, hsame.mono (by decide) (by decide)⟩
      · show Steps p.tables e below (T7.setTop (mkF m 14 #[.val (.ref a), .val (.int n)] [(.int (pp - (1 : Int32))), (.int n)])) _
        refine XS.icmpNo X7.here hx rfl (hb hby own_d_prog_12_method_2_code_14) rfl (flt hc9).1 ?_
        show Steps p.tables e below (T7.setTop (mkF m 17 #[.val (.ref a), .val (.int n)] [])) _
        refine XS.iconst X7.here hx rfl (hb hby own_d_prog_12_method_2_code_17) ?_
        show Steps p.tables e below (T7.setTop (mkF m 18 #[.val (.ref a), .val (.int n)] [(.int (1 : Int32))])) _
        refine XS.goto X7.here hx rfl (pc0 := 18) (pc' := 38) rfl (hb hby own_d_prog_12_method_2_code_18) (by decide) (by decide) ?_
        show Steps p.tables e below (T7.setTop (mkF m 38 #[.val (.ref a), .val (.int n)] [(.int (1 : Int32))])) _
        exact retN X7 hx (t := .boolean) Bd.returns (by simp) (hb hby own_d_prog_12_method_2_code_38) hr
      · show Q_own_acc Z a n pp va h0 n0 _ T7.heap _
        rw [e7]
        exact ⟨(by rw [if_neg hc3]; rw [if_neg hc9]; rfl), N0, rfl⟩
theorem own_plain {k f pp va ar ex : Int32} (hp : pp = (k &&& (2147483647 : Int32))) (hv : va = (if (f &&& (1 : Int32)) = (0 : Int32) then (0 : Int32) else (1 : Int32))) (he : ex = (if ar = pp then (1 : Int32) else (if va = (0 : Int32) then (0 : Int32) else (if pp < ar then (1 : Int32) else (if ar = (pp - (1 : Int32)) then (1 : Int32) else (0 : Int32)))))) :
    (if (nar .boolean va) = (0 : Int32) then (if ar = pp then (1 : Int32) else 0) else (if ar < (pp - (1 : Int32)) then (0 : Int32) else 1)) = ex := by
  have h1 : (k &&& (2147483647 : Int32)).toInt = k.toInt % 2 ^ 31 := Jvm.Kit.i32_mask k 2147483647 (k := 31) (by decide) (by decide)
  have hp1 : 0 ≤ pp.toInt := by rw [hp, h1]; omega
  have hp3 : (1 : Int32).toInt = 1 := by decide
  have hl := pp.toInt_lt
  have hp2 : (pp - (1 : Int32)).toInt = pp.toInt - 1 := by
    rw [Int32.toInt_sub, hp3]; exact Int.bmod_eq_of_le (by omega) (by omega)
  rw [he]
  have hv2 : (va = 0 ∧ nar .boolean va = 0) ∨ (va = 1 ∧ nar .boolean va = 1) := by
    by_cases q : (f &&& (1 : Int32)) = (0 : Int32)
    · rw [if_pos q] at hv; subst hv; exact Or.inl ⟨rfl, by decide⟩
    · rw [if_neg q] at hv; subst hv; exact Or.inr ⟨rfl, by decide⟩
  rcases hv2 with ⟨q1, q2⟩ | ⟨q1, q2⟩
  · rw [q2, q1]; simp
  · rw [q2, q1]
    have e1 : ¬ ((1 : Int32) = 0) := by decide
    simp only [e1, if_false]
    by_cases a1 : ar = pp
    · have : ¬ ar < pp - 1 := by rw [Int32.lt_iff_toInt_lt, hp2, a1]; omega
      simp [a1]; rw [← a1]; simpa [a1] using this
    · by_cases a2 : pp < ar
      · have : ¬ ar < pp - 1 := by rw [Int32.lt_iff_toInt_lt] at a2 ⊢; rw [hp2]; omega
        simp [a1, a2, this]
      · by_cases a3 : ar = pp - 1
        · have : ¬ ar < pp - 1 := by rw [Int32.lt_iff_toInt_lt, a3]; omega
          simp only [a1, a2, if_false, this]; rw [if_pos a3]
        · have : ar < pp - 1 := by
            rw [Int32.lt_iff_toInt_lt] at a2 ⊢; rw [hp2]
            have n1 : ar.toInt ≠ pp.toInt := fun z => a1 (Int32.toInt_inj.mp z)
            have n2 : ar.toInt ≠ pp.toInt - 1 := fun z => a3 (Int32.toInt_inj.mp (by rw [hp2]; exact z))
            omega
          simp [a1, a2, a3, this]
theorem own_pn_own_law : plainName "com/example/anteroom/anteroom/resolve/MethodAcceptsPinLaw" = true := by first | (simp [plainName, overriddenIn]; done) | decide +kernel
theorem own_ef_own_law (m : MethodId) (k : Int32) (g : Int32) (f : Int32) : entryFrame m #[(.int k), (.int g), (.int f)] maxLocals = mkF m 0 #[.val (.int k), .val (.int g), .val (.int f), .unset, .unset, .unset, .unset, .unset, .unset, .unset, .unset, .unset] [] := by first | (simp [entryFrame, mkF, argsToLocals, Value.category, maxLocals]; done) | rfl
abbrev own_F_own_law (m : MethodId) (k : Int32) (g : Int32) (f : Int32) : JFrame := entryFrame m #[(.int k), (.int g), (.int f)] maxLocals
def Q_own_law (Z : State) (k : Int32) (g : Int32) (f : Int32) (u0 : Addr) (u1 : Addr) (u2 : Addr) (h0 : Heap) (n0 : Nat) (v : Option Value) (h : Heap) (L : List Loc) : Prop := v = some (.int (1 : Int32)) ∧ Fr n0 L
set_option maxRecDepth 65536 in
set_option maxHeartbeats 40000000 in
theorem own_law (l : Launch) (Z : State) (a0 : Array Value) (hw : ∀ d ∈ tables_1, d.before a0 Z = true) (ws : List Jvm.Cond) (k : Int32) (g : Int32) (f : Int32) (u0 : Addr) (u1 : Addr) (u2 : Addr) (h0 : Heap) (n0 : Nat) (O0 : Old Z n0 h0) (hp0 : Sta Z Z.heap "com/example/anteroom/anteroom/resolve/DeclaredType$Access" "PUBLIC_OR_PROTECTED" "Lcom/example/anteroom/anteroom/resolve/DeclaredType$Access;" (.ref u0)) (hp1 : Sta Z Z.heap "com/example/anteroom/anteroom/resolve/DeclaredType$Access" "PACKAGE" "Lcom/example/anteroom/anteroom/resolve/DeclaredType$Access;" (.ref u1)) (hp2 : Sta Z Z.heap "com/example/anteroom/anteroom/resolve/DeclaredType$Access" "PRIVATE" "Lcom/example/anteroom/anteroom/resolve/DeclaredType$Access;" (.ref u2)) :
    MetFree l x (head1 (Jvm.Cond.code x code maxLocals ret :: ws) room_1) (fun aa_ U_ => aa_ = #[(.int k), (.int g), (.int f)] ∧ Z.Warmed39 U_.vm ∧ U_.heap = h0) (fun _ _ _ _ _ => True) (fun _ U_ o_ V_ => ∃ v_ L_, o_ = .returned v_ ∧ Q_own_law Z k g f u0 u1 u2 h0 n0 v_ V_.heap L_ ∧ FrameEnd U_ o_ V_ L_ room_1.cells room_1.slots) := by
  refine MetFree.of_bodySF (plainFor_of_name own_pn_own_law) hisR ?_
  intro p e s m args below meth c s₁ Bd hml0 hP hK
  obtain ⟨rfl, hZ, hh⟩ := hP
  have hx := Bd.exec
  have hby := Bd.bytes
  have hml : c.maxLocals = 12 := hml0
  have hown : s.vm.findClass "com/example/anteroom/anteroom/resolve/MethodAcceptsPinLaw" = some m.cls := findClass_of_methodNamed Bd.named
  have hnm := (name_of_methodNamed Bd.named Bd.method).1
  have X0 : Stand p l e room_1 s m #[(.int k), (.int g), (.int f)] below meth c s₁ [] 0 0 := Stand.of_body Bd
  have e0 : s₁.heap = h0 := by rw [← hh, Bd.state]; rfl
  have N0 := Fr.nil n0
  have K0 : Keep h0 h0 [] := Keep.refl _ _
  have r0 : GoTo p.tables e below s₁ (own_F_own_law m k g f) s₁ (mkF m 0 #[.val (.int k), .val (.int g), .val (.int f), .unset, .unset, .unset, .unset, .unset, .unset, .unset, .unset, .unset] []) := fun tt_ kk_ => castTop (own_ef_own_law m k g f) kk_
  have r1 : GoTo p.tables e below s₁ (own_F_own_law m k g f) s₁ (mkF m 5 #[.val (.int k), .val (.int g), .val (.int f), .val (.int (k &&& (2147483647 : Int32))), .unset, .unset, .unset, .unset, .unset, .unset, .unset, .unset] []) := fun tt_ kk_ => r0 tt_ (by
      show Steps p.tables e below (s₁.setTop (mkF m 0 #[.val (.int k), .val (.int g), .val (.int f), .unset, .unset, .unset, .unset, .unset, .unset, .unset, .unset, .unset] [])) _
      refine XS.iloadN X0.here hx rfl (hb hby at_0) rfl ?_
      show Steps p.tables e below (s₁.setTop (mkF m 1 #[.val (.int k), .val (.int g), .val (.int f), .unset, .unset, .unset, .unset, .unset, .unset, .unset, .unset, .unset] [(.int k)])) _
      refine X0.ldcI hx hown (mvT hZ (hw _ (List.mem_of_getElem? (i := 0) rfl))) rfl (hb hby at_1) ?_
      show Steps p.tables e below (s₁.setTop (mkF m 3 #[.val (.int k), .val (.int g), .val (.int f), .unset, .unset, .unset, .unset, .unset, .unset, .unset, .unset, .unset] [(.int (2147483647 : Int32)), (.int k)])) _
      refine XS.iand X0.here hx rfl (hb hby at_3) rfl ?_
      show Steps p.tables e below (s₁.setTop (mkF m 4 #[.val (.int k), .val (.int g), .val (.int f), .unset, .unset, .unset, .unset, .unset, .unset, .unset, .unset, .unset] [(.int (k &&& (2147483647 : Int32)))])) _
      refine XS.istoreN X0.here hx rfl (hb hby at_4) rfl (l' := #[.val (.int k), .val (.int g), .val (.int f), .val (.int (k &&& (2147483647 : Int32))), .unset, .unset, .unset, .unset, .unset, .unset, .unset, .unset]) rfl ?_
      show Steps p.tables e below (s₁.setTop (mkF m 5 #[.val (.int k), .val (.int g), .val (.int f), .val (.int (k &&& (2147483647 : Int32))), .unset, .unset, .unset, .unset, .unset, .unset, .unset, .unset] [])) _
      exact kk_)
  obtain ⟨pp, h_pp⟩ : ∃ z : Int32, z = (k &&& (2147483647 : Int32)) := ⟨_, rfl⟩
  have r2 : GoTo p.tables e below s₁ (own_F_own_law m k g f) s₁ (mkF m 5 #[.val (.int k), .val (.int g), .val (.int f), .val (.int pp), .unset, .unset, .unset, .unset, .unset, .unset, .unset, .unset] []) := by rw [h_pp]; exact r1
  have r3 : GoTo p.tables e below s₁ (own_F_own_law m k g f) s₁ (mkF m 8 #[.val (.int k), .val (.int g), .val (.int f), .val (.int pp), .unset, .unset, .unset, .unset, .unset, .unset, .unset, .unset] [(.int (f &&& (1 : Int32)))]) := fun tt_ kk_ => r2 tt_ (by
      show Steps p.tables e below (s₁.setTop (mkF m 5 #[.val (.int k), .val (.int g), .val (.int f), .val (.int pp), .unset, .unset, .unset, .unset, .unset, .unset, .unset, .unset] [])) _
      refine XS.iloadN X0.here hx rfl (hb hby at_5) rfl ?_
      show Steps p.tables e below (s₁.setTop (mkF m 6 #[.val (.int k), .val (.int g), .val (.int f), .val (.int pp), .unset, .unset, .unset, .unset, .unset, .unset, .unset, .unset] [(.int f)])) _
      refine XS.iconst X0.here hx rfl (hb hby at_6) ?_
      show Steps p.tables e below (s₁.setTop (mkF m 7 #[.val (.int k), .val (.int g), .val (.int f), .val (.int pp), .unset, .unset, .unset, .unset, .unset, .unset, .unset, .unset] [(.int (1 : Int32)), (.int f)])) _
      refine XS.iand X0.here hx rfl (hb hby at_7) rfl ?_
      show Steps p.tables e below (s₁.setTop (mkF m 8 #[.val (.int k), .val (.int g), .val (.int f), .val (.int pp), .unset, .unset, .unset, .unset, .unset, .unset, .unset, .unset] [(.int (f &&& (1 : Int32)))])) _
      exact kk_)
  obtain ⟨T4, Lj4, X4, N4, e4, r4⟩ : ∃ (T' : State) (L' : List Loc), Stand p l e room_1 s m #[(.int k), (.int g), (.int f)] below meth c T' L' 0 0 ∧ Fr n0 L' ∧ T'.heap = h0 ∧ GoTo p.tables e below s₁ (own_F_own_law m k g f) T' (mkF m 16 #[.val (.int k), .val (.int g), .val (.int f), .val (.int pp), .unset, .unset, .unset, .unset, .unset, .unset, .unset, .unset] [(.int (if (f &&& (1 : Int32)) = (0 : Int32) then (0 : Int32) else (1 : Int32)))]) := by
    by_cases hc5 : (f &&& (1 : Int32)) = (0 : Int32)
    · have r6 : GoTo p.tables e below s₁ (own_F_own_law m k g f) s₁ (mkF m 16 #[.val (.int k), .val (.int g), .val (.int f), .val (.int pp), .unset, .unset, .unset, .unset, .unset, .unset, .unset, .unset] [(.int (0 : Int32))]) := fun tt_ kk_ => r3 tt_ (by
          show Steps p.tables e below (s₁.setTop (mkF m 8 #[.val (.int k), .val (.int g), .val (.int f), .val (.int pp), .unset, .unset, .unset, .unset, .unset, .unset, .unset, .unset] [(.int (f &&& (1 : Int32)))])) _
          refine XS.ifYes X0.here hx rfl (pc0 := 8) (pc' := 15) rfl (hb hby at_8) rfl ((if0 _ _).trans (teq hc5).1) (by decide) (by decide) ?_
          show Steps p.tables e below (s₁.setTop (mkF m 15 #[.val (.int k), .val (.int g), .val (.int f), .val (.int pp), .unset, .unset, .unset, .unset, .unset, .unset, .unset, .unset] [])) _
          refine XS.iconst X0.here hx rfl (hb hby at_15) ?_
          show Steps p.tables e below (s₁.setTop (mkF m 16 #[.val (.int k), .val (.int g), .val (.int f), .val (.int pp), .unset, .unset, .unset, .unset, .unset, .unset, .unset, .unset] [(.int (0 : Int32))])) _
          exact kk_)
      exact ⟨s₁, _, X0, N0, e0, by rw [show (if (f &&& (1 : Int32)) = (0 : Int32) then (0 : Int32) else (1 : Int32)) = (0 : Int32) from (if_pos hc5)]; exact r6⟩
    · have r7 : GoTo p.tables e below s₁ (own_F_own_law m k g f) s₁ (mkF m 16 #[.val (.int k), .val (.int g), .val (.int f), .val (.int pp), .unset, .unset, .unset, .unset, .unset, .unset, .unset, .unset] [(.int (1 : Int32))]) := fun tt_ kk_ => r3 tt_ (by
          show Steps p.tables e below (s₁.setTop (mkF m 8 #[.val (.int k), .val (.int g), .val (.int f), .val (.int pp), .unset, .unset, .unset, .unset, .unset, .unset, .unset, .unset] [(.int (f &&& (1 : Int32)))])) _
          refine XS.ifNo X0.here hx rfl (hb hby at_8) rfl ((if0 _ _).trans (feq hc5).1) ?_
          show Steps p.tables e below (s₁.setTop (mkF m 11 #[.val (.int k), .val (.int g), .val (.int f), .val (.int pp), .unset, .unset, .unset, .unset, .unset, .unset, .unset, .unset] [])) _
          refine XS.iconst X0.here hx rfl (hb hby at_11) ?_
          show Steps p.tables e below (s₁.setTop (mkF m 12 #[.val (.int k), .val (.int g), .val (.int f), .val (.int pp), .unset, .unset, .unset, .unset, .unset, .unset, .unset, .unset] [(.int (1 : Int32))])) _
          refine XS.goto X0.here hx rfl (pc0 := 12) (pc' := 16) rfl (hb hby at_12) (by decide) (by decide) ?_
          show Steps p.tables e below (s₁.setTop (mkF m 16 #[.val (.int k), .val (.int g), .val (.int f), .val (.int pp), .unset, .unset, .unset, .unset, .unset, .unset, .unset, .unset] [(.int (1 : Int32))])) _
          exact kk_)
      exact ⟨s₁, _, X0, N0, e0, by rw [show (if (f &&& (1 : Int32)) = (0 : Int32) then (0 : Int32) else (1 : Int32)) = (1 : Int32) from (if_neg hc5)]; exact r7⟩
  obtain ⟨va, h_va⟩ : ∃ z : Int32, z = (if (f &&& (1 : Int32)) = (0 : Int32) then (0 : Int32) else (1 : Int32)) := ⟨_, rfl⟩
  have r8 : GoTo p.tables e below s₁ (own_F_own_law m k g f) T4 (mkF m 16 #[.val (.int k), .val (.int g), .val (.int f), .val (.int pp), .unset, .unset, .unset, .unset, .unset, .unset, .unset, .unset] [(.int va)]) := by rw [h_va]; exact r4
  have r9 : GoTo p.tables e below s₁ (own_F_own_law m k g f) T4 (mkF m 21 #[.val (.int k), .val (.int g), .val (.int f), .val (.int pp), .val (.int va), .unset, .unset, .unset, .unset, .unset, .unset, .unset] [(.int (f &&& (2 : Int32)))]) := fun tt_ kk_ => r8 tt_ (by
      show Steps p.tables e below (T4.setTop (mkF m 16 #[.val (.int k), .val (.int g), .val (.int f), .val (.int pp), .unset, .unset, .unset, .unset, .unset, .unset, .unset, .unset] [(.int va)])) _
      refine XS.istore X4.here hx rfl (hb hby at_16) rfl (l' := #[.val (.int k), .val (.int g), .val (.int f), .val (.int pp), .val (.int va), .unset, .unset, .unset, .unset, .unset, .unset, .unset]) rfl ?_
      show Steps p.tables e below (T4.setTop (mkF m 18 #[.val (.int k), .val (.int g), .val (.int f), .val (.int pp), .val (.int va), .unset, .unset, .unset, .unset, .unset, .unset, .unset] [])) _
      refine XS.iloadN X4.here hx rfl (hb hby at_18) rfl ?_
      show Steps p.tables e below (T4.setTop (mkF m 19 #[.val (.int k), .val (.int g), .val (.int f), .val (.int pp), .val (.int va), .unset, .unset, .unset, .unset, .unset, .unset, .unset] [(.int f)])) _
      refine XS.iconst X4.here hx rfl (hb hby at_19) ?_
      show Steps p.tables e below (T4.setTop (mkF m 20 #[.val (.int k), .val (.int g), .val (.int f), .val (.int pp), .val (.int va), .unset, .unset, .unset, .unset, .unset, .unset, .unset] [(.int (2 : Int32)), (.int f)])) _
      refine XS.iand X4.here hx rfl (hb hby at_20) rfl ?_
      show Steps p.tables e below (T4.setTop (mkF m 21 #[.val (.int k), .val (.int g), .val (.int f), .val (.int pp), .val (.int va), .unset, .unset, .unset, .unset, .unset, .unset, .unset] [(.int (f &&& (2 : Int32)))])) _
      exact kk_)
  obtain ⟨T10, Lj10, X10, N10, e10, r10⟩ : ∃ (T' : State) (L' : List Loc), Stand p l e room_1 s m #[(.int k), (.int g), (.int f)] below meth c T' L' 0 0 ∧ Fr n0 L' ∧ T'.heap = h0 ∧ GoTo p.tables e below s₁ (own_F_own_law m k g f) T' (mkF m 29 #[.val (.int k), .val (.int g), .val (.int f), .val (.int pp), .val (.int va), .unset, .unset, .unset, .unset, .unset, .unset, .unset] [(.int (if (f &&& (2 : Int32)) = (0 : Int32) then (0 : Int32) else (1 : Int32)))]) := by
    by_cases hc11 : (f &&& (2 : Int32)) = (0 : Int32)
    · have r12 : GoTo p.tables e below s₁ (own_F_own_law m k g f) T4 (mkF m 29 #[.val (.int k), .val (.int g), .val (.int f), .val (.int pp), .val (.int va), .unset, .unset, .unset, .unset, .unset, .unset, .unset] [(.int (0 : Int32))]) := fun tt_ kk_ => r9 tt_ (by
          show Steps p.tables e below (T4.setTop (mkF m 21 #[.val (.int k), .val (.int g), .val (.int f), .val (.int pp), .val (.int va), .unset, .unset, .unset, .unset, .unset, .unset, .unset] [(.int (f &&& (2 : Int32)))])) _
          refine XS.ifYes X4.here hx rfl (pc0 := 21) (pc' := 28) rfl (hb hby at_21) rfl ((if0 _ _).trans (teq hc11).1) (by decide) (by decide) ?_
          show Steps p.tables e below (T4.setTop (mkF m 28 #[.val (.int k), .val (.int g), .val (.int f), .val (.int pp), .val (.int va), .unset, .unset, .unset, .unset, .unset, .unset, .unset] [])) _
          refine XS.iconst X4.here hx rfl (hb hby at_28) ?_
          show Steps p.tables e below (T4.setTop (mkF m 29 #[.val (.int k), .val (.int g), .val (.int f), .val (.int pp), .val (.int va), .unset, .unset, .unset, .unset, .unset, .unset, .unset] [(.int (0 : Int32))])) _
          exact kk_)
      exact ⟨T4, _, X4, N4, e4, by rw [show (if (f &&& (2 : Int32)) = (0 : Int32) then (0 : Int32) else (1 : Int32)) = (0 : Int32) from (if_pos hc11)]; exact r12⟩
    · have r13 : GoTo p.tables e below s₁ (own_F_own_law m k g f) T4 (mkF m 29 #[.val (.int k), .val (.int g), .val (.int f), .val (.int pp), .val (.int va), .unset, .unset, .unset, .unset, .unset, .unset, .unset] [(.int (1 : Int32))]) := fun tt_ kk_ => r9 tt_ (by
          show Steps p.tables e below (T4.setTop (mkF m 21 #[.val (.int k), .val (.int g), .val (.int f), .val (.int pp), .val (.int va), .unset, .unset, .unset, .unset, .unset, .unset, .unset] [(.int (f &&& (2 : Int32)))])) _
          refine XS.ifNo X4.here hx rfl (hb hby at_21) rfl ((if0 _ _).trans (feq hc11).1) ?_
          show Steps p.tables e below (T4.setTop (mkF m 24 #[.val (.int k), .val (.int g), .val (.int f), .val (.int pp), .val (.int va), .unset, .unset, .unset, .unset, .unset, .unset, .unset] [])) _
          refine XS.iconst X4.here hx rfl (hb hby at_24) ?_
          show Steps p.tables e below (T4.setTop (mkF m 25 #[.val (.int k), .val (.int g), .val (.int f), .val (.int pp), .val (.int va), .unset, .unset, .unset, .unset, .unset, .unset, .unset] [(.int (1 : Int32))])) _
          refine XS.goto X4.here hx rfl (pc0 := 25) (pc' := 29) rfl (hb hby at_25) (by decide) (by decide) ?_
          show Steps p.tables e below (T4.setTop (mkF m 29 #[.val (.int k), .val (.int g), .val (.int f), .val (.int pp), .val (.int va), .unset, .unset, .unset, .unset, .unset, .unset, .unset] [(.int (1 : Int32))])) _
          exact kk_)
      exact ⟨T4, _, X4, N4, e4, by rw [show (if (f &&& (2 : Int32)) = (0 : Int32) then (0 : Int32) else (1 : Int32)) = (1 : Int32) from (if_neg hc11)]; exact r13⟩
  obtain ⟨st, h_st⟩ : ∃ z : Int32, z = (if (f &&& (2 : Int32)) = (0 : Int32) then (0 : Int32) else (1 : Int32)) := ⟨_, rfl⟩
  have r14 : GoTo p.tables e below s₁ (own_F_own_law m k g f) T10 (mkF m 29 #[.val (.int k), .val (.int g), .val (.int f), .val (.int pp), .val (.int va), .unset, .unset, .unset, .unset, .unset, .unset, .unset] [(.int st)]) := by rw [h_st]; exact r10
  have r15 : GoTo p.tables e below s₁ (own_F_own_law m k g f) T10 (mkF m 40 #[.val (.int k), .val (.int g), .val (.int f), .val (.int pp), .val (.int va), .val (.int st), .val (.int (((f.toUInt32 >>> ((2 : Int32) &&& 31).toUInt32).toInt32) &&& (3 : Int32))), .unset, .unset, .unset, .unset, .unset] [(.int (((f.toUInt32 >>> ((2 : Int32) &&& 31).toUInt32).toInt32) &&& (3 : Int32)))]) := fun tt_ kk_ => r14 tt_ (by
      show Steps p.tables e below (T10.setTop (mkF m 29 #[.val (.int k), .val (.int g), .val (.int f), .val (.int pp), .val (.int va), .unset, .unset, .unset, .unset, .unset, .unset, .unset] [(.int st)])) _
      refine XS.istore X10.here hx rfl (hb hby at_29) rfl (l' := #[.val (.int k), .val (.int g), .val (.int f), .val (.int pp), .val (.int va), .val (.int st), .unset, .unset, .unset, .unset, .unset, .unset]) rfl ?_
      show Steps p.tables e below (T10.setTop (mkF m 31 #[.val (.int k), .val (.int g), .val (.int f), .val (.int pp), .val (.int va), .val (.int st), .unset, .unset, .unset, .unset, .unset, .unset] [])) _
      refine XS.iloadN X10.here hx rfl (hb hby at_31) rfl ?_
      show Steps p.tables e below (T10.setTop (mkF m 32 #[.val (.int k), .val (.int g), .val (.int f), .val (.int pp), .val (.int va), .val (.int st), .unset, .unset, .unset, .unset, .unset, .unset] [(.int f)])) _
      refine XS.iconst X10.here hx rfl (hb hby at_32) ?_
      show Steps p.tables e below (T10.setTop (mkF m 33 #[.val (.int k), .val (.int g), .val (.int f), .val (.int pp), .val (.int va), .val (.int st), .unset, .unset, .unset, .unset, .unset, .unset] [(.int (2 : Int32)), (.int f)])) _
      refine XS.iushr X10.here hx rfl (hb hby at_33) rfl ?_
      show Steps p.tables e below (T10.setTop (mkF m 34 #[.val (.int k), .val (.int g), .val (.int f), .val (.int pp), .val (.int va), .val (.int st), .unset, .unset, .unset, .unset, .unset, .unset] [(.int ((f.toUInt32 >>> ((2 : Int32) &&& 31).toUInt32).toInt32))])) _
      refine XS.iconst X10.here hx rfl (hb hby at_34) ?_
      show Steps p.tables e below (T10.setTop (mkF m 35 #[.val (.int k), .val (.int g), .val (.int f), .val (.int pp), .val (.int va), .val (.int st), .unset, .unset, .unset, .unset, .unset, .unset] [(.int (3 : Int32)), (.int ((f.toUInt32 >>> ((2 : Int32) &&& 31).toUInt32).toInt32))])) _
      refine XS.iand X10.here hx rfl (hb hby at_35) rfl ?_
      show Steps p.tables e below (T10.setTop (mkF m 36 #[.val (.int k), .val (.int g), .val (.int f), .val (.int pp), .val (.int va), .val (.int st), .unset, .unset, .unset, .unset, .unset, .unset] [(.int (((f.toUInt32 >>> ((2 : Int32) &&& 31).toUInt32).toInt32) &&& (3 : Int32)))])) _
      refine XS.istore X10.here hx rfl (hb hby at_36) rfl (l' := #[.val (.int k), .val (.int g), .val (.int f), .val (.int pp), .val (.int va), .val (.int st), .val (.int (((f.toUInt32 >>> ((2 : Int32) &&& 31).toUInt32).toInt32) &&& (3 : Int32))), .unset, .unset, .unset, .unset, .unset]) rfl ?_
      show Steps p.tables e below (T10.setTop (mkF m 38 #[.val (.int k), .val (.int g), .val (.int f), .val (.int pp), .val (.int va), .val (.int st), .val (.int (((f.toUInt32 >>> ((2 : Int32) &&& 31).toUInt32).toInt32) &&& (3 : Int32))), .unset, .unset, .unset, .unset, .unset] [])) _
      refine XS.iload X10.here hx rfl (hb hby at_38) rfl ?_
      show Steps p.tables e below (T10.setTop (mkF m 40 #[.val (.int k), .val (.int g), .val (.int f), .val (.int pp), .val (.int va), .val (.int st), .val (.int (((f.toUInt32 >>> ((2 : Int32) &&& 31).toUInt32).toInt32) &&& (3 : Int32))), .unset, .unset, .unset, .unset, .unset] [(.int (((f.toUInt32 >>> ((2 : Int32) &&& 31).toUInt32).toInt32) &&& (3 : Int32)))])) _
      exact kk_)
  obtain ⟨T16, Lj16, X16, N16, e16, r16⟩ : ∃ (T' : State) (L' : List Loc), Stand p l e room_1 s m #[(.int k), (.int g), (.int f)] below meth c T' L' 0 0 ∧ Fr n0 L' ∧ T'.heap = h0 ∧ GoTo p.tables e below s₁ (own_F_own_law m k g f) T' (mkF m 70 #[.val (.int k), .val (.int g), .val (.int f), .val (.int pp), .val (.int va), .val (.int st), .val (.int (((f.toUInt32 >>> ((2 : Int32) &&& 31).toUInt32).toInt32) &&& (3 : Int32))), .val (.ref (if (((f.toUInt32 >>> ((2 : Int32) &&& 31).toUInt32).toInt32) &&& (3 : Int32)) = (0 : Int32) then u0 else (if (((f.toUInt32 >>> ((2 : Int32) &&& 31).toUInt32).toInt32) &&& (3 : Int32)) = (1 : Int32) then u1 else u2))), .unset, .unset, .unset, .unset] []) := by
    by_cases hc17 : (((f.toUInt32 >>> ((2 : Int32) &&& 31).toUInt32).toInt32) &&& (3 : Int32)) = (0 : Int32)
    · obtain ⟨T18, X18, e18, st18⟩ := getS2 X10 hx hZ hown (host := "") (Or.inl (hw _ (List.mem_of_getElem? (i := 1) rfl))) Via.refl e10 (hp0.ext (O0.keep K0 all0).2) (g := (mkF m 43 #[.val (.int k), .val (.int g), .val (.int f), .val (.int pp), .val (.int va), .val (.int st), .val (.int (((f.toUInt32 >>> ((2 : Int32) &&& 31).toUInt32).toInt32) &&& (3 : Int32))), .unset, .unset, .unset, .unset, .unset] [])) rfl (hb hby at_43)
      have r19 : GoTo p.tables e below s₁ (own_F_own_law m k g f) T18 (mkF m 70 #[.val (.int k), .val (.int g), .val (.int f), .val (.int pp), .val (.int va), .val (.int st), .val (.int (((f.toUInt32 >>> ((2 : Int32) &&& 31).toUInt32).toInt32) &&& (3 : Int32))), .val (.ref u0), .unset, .unset, .unset, .unset] []) := fun tt_ kk_ => r15 tt_ (by
          show Steps p.tables e below (T10.setTop (mkF m 40 #[.val (.int k), .val (.int g), .val (.int f), .val (.int pp), .val (.int va), .val (.int st), .val (.int (((f.toUInt32 >>> ((2 : Int32) &&& 31).toUInt32).toInt32) &&& (3 : Int32))), .unset, .unset, .unset, .unset, .unset] [(.int (((f.toUInt32 >>> ((2 : Int32) &&& 31).toUInt32).toInt32) &&& (3 : Int32)))])) _
          refine XS.ifNo X10.here hx rfl (hb hby at_40) rfl ((if0 _ _).trans (teq hc17).2) ?_
          show Steps p.tables e below (T10.setTop (mkF m 43 #[.val (.int k), .val (.int g), .val (.int f), .val (.int pp), .val (.int va), .val (.int st), .val (.int (((f.toUInt32 >>> ((2 : Int32) &&& 31).toUInt32).toInt32) &&& (3 : Int32))), .unset, .unset, .unset, .unset, .unset] [])) _
          refine st18 _ ?_
          show Steps p.tables e below (T18.setTop (mkF m 46 #[.val (.int k), .val (.int g), .val (.int f), .val (.int pp), .val (.int va), .val (.int st), .val (.int (((f.toUInt32 >>> ((2 : Int32) &&& 31).toUInt32).toInt32) &&& (3 : Int32))), .unset, .unset, .unset, .unset, .unset] [(.ref u0)])) _
          refine XS.astore X18.here hx rfl (hb hby at_46) rfl rfl (l' := #[.val (.int k), .val (.int g), .val (.int f), .val (.int pp), .val (.int va), .val (.int st), .val (.int (((f.toUInt32 >>> ((2 : Int32) &&& 31).toUInt32).toInt32) &&& (3 : Int32))), .val (.ref u0), .unset, .unset, .unset, .unset]) rfl ?_
          show Steps p.tables e below (T18.setTop (mkF m 48 #[.val (.int k), .val (.int g), .val (.int f), .val (.int pp), .val (.int va), .val (.int st), .val (.int (((f.toUInt32 >>> ((2 : Int32) &&& 31).toUInt32).toInt32) &&& (3 : Int32))), .val (.ref u0), .unset, .unset, .unset, .unset] [])) _
          refine XS.goto X18.here hx rfl (pc0 := 48) (pc' := 70) rfl (hb hby at_48) (by decide) (by decide) ?_
          show Steps p.tables e below (T18.setTop (mkF m 70 #[.val (.int k), .val (.int g), .val (.int f), .val (.int pp), .val (.int va), .val (.int st), .val (.int (((f.toUInt32 >>> ((2 : Int32) &&& 31).toUInt32).toInt32) &&& (3 : Int32))), .val (.ref u0), .unset, .unset, .unset, .unset] [])) _
          exact kk_)
      exact ⟨T18, _, X18, N10, e18, by rw [show (if (((f.toUInt32 >>> ((2 : Int32) &&& 31).toUInt32).toInt32) &&& (3 : Int32)) = (0 : Int32) then u0 else (if (((f.toUInt32 >>> ((2 : Int32) &&& 31).toUInt32).toInt32) &&& (3 : Int32)) = (1 : Int32) then u1 else u2)) = u0 from (if_pos hc17)]; exact r19⟩
    · have r20 : GoTo p.tables e below s₁ (own_F_own_law m k g f) T10 (mkF m 54 #[.val (.int k), .val (.int g), .val (.int f), .val (.int pp), .val (.int va), .val (.int st), .val (.int (((f.toUInt32 >>> ((2 : Int32) &&& 31).toUInt32).toInt32) &&& (3 : Int32))), .unset, .unset, .unset, .unset, .unset] [(.int (1 : Int32)), (.int (((f.toUInt32 >>> ((2 : Int32) &&& 31).toUInt32).toInt32) &&& (3 : Int32)))]) := fun tt_ kk_ => r15 tt_ (by
          show Steps p.tables e below (T10.setTop (mkF m 40 #[.val (.int k), .val (.int g), .val (.int f), .val (.int pp), .val (.int va), .val (.int st), .val (.int (((f.toUInt32 >>> ((2 : Int32) &&& 31).toUInt32).toInt32) &&& (3 : Int32))), .unset, .unset, .unset, .unset, .unset] [(.int (((f.toUInt32 >>> ((2 : Int32) &&& 31).toUInt32).toInt32) &&& (3 : Int32)))])) _
          refine XS.ifYes X10.here hx rfl (pc0 := 40) (pc' := 51) rfl (hb hby at_40) rfl ((if0 _ _).trans (feq hc17).2) (by decide) (by decide) ?_
          show Steps p.tables e below (T10.setTop (mkF m 51 #[.val (.int k), .val (.int g), .val (.int f), .val (.int pp), .val (.int va), .val (.int st), .val (.int (((f.toUInt32 >>> ((2 : Int32) &&& 31).toUInt32).toInt32) &&& (3 : Int32))), .unset, .unset, .unset, .unset, .unset] [])) _
          refine XS.iload X10.here hx rfl (hb hby at_51) rfl ?_
          show Steps p.tables e below (T10.setTop (mkF m 53 #[.val (.int k), .val (.int g), .val (.int f), .val (.int pp), .val (.int va), .val (.int st), .val (.int (((f.toUInt32 >>> ((2 : Int32) &&& 31).toUInt32).toInt32) &&& (3 : Int32))), .unset, .unset, .unset, .unset, .unset] [(.int (((f.toUInt32 >>> ((2 : Int32) &&& 31).toUInt32).toInt32) &&& (3 : Int32)))])) _
          refine XS.iconst X10.here hx rfl (hb hby at_53) ?_
          show Steps p.tables e below (T10.setTop (mkF m 54 #[.val (.int k), .val (.int g), .val (.int f), .val (.int pp), .val (.int va), .val (.int st), .val (.int (((f.toUInt32 >>> ((2 : Int32) &&& 31).toUInt32).toInt32) &&& (3 : Int32))), .unset, .unset, .unset, .unset, .unset] [(.int (1 : Int32)), (.int (((f.toUInt32 >>> ((2 : Int32) &&& 31).toUInt32).toInt32) &&& (3 : Int32)))])) _
          exact kk_)
      by_cases hc21 : (((f.toUInt32 >>> ((2 : Int32) &&& 31).toUInt32).toInt32) &&& (3 : Int32)) = (1 : Int32)
      · obtain ⟨T22, X22, e22, st22⟩ := getS2 X10 hx hZ hown (host := "") (Or.inl (hw _ (List.mem_of_getElem? (i := 33) rfl))) Via.refl e10 (hp1.ext (O0.keep K0 all0).2) (g := (mkF m 57 #[.val (.int k), .val (.int g), .val (.int f), .val (.int pp), .val (.int va), .val (.int st), .val (.int (((f.toUInt32 >>> ((2 : Int32) &&& 31).toUInt32).toInt32) &&& (3 : Int32))), .unset, .unset, .unset, .unset, .unset] [])) rfl (hb hby at_57)
        have r23 : GoTo p.tables e below s₁ (own_F_own_law m k g f) T22 (mkF m 70 #[.val (.int k), .val (.int g), .val (.int f), .val (.int pp), .val (.int va), .val (.int st), .val (.int (((f.toUInt32 >>> ((2 : Int32) &&& 31).toUInt32).toInt32) &&& (3 : Int32))), .val (.ref u1), .unset, .unset, .unset, .unset] []) := fun tt_ kk_ => r20 tt_ (by
            show Steps p.tables e below (T10.setTop (mkF m 54 #[.val (.int k), .val (.int g), .val (.int f), .val (.int pp), .val (.int va), .val (.int st), .val (.int (((f.toUInt32 >>> ((2 : Int32) &&& 31).toUInt32).toInt32) &&& (3 : Int32))), .unset, .unset, .unset, .unset, .unset] [(.int (1 : Int32)), (.int (((f.toUInt32 >>> ((2 : Int32) &&& 31).toUInt32).toInt32) &&& (3 : Int32)))])) _
            refine XS.icmpNo X10.here hx rfl (hb hby at_54) rfl (teq hc21).2 ?_
            show Steps p.tables e below (T10.setTop (mkF m 57 #[.val (.int k), .val (.int g), .val (.int f), .val (.int pp), .val (.int va), .val (.int st), .val (.int (((f.toUInt32 >>> ((2 : Int32) &&& 31).toUInt32).toInt32) &&& (3 : Int32))), .unset, .unset, .unset, .unset, .unset] [])) _
            refine st22 _ ?_
            show Steps p.tables e below (T22.setTop (mkF m 60 #[.val (.int k), .val (.int g), .val (.int f), .val (.int pp), .val (.int va), .val (.int st), .val (.int (((f.toUInt32 >>> ((2 : Int32) &&& 31).toUInt32).toInt32) &&& (3 : Int32))), .unset, .unset, .unset, .unset, .unset] [(.ref u1)])) _
            refine XS.astore X22.here hx rfl (hb hby at_60) rfl rfl (l' := #[.val (.int k), .val (.int g), .val (.int f), .val (.int pp), .val (.int va), .val (.int st), .val (.int (((f.toUInt32 >>> ((2 : Int32) &&& 31).toUInt32).toInt32) &&& (3 : Int32))), .val (.ref u1), .unset, .unset, .unset, .unset]) rfl ?_
            show Steps p.tables e below (T22.setTop (mkF m 62 #[.val (.int k), .val (.int g), .val (.int f), .val (.int pp), .val (.int va), .val (.int st), .val (.int (((f.toUInt32 >>> ((2 : Int32) &&& 31).toUInt32).toInt32) &&& (3 : Int32))), .val (.ref u1), .unset, .unset, .unset, .unset] [])) _
            refine XS.goto X22.here hx rfl (pc0 := 62) (pc' := 70) rfl (hb hby at_62) (by decide) (by decide) ?_
            show Steps p.tables e below (T22.setTop (mkF m 70 #[.val (.int k), .val (.int g), .val (.int f), .val (.int pp), .val (.int va), .val (.int st), .val (.int (((f.toUInt32 >>> ((2 : Int32) &&& 31).toUInt32).toInt32) &&& (3 : Int32))), .val (.ref u1), .unset, .unset, .unset, .unset] [])) _
            exact kk_)
        exact ⟨T22, _, X22, N10, e22, by rw [show (if (((f.toUInt32 >>> ((2 : Int32) &&& 31).toUInt32).toInt32) &&& (3 : Int32)) = (0 : Int32) then u0 else (if (((f.toUInt32 >>> ((2 : Int32) &&& 31).toUInt32).toInt32) &&& (3 : Int32)) = (1 : Int32) then u1 else u2)) = u1 from ((if_neg hc17).trans (if_pos hc21))]; exact r23⟩
      · obtain ⟨T24, X24, e24, st24⟩ := getS2 X10 hx hZ hown (host := "") (Or.inl (hw _ (List.mem_of_getElem? (i := 31) rfl))) Via.refl e10 (hp2.ext (O0.keep K0 all0).2) (g := (mkF m 65 #[.val (.int k), .val (.int g), .val (.int f), .val (.int pp), .val (.int va), .val (.int st), .val (.int (((f.toUInt32 >>> ((2 : Int32) &&& 31).toUInt32).toInt32) &&& (3 : Int32))), .unset, .unset, .unset, .unset, .unset] [])) rfl (hb hby at_65)
        have r25 : GoTo p.tables e below s₁ (own_F_own_law m k g f) T24 (mkF m 70 #[.val (.int k), .val (.int g), .val (.int f), .val (.int pp), .val (.int va), .val (.int st), .val (.int (((f.toUInt32 >>> ((2 : Int32) &&& 31).toUInt32).toInt32) &&& (3 : Int32))), .val (.ref u2), .unset, .unset, .unset, .unset] []) := fun tt_ kk_ => r20 tt_ (by
            show Steps p.tables e below (T10.setTop (mkF m 54 #[.val (.int k), .val (.int g), .val (.int f), .val (.int pp), .val (.int va), .val (.int st), .val (.int (((f.toUInt32 >>> ((2 : Int32) &&& 31).toUInt32).toInt32) &&& (3 : Int32))), .unset, .unset, .unset, .unset, .unset] [(.int (1 : Int32)), (.int (((f.toUInt32 >>> ((2 : Int32) &&& 31).toUInt32).toInt32) &&& (3 : Int32)))])) _
            refine XS.icmpYes X10.here hx rfl (pc0 := 54) (pc' := 65) rfl (hb hby at_54) rfl (feq hc21).2 (by decide) (by decide) ?_
            show Steps p.tables e below (T10.setTop (mkF m 65 #[.val (.int k), .val (.int g), .val (.int f), .val (.int pp), .val (.int va), .val (.int st), .val (.int (((f.toUInt32 >>> ((2 : Int32) &&& 31).toUInt32).toInt32) &&& (3 : Int32))), .unset, .unset, .unset, .unset, .unset] [])) _
            refine st24 _ ?_
            show Steps p.tables e below (T24.setTop (mkF m 68 #[.val (.int k), .val (.int g), .val (.int f), .val (.int pp), .val (.int va), .val (.int st), .val (.int (((f.toUInt32 >>> ((2 : Int32) &&& 31).toUInt32).toInt32) &&& (3 : Int32))), .unset, .unset, .unset, .unset, .unset] [(.ref u2)])) _
            refine XS.astore X24.here hx rfl (hb hby at_68) rfl rfl (l' := #[.val (.int k), .val (.int g), .val (.int f), .val (.int pp), .val (.int va), .val (.int st), .val (.int (((f.toUInt32 >>> ((2 : Int32) &&& 31).toUInt32).toInt32) &&& (3 : Int32))), .val (.ref u2), .unset, .unset, .unset, .unset]) rfl ?_
            show Steps p.tables e below (T24.setTop (mkF m 70 #[.val (.int k), .val (.int g), .val (.int f), .val (.int pp), .val (.int va), .val (.int st), .val (.int (((f.toUInt32 >>> ((2 : Int32) &&& 31).toUInt32).toInt32) &&& (3 : Int32))), .val (.ref u2), .unset, .unset, .unset, .unset] [])) _
            exact kk_)
        exact ⟨T24, _, X24, N10, e24, by rw [show (if (((f.toUInt32 >>> ((2 : Int32) &&& 31).toUInt32).toInt32) &&& (3 : Int32)) = (0 : Int32) then u0 else (if (((f.toUInt32 >>> ((2 : Int32) &&& 31).toUInt32).toInt32) &&& (3 : Int32)) = (1 : Int32) then u1 else u2)) = u2 from ((if_neg hc17).trans (if_neg hc21))]; exact r25⟩
  obtain ⟨ac, h_ac⟩ : ∃ z : Addr, z = (if (((f.toUInt32 >>> ((2 : Int32) &&& 31).toUInt32).toInt32) &&& (3 : Int32)) = (0 : Int32) then u0 else (if (((f.toUInt32 >>> ((2 : Int32) &&& 31).toUInt32).toInt32) &&& (3 : Int32)) = (1 : Int32) then u1 else u2)) := ⟨_, rfl⟩
  have r26 : GoTo p.tables e below s₁ (own_F_own_law m k g f) T16 (mkF m 70 #[.val (.int k), .val (.int g), .val (.int f), .val (.int pp), .val (.int va), .val (.int st), .val (.int (((f.toUInt32 >>> ((2 : Int32) &&& 31).toUInt32).toInt32) &&& (3 : Int32))), .val (.ref ac), .unset, .unset, .unset, .unset] []) := by rw [h_ac]; exact r16
  have r27 : GoTo p.tables e below s₁ (own_F_own_law m k g f) T16 (mkF m 78 #[.val (.int k), .val (.int g), .val (.int f), .val (.int pp), .val (.int va), .val (.int st), .val (.int (((f.toUInt32 >>> ((2 : Int32) &&& 31).toUInt32).toInt32) &&& (3 : Int32))), .val (.ref ac), .val (.int (((f.toUInt32 >>> ((4 : Int32) &&& 31).toUInt32).toInt32) &&& (7 : Int32))), .unset, .unset, .unset] []) := fun tt_ kk_ => r26 tt_ (by
      show Steps p.tables e below (T16.setTop (mkF m 70 #[.val (.int k), .val (.int g), .val (.int f), .val (.int pp), .val (.int va), .val (.int st), .val (.int (((f.toUInt32 >>> ((2 : Int32) &&& 31).toUInt32).toInt32) &&& (3 : Int32))), .val (.ref ac), .unset, .unset, .unset, .unset] [])) _
      refine XS.iloadN X16.here hx rfl (hb hby at_70) rfl ?_
      show Steps p.tables e below (T16.setTop (mkF m 71 #[.val (.int k), .val (.int g), .val (.int f), .val (.int pp), .val (.int va), .val (.int st), .val (.int (((f.toUInt32 >>> ((2 : Int32) &&& 31).toUInt32).toInt32) &&& (3 : Int32))), .val (.ref ac), .unset, .unset, .unset, .unset] [(.int f)])) _
      refine XS.iconst X16.here hx rfl (hb hby at_71) ?_
      show Steps p.tables e below (T16.setTop (mkF m 72 #[.val (.int k), .val (.int g), .val (.int f), .val (.int pp), .val (.int va), .val (.int st), .val (.int (((f.toUInt32 >>> ((2 : Int32) &&& 31).toUInt32).toInt32) &&& (3 : Int32))), .val (.ref ac), .unset, .unset, .unset, .unset] [(.int (4 : Int32)), (.int f)])) _
      refine XS.iushr X16.here hx rfl (hb hby at_72) rfl ?_
      show Steps p.tables e below (T16.setTop (mkF m 73 #[.val (.int k), .val (.int g), .val (.int f), .val (.int pp), .val (.int va), .val (.int st), .val (.int (((f.toUInt32 >>> ((2 : Int32) &&& 31).toUInt32).toInt32) &&& (3 : Int32))), .val (.ref ac), .unset, .unset, .unset, .unset] [(.int ((f.toUInt32 >>> ((4 : Int32) &&& 31).toUInt32).toInt32))])) _
      refine XS.bipush X16.here hx rfl (hb hby at_73) ?_
      show Steps p.tables e below (T16.setTop (mkF m 75 #[.val (.int k), .val (.int g), .val (.int f), .val (.int pp), .val (.int va), .val (.int st), .val (.int (((f.toUInt32 >>> ((2 : Int32) &&& 31).toUInt32).toInt32) &&& (3 : Int32))), .val (.ref ac), .unset, .unset, .unset, .unset] [(.int (7 : Int32)), (.int ((f.toUInt32 >>> ((4 : Int32) &&& 31).toUInt32).toInt32))])) _
      refine XS.iand X16.here hx rfl (hb hby at_75) rfl ?_
      show Steps p.tables e below (T16.setTop (mkF m 76 #[.val (.int k), .val (.int g), .val (.int f), .val (.int pp), .val (.int va), .val (.int st), .val (.int (((f.toUInt32 >>> ((2 : Int32) &&& 31).toUInt32).toInt32) &&& (3 : Int32))), .val (.ref ac), .unset, .unset, .unset, .unset] [(.int (((f.toUInt32 >>> ((4 : Int32) &&& 31).toUInt32).toInt32) &&& (7 : Int32)))])) _
      refine XS.istore X16.here hx rfl (hb hby at_76) rfl (l' := #[.val (.int k), .val (.int g), .val (.int f), .val (.int pp), .val (.int va), .val (.int st), .val (.int (((f.toUInt32 >>> ((2 : Int32) &&& 31).toUInt32).toInt32) &&& (3 : Int32))), .val (.ref ac), .val (.int (((f.toUInt32 >>> ((4 : Int32) &&& 31).toUInt32).toInt32) &&& (7 : Int32))), .unset, .unset, .unset]) rfl ?_
      show Steps p.tables e below (T16.setTop (mkF m 78 #[.val (.int k), .val (.int g), .val (.int f), .val (.int pp), .val (.int va), .val (.int st), .val (.int (((f.toUInt32 >>> ((2 : Int32) &&& 31).toUInt32).toInt32) &&& (3 : Int32))), .val (.ref ac), .val (.int (((f.toUInt32 >>> ((4 : Int32) &&& 31).toUInt32).toInt32) &&& (7 : Int32))), .unset, .unset, .unset] [])) _
      exact kk_)
  obtain ⟨md, h_md⟩ : ∃ z : Int32, z = (((f.toUInt32 >>> ((4 : Int32) &&& 31).toUInt32).toInt32) &&& (7 : Int32)) := ⟨_, rfl⟩
  have r28 : GoTo p.tables e below s₁ (own_F_own_law m k g f) T16 (mkF m 78 #[.val (.int k), .val (.int g), .val (.int f), .val (.int pp), .val (.int va), .val (.int st), .val (.int (((f.toUInt32 >>> ((2 : Int32) &&& 31).toUInt32).toInt32) &&& (3 : Int32))), .val (.ref ac), .val (.int md), .unset, .unset, .unset] []) := by rw [h_md]; exact r27
  have r29 : GoTo p.tables e below s₁ (own_F_own_law m k g f) T16 (mkF m 81 #[.val (.int k), .val (.int g), .val (.int f), .val (.int pp), .val (.int va), .val (.int st), .val (.int (((f.toUInt32 >>> ((2 : Int32) &&& 31).toUInt32).toInt32) &&& (3 : Int32))), .val (.ref ac), .val (.int md), .unset, .unset, .unset] [(.int (4 : Int32)), (.int md)]) := fun tt_ kk_ => r28 tt_ (by
      show Steps p.tables e below (T16.setTop (mkF m 78 #[.val (.int k), .val (.int g), .val (.int f), .val (.int pp), .val (.int va), .val (.int st), .val (.int (((f.toUInt32 >>> ((2 : Int32) &&& 31).toUInt32).toInt32) &&& (3 : Int32))), .val (.ref ac), .val (.int md), .unset, .unset, .unset] [])) _
      refine XS.iload X16.here hx rfl (hb hby at_78) rfl ?_
      show Steps p.tables e below (T16.setTop (mkF m 80 #[.val (.int k), .val (.int g), .val (.int f), .val (.int pp), .val (.int va), .val (.int st), .val (.int (((f.toUInt32 >>> ((2 : Int32) &&& 31).toUInt32).toInt32) &&& (3 : Int32))), .val (.ref ac), .val (.int md), .unset, .unset, .unset] [(.int md)])) _
      refine XS.iconst X16.here hx rfl (hb hby at_80) ?_
      show Steps p.tables e below (T16.setTop (mkF m 81 #[.val (.int k), .val (.int g), .val (.int f), .val (.int pp), .val (.int va), .val (.int st), .val (.int (((f.toUInt32 >>> ((2 : Int32) &&& 31).toUInt32).toInt32) &&& (3 : Int32))), .val (.ref ac), .val (.int md), .unset, .unset, .unset] [(.int (4 : Int32)), (.int md)])) _
      exact kk_)
  obtain ⟨T30, Lj30, X30, N30, e30, r30⟩ : ∃ (T' : State) (L' : List Loc), Stand p l e room_1 s m #[(.int k), (.int g), (.int f)] below meth c T' L' 0 0 ∧ Fr n0 L' ∧ T'.heap = h0 ∧ GoTo p.tables e below s₁ (own_F_own_law m k g f) T' (mkF m 98 #[.val (.int k), .val (.int g), .val (.int f), .val (.int pp), .val (.int va), .val (.int st), .val (.int (((f.toUInt32 >>> ((2 : Int32) &&& 31).toUInt32).toInt32) &&& (3 : Int32))), .val (.ref ac), .val (.int md), .val (.int (if md < (4 : Int32) then ((pp + (1 : Int32)) - md) else g)), .unset, .unset] []) := by
    by_cases hc31 : md < (4 : Int32)
    · have r32 : GoTo p.tables e below s₁ (own_F_own_law m k g f) T16 (mkF m 98 #[.val (.int k), .val (.int g), .val (.int f), .val (.int pp), .val (.int va), .val (.int st), .val (.int (((f.toUInt32 >>> ((2 : Int32) &&& 31).toUInt32).toInt32) &&& (3 : Int32))), .val (.ref ac), .val (.int md), .val (.int ((pp + (1 : Int32)) - md)), .unset, .unset] []) := fun tt_ kk_ => r29 tt_ (by
          show Steps p.tables e below (T16.setTop (mkF m 81 #[.val (.int k), .val (.int g), .val (.int f), .val (.int pp), .val (.int va), .val (.int st), .val (.int (((f.toUInt32 >>> ((2 : Int32) &&& 31).toUInt32).toInt32) &&& (3 : Int32))), .val (.ref ac), .val (.int md), .unset, .unset, .unset] [(.int (4 : Int32)), (.int md)])) _
          refine XS.icmpYes X16.here hx rfl (pc0 := 81) (pc' := 90) rfl (hb hby at_81) rfl (tlt hc31).1 (by decide) (by decide) ?_
          show Steps p.tables e below (T16.setTop (mkF m 90 #[.val (.int k), .val (.int g), .val (.int f), .val (.int pp), .val (.int va), .val (.int st), .val (.int (((f.toUInt32 >>> ((2 : Int32) &&& 31).toUInt32).toInt32) &&& (3 : Int32))), .val (.ref ac), .val (.int md), .unset, .unset, .unset] [])) _
          refine XS.iloadN X16.here hx rfl (hb hby at_90) rfl ?_
          show Steps p.tables e below (T16.setTop (mkF m 91 #[.val (.int k), .val (.int g), .val (.int f), .val (.int pp), .val (.int va), .val (.int st), .val (.int (((f.toUInt32 >>> ((2 : Int32) &&& 31).toUInt32).toInt32) &&& (3 : Int32))), .val (.ref ac), .val (.int md), .unset, .unset, .unset] [(.int pp)])) _
          refine XS.iconst X16.here hx rfl (hb hby at_91) ?_
          show Steps p.tables e below (T16.setTop (mkF m 92 #[.val (.int k), .val (.int g), .val (.int f), .val (.int pp), .val (.int va), .val (.int st), .val (.int (((f.toUInt32 >>> ((2 : Int32) &&& 31).toUInt32).toInt32) &&& (3 : Int32))), .val (.ref ac), .val (.int md), .unset, .unset, .unset] [(.int (1 : Int32)), (.int pp)])) _
          refine XS.iadd X16.here hx rfl (hb hby at_92) rfl ?_
          show Steps p.tables e below (T16.setTop (mkF m 93 #[.val (.int k), .val (.int g), .val (.int f), .val (.int pp), .val (.int va), .val (.int st), .val (.int (((f.toUInt32 >>> ((2 : Int32) &&& 31).toUInt32).toInt32) &&& (3 : Int32))), .val (.ref ac), .val (.int md), .unset, .unset, .unset] [(.int (pp + (1 : Int32)))])) _
          refine XS.iload X16.here hx rfl (hb hby at_93) rfl ?_
          show Steps p.tables e below (T16.setTop (mkF m 95 #[.val (.int k), .val (.int g), .val (.int f), .val (.int pp), .val (.int va), .val (.int st), .val (.int (((f.toUInt32 >>> ((2 : Int32) &&& 31).toUInt32).toInt32) &&& (3 : Int32))), .val (.ref ac), .val (.int md), .unset, .unset, .unset] [(.int md), (.int (pp + (1 : Int32)))])) _
          refine XS.isub X16.here hx rfl (hb hby at_95) rfl ?_
          show Steps p.tables e below (T16.setTop (mkF m 96 #[.val (.int k), .val (.int g), .val (.int f), .val (.int pp), .val (.int va), .val (.int st), .val (.int (((f.toUInt32 >>> ((2 : Int32) &&& 31).toUInt32).toInt32) &&& (3 : Int32))), .val (.ref ac), .val (.int md), .unset, .unset, .unset] [(.int ((pp + (1 : Int32)) - md))])) _
          refine XS.istore X16.here hx rfl (hb hby at_96) rfl (l' := #[.val (.int k), .val (.int g), .val (.int f), .val (.int pp), .val (.int va), .val (.int st), .val (.int (((f.toUInt32 >>> ((2 : Int32) &&& 31).toUInt32).toInt32) &&& (3 : Int32))), .val (.ref ac), .val (.int md), .val (.int ((pp + (1 : Int32)) - md)), .unset, .unset]) rfl ?_
          show Steps p.tables e below (T16.setTop (mkF m 98 #[.val (.int k), .val (.int g), .val (.int f), .val (.int pp), .val (.int va), .val (.int st), .val (.int (((f.toUInt32 >>> ((2 : Int32) &&& 31).toUInt32).toInt32) &&& (3 : Int32))), .val (.ref ac), .val (.int md), .val (.int ((pp + (1 : Int32)) - md)), .unset, .unset] [])) _
          exact kk_)
      exact ⟨T16, _, X16, N16, e16, by rw [show (if md < (4 : Int32) then ((pp + (1 : Int32)) - md) else g) = ((pp + (1 : Int32)) - md) from (if_pos hc31)]; exact r32⟩
    · have r33 : GoTo p.tables e below s₁ (own_F_own_law m k g f) T16 (mkF m 98 #[.val (.int k), .val (.int g), .val (.int f), .val (.int pp), .val (.int va), .val (.int st), .val (.int (((f.toUInt32 >>> ((2 : Int32) &&& 31).toUInt32).toInt32) &&& (3 : Int32))), .val (.ref ac), .val (.int md), .val (.int g), .unset, .unset] []) := fun tt_ kk_ => r29 tt_ (by
          show Steps p.tables e below (T16.setTop (mkF m 81 #[.val (.int k), .val (.int g), .val (.int f), .val (.int pp), .val (.int va), .val (.int st), .val (.int (((f.toUInt32 >>> ((2 : Int32) &&& 31).toUInt32).toInt32) &&& (3 : Int32))), .val (.ref ac), .val (.int md), .unset, .unset, .unset] [(.int (4 : Int32)), (.int md)])) _
          refine XS.icmpNo X16.here hx rfl (hb hby at_81) rfl (flt hc31).1 ?_
          show Steps p.tables e below (T16.setTop (mkF m 84 #[.val (.int k), .val (.int g), .val (.int f), .val (.int pp), .val (.int va), .val (.int st), .val (.int (((f.toUInt32 >>> ((2 : Int32) &&& 31).toUInt32).toInt32) &&& (3 : Int32))), .val (.ref ac), .val (.int md), .unset, .unset, .unset] [])) _
          refine XS.iloadN X16.here hx rfl (hb hby at_84) rfl ?_
          show Steps p.tables e below (T16.setTop (mkF m 85 #[.val (.int k), .val (.int g), .val (.int f), .val (.int pp), .val (.int va), .val (.int st), .val (.int (((f.toUInt32 >>> ((2 : Int32) &&& 31).toUInt32).toInt32) &&& (3 : Int32))), .val (.ref ac), .val (.int md), .unset, .unset, .unset] [(.int g)])) _
          refine XS.istore X16.here hx rfl (hb hby at_85) rfl (l' := #[.val (.int k), .val (.int g), .val (.int f), .val (.int pp), .val (.int va), .val (.int st), .val (.int (((f.toUInt32 >>> ((2 : Int32) &&& 31).toUInt32).toInt32) &&& (3 : Int32))), .val (.ref ac), .val (.int md), .val (.int g), .unset, .unset]) rfl ?_
          show Steps p.tables e below (T16.setTop (mkF m 87 #[.val (.int k), .val (.int g), .val (.int f), .val (.int pp), .val (.int va), .val (.int st), .val (.int (((f.toUInt32 >>> ((2 : Int32) &&& 31).toUInt32).toInt32) &&& (3 : Int32))), .val (.ref ac), .val (.int md), .val (.int g), .unset, .unset] [])) _
          refine XS.goto X16.here hx rfl (pc0 := 87) (pc' := 98) rfl (hb hby at_87) (by decide) (by decide) ?_
          show Steps p.tables e below (T16.setTop (mkF m 98 #[.val (.int k), .val (.int g), .val (.int f), .val (.int pp), .val (.int va), .val (.int st), .val (.int (((f.toUInt32 >>> ((2 : Int32) &&& 31).toUInt32).toInt32) &&& (3 : Int32))), .val (.ref ac), .val (.int md), .val (.int g), .unset, .unset] [])) _
          exact kk_)
      exact ⟨T16, _, X16, N16, e16, by rw [show (if md < (4 : Int32) then ((pp + (1 : Int32)) - md) else g) = g from (if_neg hc31)]; exact r33⟩
  obtain ⟨ar, h_ar⟩ : ∃ z : Int32, z = (if md < (4 : Int32) then ((pp + (1 : Int32)) - md) else g) := ⟨_, rfl⟩
  have r34 : GoTo p.tables e below s₁ (own_F_own_law m k g f) T30 (mkF m 98 #[.val (.int k), .val (.int g), .val (.int f), .val (.int pp), .val (.int va), .val (.int st), .val (.int (((f.toUInt32 >>> ((2 : Int32) &&& 31).toUInt32).toInt32) &&& (3 : Int32))), .val (.ref ac), .val (.int md), .val (.int ar), .unset, .unset] []) := by rw [h_ar]; exact r30
  obtain ⟨T35, h35, X35, e35, E35, A35, D35, -, st35⟩ := newO X30 hx hZ hown (hw _ (List.mem_of_getElem? (i := 4) rfl)) (hw _ (List.mem_of_getElem? (i := 5) rfl)) (hw _ (List.mem_of_getElem? (i := 6) rfl)) e30 (g := (mkF m 98 #[.val (.int k), .val (.int g), .val (.int f), .val (.int pp), .val (.int va), .val (.int st), .val (.int (((f.toUInt32 >>> ((2 : Int32) &&& 31).toUInt32).toInt32) &&& (3 : Int32))), .val (.ref ac), .val (.int md), .val (.int ar), .unset, .unset] [])) rfl (hb hby at_98) (by decide) (by decide)
  obtain ⟨b35, gg35⟩ : ∃ z, z = h0.size := ⟨_, rfl⟩
  rw [← gg35] at A35 D35 st35
  have g36 : n0 ≤ b35 := Nat.le_trans (Nat.le_trans (own_le O0) K0.1) (Nat.le_of_eq gg35.symm)
  have b37 : h0.size ≤ b35 := Nat.le_trans K0.1 (Nat.le_of_eq gg35.symm)
  have K38 : Keep h0 h35 [] := K0.ext E35
  obtain ⟨_, _, ⟨T39, L39, k39, n39⟩, -, X39, ⟨Lc39, hQ39, l39, y39, z39⟩, st39⟩ := X35.specialBack hx (y := (⟨"com/example/anteroom/anteroom/resolve/DeclaredType$Method", "<init>", "(IZZLcom/example/anteroom/anteroom/resolve/DeclaredType$Access;)V"⟩ : MethodName)) rfl hown (mvT hZ (hw _ (List.mem_of_getElem? (i := 7) rfl))) (mvT hZ (hw _ (List.mem_of_getElem? (i := 8) rfl))) (mvT hZ (hw _ (List.mem_of_getElem? (i := 9) rfl))) (by decide) (backOf (W := 1) (own_init l Z a0 hw [] (b35) (pp) (va) (st) (ac) h35 n0 (O0.keep K38 all0) (A35) (g36) ((D35 (Or.inr (hw _ (List.mem_of_getElem? (i := 19) rfl))) (ty := .int) (by decide))) ((D35 (Or.inr (hw _ (List.mem_of_getElem? (i := 21) rfl))) (ty := .boolean) (by decide))) ((D35 (Or.inr (hw _ (List.mem_of_getElem? (i := 23) rfl))) (ty := .boolean) (by decide))) ((D35 (Or.inr (hw _ (List.mem_of_getElem? (i := 25) rfl))) (ty := (.object "com/example/anteroom/anteroom/resolve/DeclaredType$Access")) (by decide)))) hZ (hw _ (List.mem_of_getElem? (i := 9) rfl)) (hw _ (List.mem_of_getElem? (i := 6) rfl)) (by decide) (by decide)) (g := (mkF m 109 #[.val (.int k), .val (.int g), .val (.int f), .val (.int pp), .val (.int va), .val (.int st), .val (.int (((f.toUInt32 >>> ((2 : Int32) &&& 31).toUInt32).toInt32) &&& (3 : Int32))), .val (.ref ac), .val (.int md), .val (.int ar), .unset, .unset] [(.ref ac), (.int st), (.int va), (.int pp), (.ref b35), (.ref b35)])) rfl (by rw [hml]; rfl) (Steps.refl _) (a := b35) (argsL := [(.int pp), (.int va), (.int st), (.ref ac)]) (rest := [(.ref b35)]) (lenOf own_pd1 rfl) rfl (by show 2 * 0 + _ ≤ _; exact Nat.le_of_eq rfl) (hb hby at_109) (fun _ _ => ⟨rfl, e35, (by decide : 1 + 0 ≤ _), (by decide : 4 + 0 ≤ _)⟩)
  dsimp only [Pt.U, Pt.locs, Pt.cells, Pt.slots] at X39 l39 y39 z39 st39 hQ39
  subst l39 y39 z39
  obtain ⟨rfl, Nq39, Kq39, po39_0, po39_1, po39_2⟩ := hQ39
  have N39 := Fr.app N30 Nq39
  have K40 : Keep h0 T39.heap [] := K38.trans Kq39 (allS (Or.inr b37) all0)
  have r41 : GoTo p.tables e below s₁ (own_F_own_law m k g f) T39 (mkF m 117 #[.val (.int k), .val (.int g), .val (.int f), .val (.int pp), .val (.int va), .val (.int st), .val (.int (((f.toUInt32 >>> ((2 : Int32) &&& 31).toUInt32).toInt32) &&& (3 : Int32))), .val (.ref ac), .val (.int md), .val (.int ar), .val (.ref b35), .unset] [(.int pp), (.int ar)]) := fun tt_ kk_ => r34 tt_ (by
      show Steps p.tables e below (T30.setTop (mkF m 98 #[.val (.int k), .val (.int g), .val (.int f), .val (.int pp), .val (.int va), .val (.int st), .val (.int (((f.toUInt32 >>> ((2 : Int32) &&& 31).toUInt32).toInt32) &&& (3 : Int32))), .val (.ref ac), .val (.int md), .val (.int ar), .unset, .unset] [])) _
      refine st35 _ ?_
      show Steps p.tables e below (T35.setTop (mkF m 101 #[.val (.int k), .val (.int g), .val (.int f), .val (.int pp), .val (.int va), .val (.int st), .val (.int (((f.toUInt32 >>> ((2 : Int32) &&& 31).toUInt32).toInt32) &&& (3 : Int32))), .val (.ref ac), .val (.int md), .val (.int ar), .unset, .unset] [(.ref b35)])) _
      refine XS.dup X35.here hx rfl (hb hby at_101) rfl rfl ?_
      show Steps p.tables e below (T35.setTop (mkF m 102 #[.val (.int k), .val (.int g), .val (.int f), .val (.int pp), .val (.int va), .val (.int st), .val (.int (((f.toUInt32 >>> ((2 : Int32) &&& 31).toUInt32).toInt32) &&& (3 : Int32))), .val (.ref ac), .val (.int md), .val (.int ar), .unset, .unset] [(.ref b35), (.ref b35)])) _
      refine XS.iloadN X35.here hx rfl (hb hby at_102) rfl ?_
      show Steps p.tables e below (T35.setTop (mkF m 103 #[.val (.int k), .val (.int g), .val (.int f), .val (.int pp), .val (.int va), .val (.int st), .val (.int (((f.toUInt32 >>> ((2 : Int32) &&& 31).toUInt32).toInt32) &&& (3 : Int32))), .val (.ref ac), .val (.int md), .val (.int ar), .unset, .unset] [(.int pp), (.ref b35), (.ref b35)])) _
      refine XS.iload X35.here hx rfl (hb hby at_103) rfl ?_
      show Steps p.tables e below (T35.setTop (mkF m 105 #[.val (.int k), .val (.int g), .val (.int f), .val (.int pp), .val (.int va), .val (.int st), .val (.int (((f.toUInt32 >>> ((2 : Int32) &&& 31).toUInt32).toInt32) &&& (3 : Int32))), .val (.ref ac), .val (.int md), .val (.int ar), .unset, .unset] [(.int va), (.int pp), (.ref b35), (.ref b35)])) _
      refine XS.iload X35.here hx rfl (hb hby at_105) rfl ?_
      show Steps p.tables e below (T35.setTop (mkF m 107 #[.val (.int k), .val (.int g), .val (.int f), .val (.int pp), .val (.int va), .val (.int st), .val (.int (((f.toUInt32 >>> ((2 : Int32) &&& 31).toUInt32).toInt32) &&& (3 : Int32))), .val (.ref ac), .val (.int md), .val (.int ar), .unset, .unset] [(.int st), (.int va), (.int pp), (.ref b35), (.ref b35)])) _
      refine XS.aload X35.here hx rfl (hb hby at_107) rfl rfl ?_
      show Steps p.tables e below (T35.setTop (mkF m 109 #[.val (.int k), .val (.int g), .val (.int f), .val (.int pp), .val (.int va), .val (.int st), .val (.int (((f.toUInt32 >>> ((2 : Int32) &&& 31).toUInt32).toInt32) &&& (3 : Int32))), .val (.ref ac), .val (.int md), .val (.int ar), .unset, .unset] [(.ref ac), (.int st), (.int va), (.int pp), (.ref b35), (.ref b35)])) _
      refine st39.trans ?_
      show Steps p.tables e below (T39.setTop (mkF m 112 #[.val (.int k), .val (.int g), .val (.int f), .val (.int pp), .val (.int va), .val (.int st), .val (.int (((f.toUInt32 >>> ((2 : Int32) &&& 31).toUInt32).toInt32) &&& (3 : Int32))), .val (.ref ac), .val (.int md), .val (.int ar), .unset, .unset] [(.ref b35)])) _
      refine XS.astore X39.here hx rfl (hb hby at_112) rfl rfl (l' := #[.val (.int k), .val (.int g), .val (.int f), .val (.int pp), .val (.int va), .val (.int st), .val (.int (((f.toUInt32 >>> ((2 : Int32) &&& 31).toUInt32).toInt32) &&& (3 : Int32))), .val (.ref ac), .val (.int md), .val (.int ar), .val (.ref b35), .unset]) rfl ?_
      show Steps p.tables e below (T39.setTop (mkF m 114 #[.val (.int k), .val (.int g), .val (.int f), .val (.int pp), .val (.int va), .val (.int st), .val (.int (((f.toUInt32 >>> ((2 : Int32) &&& 31).toUInt32).toInt32) &&& (3 : Int32))), .val (.ref ac), .val (.int md), .val (.int ar), .val (.ref b35), .unset] [])) _
      refine XS.iload X39.here hx rfl (hb hby at_114) rfl ?_
      show Steps p.tables e below (T39.setTop (mkF m 116 #[.val (.int k), .val (.int g), .val (.int f), .val (.int pp), .val (.int va), .val (.int st), .val (.int (((f.toUInt32 >>> ((2 : Int32) &&& 31).toUInt32).toInt32) &&& (3 : Int32))), .val (.ref ac), .val (.int md), .val (.int ar), .val (.ref b35), .unset] [(.int ar)])) _
      refine XS.iloadN X39.here hx rfl (hb hby at_116) rfl ?_
      show Steps p.tables e below (T39.setTop (mkF m 117 #[.val (.int k), .val (.int g), .val (.int f), .val (.int pp), .val (.int va), .val (.int st), .val (.int (((f.toUInt32 >>> ((2 : Int32) &&& 31).toUInt32).toInt32) &&& (3 : Int32))), .val (.ref ac), .val (.int md), .val (.int ar), .val (.ref b35), .unset] [(.int pp), (.int ar)])) _
      exact kk_)
  obtain ⟨T42, Lj42, X42, N42, e42, r42⟩ : ∃ (T' : State) (L' : List Loc), Stand p l e room_1 s m #[(.int k), (.int g), (.int f)] below meth c T' L' 1 4 ∧ Fr n0 L' ∧ T'.heap = T39.heap ∧ GoTo p.tables e below s₁ (own_F_own_law m k g f) T' (mkF m 144 #[.val (.int k), .val (.int g), .val (.int f), .val (.int pp), .val (.int va), .val (.int st), .val (.int (((f.toUInt32 >>> ((2 : Int32) &&& 31).toUInt32).toInt32) &&& (3 : Int32))), .val (.ref ac), .val (.int md), .val (.int ar), .val (.ref b35), .unset] [(.int (if ar = pp then (1 : Int32) else (if va = (0 : Int32) then (0 : Int32) else (if pp < ar then (1 : Int32) else (if ar = (pp - (1 : Int32)) then (1 : Int32) else (0 : Int32))))))]) := by
    by_cases hc43 : ar = pp
    · have r44 : GoTo p.tables e below s₁ (own_F_own_law m k g f) T39 (mkF m 144 #[.val (.int k), .val (.int g), .val (.int f), .val (.int pp), .val (.int va), .val (.int st), .val (.int (((f.toUInt32 >>> ((2 : Int32) &&& 31).toUInt32).toInt32) &&& (3 : Int32))), .val (.ref ac), .val (.int md), .val (.int ar), .val (.ref b35), .unset] [(.int (1 : Int32))]) := fun tt_ kk_ => r41 tt_ (by
          show Steps p.tables e below (T39.setTop (mkF m 117 #[.val (.int k), .val (.int g), .val (.int f), .val (.int pp), .val (.int va), .val (.int st), .val (.int (((f.toUInt32 >>> ((2 : Int32) &&& 31).toUInt32).toInt32) &&& (3 : Int32))), .val (.ref ac), .val (.int md), .val (.int ar), .val (.ref b35), .unset] [(.int pp), (.int ar)])) _
          refine XS.icmpYes X39.here hx rfl (pc0 := 117) (pc' := 139) rfl (hb hby at_117) rfl (teq hc43).1 (by decide) (by decide) ?_
          show Steps p.tables e below (T39.setTop (mkF m 139 #[.val (.int k), .val (.int g), .val (.int f), .val (.int pp), .val (.int va), .val (.int st), .val (.int (((f.toUInt32 >>> ((2 : Int32) &&& 31).toUInt32).toInt32) &&& (3 : Int32))), .val (.ref ac), .val (.int md), .val (.int ar), .val (.ref b35), .unset] [])) _
          refine XS.iconst X39.here hx rfl (hb hby at_139) ?_
          show Steps p.tables e below (T39.setTop (mkF m 140 #[.val (.int k), .val (.int g), .val (.int f), .val (.int pp), .val (.int va), .val (.int st), .val (.int (((f.toUInt32 >>> ((2 : Int32) &&& 31).toUInt32).toInt32) &&& (3 : Int32))), .val (.ref ac), .val (.int md), .val (.int ar), .val (.ref b35), .unset] [(.int (1 : Int32))])) _
          refine XS.goto X39.here hx rfl (pc0 := 140) (pc' := 144) rfl (hb hby at_140) (by decide) (by decide) ?_
          show Steps p.tables e below (T39.setTop (mkF m 144 #[.val (.int k), .val (.int g), .val (.int f), .val (.int pp), .val (.int va), .val (.int st), .val (.int (((f.toUInt32 >>> ((2 : Int32) &&& 31).toUInt32).toInt32) &&& (3 : Int32))), .val (.ref ac), .val (.int md), .val (.int ar), .val (.ref b35), .unset] [(.int (1 : Int32))])) _
          exact kk_)
      exact ⟨T39, _, X39, N39, rfl, by rw [show (if ar = pp then (1 : Int32) else (if va = (0 : Int32) then (0 : Int32) else (if pp < ar then (1 : Int32) else (if ar = (pp - (1 : Int32)) then (1 : Int32) else (0 : Int32))))) = (1 : Int32) from (if_pos hc43)]; exact r44⟩
    · have r45 : GoTo p.tables e below s₁ (own_F_own_law m k g f) T39 (mkF m 122 #[.val (.int k), .val (.int g), .val (.int f), .val (.int pp), .val (.int va), .val (.int st), .val (.int (((f.toUInt32 >>> ((2 : Int32) &&& 31).toUInt32).toInt32) &&& (3 : Int32))), .val (.ref ac), .val (.int md), .val (.int ar), .val (.ref b35), .unset] [(.int va)]) := fun tt_ kk_ => r41 tt_ (by
          show Steps p.tables e below (T39.setTop (mkF m 117 #[.val (.int k), .val (.int g), .val (.int f), .val (.int pp), .val (.int va), .val (.int st), .val (.int (((f.toUInt32 >>> ((2 : Int32) &&& 31).toUInt32).toInt32) &&& (3 : Int32))), .val (.ref ac), .val (.int md), .val (.int ar), .val (.ref b35), .unset] [(.int pp), (.int ar)])) _
          refine XS.icmpNo X39.here hx rfl (hb hby at_117) rfl (feq hc43).1 ?_
          show Steps p.tables e below (T39.setTop (mkF m 120 #[.val (.int k), .val (.int g), .val (.int f), .val (.int pp), .val (.int va), .val (.int st), .val (.int (((f.toUInt32 >>> ((2 : Int32) &&& 31).toUInt32).toInt32) &&& (3 : Int32))), .val (.ref ac), .val (.int md), .val (.int ar), .val (.ref b35), .unset] [])) _
          refine XS.iload X39.here hx rfl (hb hby at_120) rfl ?_
          show Steps p.tables e below (T39.setTop (mkF m 122 #[.val (.int k), .val (.int g), .val (.int f), .val (.int pp), .val (.int va), .val (.int st), .val (.int (((f.toUInt32 >>> ((2 : Int32) &&& 31).toUInt32).toInt32) &&& (3 : Int32))), .val (.ref ac), .val (.int md), .val (.int ar), .val (.ref b35), .unset] [(.int va)])) _
          exact kk_)
      by_cases hc46 : va = (0 : Int32)
      · have r47 : GoTo p.tables e below s₁ (own_F_own_law m k g f) T39 (mkF m 144 #[.val (.int k), .val (.int g), .val (.int f), .val (.int pp), .val (.int va), .val (.int st), .val (.int (((f.toUInt32 >>> ((2 : Int32) &&& 31).toUInt32).toInt32) &&& (3 : Int32))), .val (.ref ac), .val (.int md), .val (.int ar), .val (.ref b35), .unset] [(.int (0 : Int32))]) := fun tt_ kk_ => r45 tt_ (by
            show Steps p.tables e below (T39.setTop (mkF m 122 #[.val (.int k), .val (.int g), .val (.int f), .val (.int pp), .val (.int va), .val (.int st), .val (.int (((f.toUInt32 >>> ((2 : Int32) &&& 31).toUInt32).toInt32) &&& (3 : Int32))), .val (.ref ac), .val (.int md), .val (.int ar), .val (.ref b35), .unset] [(.int va)])) _
            refine XS.ifYes X39.here hx rfl (pc0 := 122) (pc' := 143) rfl (hb hby at_122) rfl ((if0 _ _).trans (teq hc46).1) (by decide) (by decide) ?_
            show Steps p.tables e below (T39.setTop (mkF m 143 #[.val (.int k), .val (.int g), .val (.int f), .val (.int pp), .val (.int va), .val (.int st), .val (.int (((f.toUInt32 >>> ((2 : Int32) &&& 31).toUInt32).toInt32) &&& (3 : Int32))), .val (.ref ac), .val (.int md), .val (.int ar), .val (.ref b35), .unset] [])) _
            refine XS.iconst X39.here hx rfl (hb hby at_143) ?_
            show Steps p.tables e below (T39.setTop (mkF m 144 #[.val (.int k), .val (.int g), .val (.int f), .val (.int pp), .val (.int va), .val (.int st), .val (.int (((f.toUInt32 >>> ((2 : Int32) &&& 31).toUInt32).toInt32) &&& (3 : Int32))), .val (.ref ac), .val (.int md), .val (.int ar), .val (.ref b35), .unset] [(.int (0 : Int32))])) _
            exact kk_)
        exact ⟨T39, _, X39, N39, rfl, by rw [show (if ar = pp then (1 : Int32) else (if va = (0 : Int32) then (0 : Int32) else (if pp < ar then (1 : Int32) else (if ar = (pp - (1 : Int32)) then (1 : Int32) else (0 : Int32))))) = (0 : Int32) from ((if_neg hc43).trans (if_pos hc46))]; exact r47⟩
      · have r48 : GoTo p.tables e below s₁ (own_F_own_law m k g f) T39 (mkF m 128 #[.val (.int k), .val (.int g), .val (.int f), .val (.int pp), .val (.int va), .val (.int st), .val (.int (((f.toUInt32 >>> ((2 : Int32) &&& 31).toUInt32).toInt32) &&& (3 : Int32))), .val (.ref ac), .val (.int md), .val (.int ar), .val (.ref b35), .unset] [(.int pp), (.int ar)]) := fun tt_ kk_ => r45 tt_ (by
            show Steps p.tables e below (T39.setTop (mkF m 122 #[.val (.int k), .val (.int g), .val (.int f), .val (.int pp), .val (.int va), .val (.int st), .val (.int (((f.toUInt32 >>> ((2 : Int32) &&& 31).toUInt32).toInt32) &&& (3 : Int32))), .val (.ref ac), .val (.int md), .val (.int ar), .val (.ref b35), .unset] [(.int va)])) _
            refine XS.ifNo X39.here hx rfl (hb hby at_122) rfl ((if0 _ _).trans (feq hc46).1) ?_
            show Steps p.tables e below (T39.setTop (mkF m 125 #[.val (.int k), .val (.int g), .val (.int f), .val (.int pp), .val (.int va), .val (.int st), .val (.int (((f.toUInt32 >>> ((2 : Int32) &&& 31).toUInt32).toInt32) &&& (3 : Int32))), .val (.ref ac), .val (.int md), .val (.int ar), .val (.ref b35), .unset] [])) _
            refine XS.iload X39.here hx rfl (hb hby at_125) rfl ?_
            show Steps p.tables e below (T39.setTop (mkF m 127 #[.val (.int k), .val (.int g), .val (.int f), .val (.int pp), .val (.int va), .val (.int st), .val (.int (((f.toUInt32 >>> ((2 : Int32) &&& 31).toUInt32).toInt32) &&& (3 : Int32))), .val (.ref ac), .val (.int md), .val (.int ar), .val (.ref b35), .unset] [(.int ar)])) _
            refine XS.iloadN X39.here hx rfl (hb hby at_127) rfl ?_
            show Steps p.tables e below (T39.setTop (mkF m 128 #[.val (.int k), .val (.int g), .val (.int f), .val (.int pp), .val (.int va), .val (.int st), .val (.int (((f.toUInt32 >>> ((2 : Int32) &&& 31).toUInt32).toInt32) &&& (3 : Int32))), .val (.ref ac), .val (.int md), .val (.int ar), .val (.ref b35), .unset] [(.int pp), (.int ar)])) _
            exact kk_)
        by_cases hc49 : pp < ar
        · have r50 : GoTo p.tables e below s₁ (own_F_own_law m k g f) T39 (mkF m 144 #[.val (.int k), .val (.int g), .val (.int f), .val (.int pp), .val (.int va), .val (.int st), .val (.int (((f.toUInt32 >>> ((2 : Int32) &&& 31).toUInt32).toInt32) &&& (3 : Int32))), .val (.ref ac), .val (.int md), .val (.int ar), .val (.ref b35), .unset] [(.int (1 : Int32))]) := fun tt_ kk_ => r48 tt_ (by
              show Steps p.tables e below (T39.setTop (mkF m 128 #[.val (.int k), .val (.int g), .val (.int f), .val (.int pp), .val (.int va), .val (.int st), .val (.int (((f.toUInt32 >>> ((2 : Int32) &&& 31).toUInt32).toInt32) &&& (3 : Int32))), .val (.ref ac), .val (.int md), .val (.int ar), .val (.ref b35), .unset] [(.int pp), (.int ar)])) _
              refine XS.icmpYes X39.here hx rfl (pc0 := 128) (pc' := 139) rfl (hb hby at_128) rfl (tlt hc49).2.2.1 (by decide) (by decide) ?_
              show Steps p.tables e below (T39.setTop (mkF m 139 #[.val (.int k), .val (.int g), .val (.int f), .val (.int pp), .val (.int va), .val (.int st), .val (.int (((f.toUInt32 >>> ((2 : Int32) &&& 31).toUInt32).toInt32) &&& (3 : Int32))), .val (.ref ac), .val (.int md), .val (.int ar), .val (.ref b35), .unset] [])) _
              refine XS.iconst X39.here hx rfl (hb hby at_139) ?_
              show Steps p.tables e below (T39.setTop (mkF m 140 #[.val (.int k), .val (.int g), .val (.int f), .val (.int pp), .val (.int va), .val (.int st), .val (.int (((f.toUInt32 >>> ((2 : Int32) &&& 31).toUInt32).toInt32) &&& (3 : Int32))), .val (.ref ac), .val (.int md), .val (.int ar), .val (.ref b35), .unset] [(.int (1 : Int32))])) _
              refine XS.goto X39.here hx rfl (pc0 := 140) (pc' := 144) rfl (hb hby at_140) (by decide) (by decide) ?_
              show Steps p.tables e below (T39.setTop (mkF m 144 #[.val (.int k), .val (.int g), .val (.int f), .val (.int pp), .val (.int va), .val (.int st), .val (.int (((f.toUInt32 >>> ((2 : Int32) &&& 31).toUInt32).toInt32) &&& (3 : Int32))), .val (.ref ac), .val (.int md), .val (.int ar), .val (.ref b35), .unset] [(.int (1 : Int32))])) _
              exact kk_)
          exact ⟨T39, _, X39, N39, rfl, by rw [show (if ar = pp then (1 : Int32) else (if va = (0 : Int32) then (0 : Int32) else (if pp < ar then (1 : Int32) else (if ar = (pp - (1 : Int32)) then (1 : Int32) else (0 : Int32))))) = (1 : Int32) from (((if_neg hc43).trans (if_neg hc46)).trans (if_pos hc49))]; exact r50⟩
        · have r51 : GoTo p.tables e below s₁ (own_F_own_law m k g f) T39 (mkF m 136 #[.val (.int k), .val (.int g), .val (.int f), .val (.int pp), .val (.int va), .val (.int st), .val (.int (((f.toUInt32 >>> ((2 : Int32) &&& 31).toUInt32).toInt32) &&& (3 : Int32))), .val (.ref ac), .val (.int md), .val (.int ar), .val (.ref b35), .unset] [(.int (pp - (1 : Int32))), (.int ar)]) := fun tt_ kk_ => r48 tt_ (by
              show Steps p.tables e below (T39.setTop (mkF m 128 #[.val (.int k), .val (.int g), .val (.int f), .val (.int pp), .val (.int va), .val (.int st), .val (.int (((f.toUInt32 >>> ((2 : Int32) &&& 31).toUInt32).toInt32) &&& (3 : Int32))), .val (.ref ac), .val (.int md), .val (.int ar), .val (.ref b35), .unset] [(.int pp), (.int ar)])) _
              refine XS.icmpNo X39.here hx rfl (hb hby at_128) rfl (flt hc49).2.2.1 ?_
              show Steps p.tables e below (T39.setTop (mkF m 131 #[.val (.int k), .val (.int g), .val (.int f), .val (.int pp), .val (.int va), .val (.int st), .val (.int (((f.toUInt32 >>> ((2 : Int32) &&& 31).toUInt32).toInt32) &&& (3 : Int32))), .val (.ref ac), .val (.int md), .val (.int ar), .val (.ref b35), .unset] [])) _
              refine XS.iload X39.here hx rfl (hb hby at_131) rfl ?_
              show Steps p.tables e below (T39.setTop (mkF m 133 #[.val (.int k), .val (.int g), .val (.int f), .val (.int pp), .val (.int va), .val (.int st), .val (.int (((f.toUInt32 >>> ((2 : Int32) &&& 31).toUInt32).toInt32) &&& (3 : Int32))), .val (.ref ac), .val (.int md), .val (.int ar), .val (.ref b35), .unset] [(.int ar)])) _
              refine XS.iloadN X39.here hx rfl (hb hby at_133) rfl ?_
              show Steps p.tables e below (T39.setTop (mkF m 134 #[.val (.int k), .val (.int g), .val (.int f), .val (.int pp), .val (.int va), .val (.int st), .val (.int (((f.toUInt32 >>> ((2 : Int32) &&& 31).toUInt32).toInt32) &&& (3 : Int32))), .val (.ref ac), .val (.int md), .val (.int ar), .val (.ref b35), .unset] [(.int pp), (.int ar)])) _
              refine XS.iconst X39.here hx rfl (hb hby at_134) ?_
              show Steps p.tables e below (T39.setTop (mkF m 135 #[.val (.int k), .val (.int g), .val (.int f), .val (.int pp), .val (.int va), .val (.int st), .val (.int (((f.toUInt32 >>> ((2 : Int32) &&& 31).toUInt32).toInt32) &&& (3 : Int32))), .val (.ref ac), .val (.int md), .val (.int ar), .val (.ref b35), .unset] [(.int (1 : Int32)), (.int pp), (.int ar)])) _
              refine XS.isub X39.here hx rfl (hb hby at_135) rfl ?_
              show Steps p.tables e below (T39.setTop (mkF m 136 #[.val (.int k), .val (.int g), .val (.int f), .val (.int pp), .val (.int va), .val (.int st), .val (.int (((f.toUInt32 >>> ((2 : Int32) &&& 31).toUInt32).toInt32) &&& (3 : Int32))), .val (.ref ac), .val (.int md), .val (.int ar), .val (.ref b35), .unset] [(.int (pp - (1 : Int32))), (.int ar)])) _
              exact kk_)
          by_cases hc52 : ar = (pp - (1 : Int32))
          · have r53 : GoTo p.tables e below s₁ (own_F_own_law m k g f) T39 (mkF m 144 #[.val (.int k), .val (.int g), .val (.int f), .val (.int pp), .val (.int va), .val (.int st), .val (.int (((f.toUInt32 >>> ((2 : Int32) &&& 31).toUInt32).toInt32) &&& (3 : Int32))), .val (.ref ac), .val (.int md), .val (.int ar), .val (.ref b35), .unset] [(.int (1 : Int32))]) := fun tt_ kk_ => r51 tt_ (by
                show Steps p.tables e below (T39.setTop (mkF m 136 #[.val (.int k), .val (.int g), .val (.int f), .val (.int pp), .val (.int va), .val (.int st), .val (.int (((f.toUInt32 >>> ((2 : Int32) &&& 31).toUInt32).toInt32) &&& (3 : Int32))), .val (.ref ac), .val (.int md), .val (.int ar), .val (.ref b35), .unset] [(.int (pp - (1 : Int32))), (.int ar)])) _
                refine XS.icmpNo X39.here hx rfl (hb hby at_136) rfl (teq hc52).2 ?_
                show Steps p.tables e below (T39.setTop (mkF m 139 #[.val (.int k), .val (.int g), .val (.int f), .val (.int pp), .val (.int va), .val (.int st), .val (.int (((f.toUInt32 >>> ((2 : Int32) &&& 31).toUInt32).toInt32) &&& (3 : Int32))), .val (.ref ac), .val (.int md), .val (.int ar), .val (.ref b35), .unset] [])) _
                refine XS.iconst X39.here hx rfl (hb hby at_139) ?_
                show Steps p.tables e below (T39.setTop (mkF m 140 #[.val (.int k), .val (.int g), .val (.int f), .val (.int pp), .val (.int va), .val (.int st), .val (.int (((f.toUInt32 >>> ((2 : Int32) &&& 31).toUInt32).toInt32) &&& (3 : Int32))), .val (.ref ac), .val (.int md), .val (.int ar), .val (.ref b35), .unset] [(.int (1 : Int32))])) _
                refine XS.goto X39.here hx rfl (pc0 := 140) (pc' := 144) rfl (hb hby at_140) (by decide) (by decide) ?_
                show Steps p.tables e below (T39.setTop (mkF m 144 #[.val (.int k), .val (.int g), .val (.int f), .val (.int pp), .val (.int va), .val (.int st), .val (.int (((f.toUInt32 >>> ((2 : Int32) &&& 31).toUInt32).toInt32) &&& (3 : Int32))), .val (.ref ac), .val (.int md), .val (.int ar), .val (.ref b35), .unset] [(.int (1 : Int32))])) _
                exact kk_)
            exact ⟨T39, _, X39, N39, rfl, by rw [show (if ar = pp then (1 : Int32) else (if va = (0 : Int32) then (0 : Int32) else (if pp < ar then (1 : Int32) else (if ar = (pp - (1 : Int32)) then (1 : Int32) else (0 : Int32))))) = (1 : Int32) from ((((if_neg hc43).trans (if_neg hc46)).trans (if_neg hc49)).trans (if_pos hc52))]; exact r53⟩
          · have r54 : GoTo p.tables e below s₁ (own_F_own_law m k g f) T39 (mkF m 144 #[.val (.int k), .val (.int g), .val (.int f), .val (.int pp), .val (.int va), .val (.int st), .val (.int (((f.toUInt32 >>> ((2 : Int32) &&& 31).toUInt32).toInt32) &&& (3 : Int32))), .val (.ref ac), .val (.int md), .val (.int ar), .val (.ref b35), .unset] [(.int (0 : Int32))]) := fun tt_ kk_ => r51 tt_ (by
                show Steps p.tables e below (T39.setTop (mkF m 136 #[.val (.int k), .val (.int g), .val (.int f), .val (.int pp), .val (.int va), .val (.int st), .val (.int (((f.toUInt32 >>> ((2 : Int32) &&& 31).toUInt32).toInt32) &&& (3 : Int32))), .val (.ref ac), .val (.int md), .val (.int ar), .val (.ref b35), .unset] [(.int (pp - (1 : Int32))), (.int ar)])) _
                refine XS.icmpYes X39.here hx rfl (pc0 := 136) (pc' := 143) rfl (hb hby at_136) rfl (feq hc52).2 (by decide) (by decide) ?_
                show Steps p.tables e below (T39.setTop (mkF m 143 #[.val (.int k), .val (.int g), .val (.int f), .val (.int pp), .val (.int va), .val (.int st), .val (.int (((f.toUInt32 >>> ((2 : Int32) &&& 31).toUInt32).toInt32) &&& (3 : Int32))), .val (.ref ac), .val (.int md), .val (.int ar), .val (.ref b35), .unset] [])) _
                refine XS.iconst X39.here hx rfl (hb hby at_143) ?_
                show Steps p.tables e below (T39.setTop (mkF m 144 #[.val (.int k), .val (.int g), .val (.int f), .val (.int pp), .val (.int va), .val (.int st), .val (.int (((f.toUInt32 >>> ((2 : Int32) &&& 31).toUInt32).toInt32) &&& (3 : Int32))), .val (.ref ac), .val (.int md), .val (.int ar), .val (.ref b35), .unset] [(.int (0 : Int32))])) _
                exact kk_)
            exact ⟨T39, _, X39, N39, rfl, by rw [show (if ar = pp then (1 : Int32) else (if va = (0 : Int32) then (0 : Int32) else (if pp < ar then (1 : Int32) else (if ar = (pp - (1 : Int32)) then (1 : Int32) else (0 : Int32))))) = (0 : Int32) from ((((if_neg hc43).trans (if_neg hc46)).trans (if_neg hc49)).trans (if_neg hc52))]; exact r54⟩
  obtain ⟨ex, h_ex⟩ : ∃ z : Int32, z = (if ar = pp then (1 : Int32) else (if va = (0 : Int32) then (0 : Int32) else (if pp < ar then (1 : Int32) else (if ar = (pp - (1 : Int32)) then (1 : Int32) else (0 : Int32))))) := ⟨_, rfl⟩
  have r55 : GoTo p.tables e below s₁ (own_F_own_law m k g f) T42 (mkF m 144 #[.val (.int k), .val (.int g), .val (.int f), .val (.int pp), .val (.int va), .val (.int st), .val (.int (((f.toUInt32 >>> ((2 : Int32) &&& 31).toUInt32).toInt32) &&& (3 : Int32))), .val (.ref ac), .val (.int md), .val (.int ar), .val (.ref b35), .unset] [(.int ex)]) := by rw [h_ex]; exact r42
  obtain ⟨cq56, kq56, qa56, qb56, qc56⟩ := isOf hZ e42 po39_0
  obtain ⟨_, _, ⟨T56, L56, k56, n56⟩, -, X56, ⟨Lc56, hQ56, l56, y56, z56⟩, st56⟩ := X42.virtualBack hx (y := (⟨"com/example/anteroom/anteroom/resolve/DeclaredType$Method", "accepts", "(I)Z"⟩ : MethodName)) (z := (⟨"com/example/anteroom/anteroom/resolve/DeclaredType$Method", "accepts", "(I)Z"⟩ : MethodName)) hown (mvT hZ (hw _ (List.mem_of_getElem? (i := 26) rfl))) (mvT hZ (hw _ (List.mem_of_getElem? (i := 27) rfl))) (notFace_of_selects (args := #[]) (mvT hZ (hw _ (List.mem_of_getElem? (i := 29) rfl)))) (mvT hZ (hw _ (List.mem_of_getElem? (i := 29) rfl))) (mvT hZ (hw _ (List.mem_of_getElem? (i := 28) rfl))) (by decide) (backOf (W := 0) (own_acc l Z a0 hw [] (b35) (ar) (pp) ((nar .boolean va)) T39.heap n0 (O0.keep K40 all0) (po39_1) (po39_2)) hZ (hw _ (List.mem_of_getElem? (i := 30) rfl)) (hw _ (List.mem_of_getElem? (i := 6) rfl)) (by decide) (by decide)) qa56 qc56 (g := (mkF m 150 #[.val (.int k), .val (.int g), .val (.int f), .val (.int pp), .val (.int va), .val (.int st), .val (.int (((f.toUInt32 >>> ((2 : Int32) &&& 31).toUInt32).toInt32) &&& (3 : Int32))), .val (.ref ac), .val (.int md), .val (.int ar), .val (.ref b35), .val (.int ex)] [(.int ar), (.ref b35)])) rfl (by rw [hml]; rfl) (Steps.refl _) (argsL := [(.int ar)]) (rest := []) (lenOf own_pd2 rfl) rfl (by show 2 * 0 + _ ≤ _; exact Nat.le_of_eq rfl) (hb hby at_150) (fun _ _ => ⟨rfl, e42, (by decide : 1 + 0 ≤ _), (by decide : 4 + 0 ≤ _)⟩)
  dsimp only [Pt.U, Pt.locs, Pt.cells, Pt.slots] at X56 l56 y56 z56 st56 hQ56
  subst l56 y56 z56
  obtain ⟨rfl, Nq56, hh56⟩ := hQ56
  have N56 := Fr.app N42 Nq56
  obtain ⟨fs, hr, hrun, hended, hW, hsame⟩ := X56.leave (v := some (.int (nar .boolean (1 : Int32)))) (fun h => by rw [Bd.returns] at h; cases h)
  refine ⟨_, _, r55 _ ?_, hrun, hended, _, _, rfl, ?_, ⟨_, rfl⟩, hW, hsame.mono (by decide) (by decide)⟩
  · show Steps p.tables e below (T42.setTop (mkF m 144 #[.val (.int k), .val (.int g), .val (.int f), .val (.int pp), .val (.int va), .val (.int st), .val (.int (((f.toUInt32 >>> ((2 : Int32) &&& 31).toUInt32).toInt32) &&& (3 : Int32))), .val (.ref ac), .val (.int md), .val (.int ar), .val (.ref b35), .unset] [(.int ex)])) _
    refine XS.istore X42.here hx rfl (hb hby at_144) rfl (l' := #[.val (.int k), .val (.int g), .val (.int f), .val (.int pp), .val (.int va), .val (.int st), .val (.int (((f.toUInt32 >>> ((2 : Int32) &&& 31).toUInt32).toInt32) &&& (3 : Int32))), .val (.ref ac), .val (.int md), .val (.int ar), .val (.ref b35), .val (.int ex)]) rfl ?_
    show Steps p.tables e below (T42.setTop (mkF m 146 #[.val (.int k), .val (.int g), .val (.int f), .val (.int pp), .val (.int va), .val (.int st), .val (.int (((f.toUInt32 >>> ((2 : Int32) &&& 31).toUInt32).toInt32) &&& (3 : Int32))), .val (.ref ac), .val (.int md), .val (.int ar), .val (.ref b35), .val (.int ex)] [])) _
    refine XS.aload X42.here hx rfl (hb hby at_146) rfl rfl ?_
    show Steps p.tables e below (T42.setTop (mkF m 148 #[.val (.int k), .val (.int g), .val (.int f), .val (.int pp), .val (.int va), .val (.int st), .val (.int (((f.toUInt32 >>> ((2 : Int32) &&& 31).toUInt32).toInt32) &&& (3 : Int32))), .val (.ref ac), .val (.int md), .val (.int ar), .val (.ref b35), .val (.int ex)] [(.ref b35)])) _
    refine XS.iload X42.here hx rfl (hb hby at_148) rfl ?_
    show Steps p.tables e below (T42.setTop (mkF m 150 #[.val (.int k), .val (.int g), .val (.int f), .val (.int pp), .val (.int va), .val (.int st), .val (.int (((f.toUInt32 >>> ((2 : Int32) &&& 31).toUInt32).toInt32) &&& (3 : Int32))), .val (.ref ac), .val (.int md), .val (.int ar), .val (.ref b35), .val (.int ex)] [(.int ar), (.ref b35)])) _
    refine st56.trans ?_
    show Steps p.tables e below (T56.setTop (mkF m 153 #[.val (.int k), .val (.int g), .val (.int f), .val (.int pp), .val (.int va), .val (.int st), .val (.int (((f.toUInt32 >>> ((2 : Int32) &&& 31).toUInt32).toInt32) &&& (3 : Int32))), .val (.ref ac), .val (.int md), .val (.int ar), .val (.ref b35), .val (.int ex)] [(.int (if (nar .boolean va) = (0 : Int32) then (if ar = pp then (1 : Int32) else 0) else (if ar < (pp - (1 : Int32)) then (0 : Int32) else 1)))])) _
    refine XS.iload X56.here hx rfl (hb hby at_153) rfl ?_
    show Steps p.tables e below (T56.setTop (mkF m 155 #[.val (.int k), .val (.int g), .val (.int f), .val (.int pp), .val (.int va), .val (.int st), .val (.int (((f.toUInt32 >>> ((2 : Int32) &&& 31).toUInt32).toInt32) &&& (3 : Int32))), .val (.ref ac), .val (.int md), .val (.int ar), .val (.ref b35), .val (.int ex)] [(.int ex), (.int (if (nar .boolean va) = (0 : Int32) then (if ar = pp then (1 : Int32) else 0) else (if ar < (pp - (1 : Int32)) then (0 : Int32) else 1)))])) _
    refine XS.icmpNo X56.here hx rfl (hb hby at_155) rfl (teq (own_plain h_pp h_va h_ex)).2 ?_
    show Steps p.tables e below (T56.setTop (mkF m 158 #[.val (.int k), .val (.int g), .val (.int f), .val (.int pp), .val (.int va), .val (.int st), .val (.int (((f.toUInt32 >>> ((2 : Int32) &&& 31).toUInt32).toInt32) &&& (3 : Int32))), .val (.ref ac), .val (.int md), .val (.int ar), .val (.ref b35), .val (.int ex)] [])) _
    refine XS.iconst X56.here hx rfl (hb hby at_158) ?_
    show Steps p.tables e below (T56.setTop (mkF m 159 #[.val (.int k), .val (.int g), .val (.int f), .val (.int pp), .val (.int va), .val (.int st), .val (.int (((f.toUInt32 >>> ((2 : Int32) &&& 31).toUInt32).toInt32) &&& (3 : Int32))), .val (.ref ac), .val (.int md), .val (.int ar), .val (.ref b35), .val (.int ex)] [(.int (1 : Int32))])) _
    refine XS.goto X56.here hx rfl (pc0 := 159) (pc' := 163) rfl (hb hby at_159) (by decide) (by decide) ?_
    show Steps p.tables e below (T56.setTop (mkF m 163 #[.val (.int k), .val (.int g), .val (.int f), .val (.int pp), .val (.int va), .val (.int st), .val (.int (((f.toUInt32 >>> ((2 : Int32) &&& 31).toUInt32).toInt32) &&& (3 : Int32))), .val (.ref ac), .val (.int md), .val (.int ar), .val (.ref b35), .val (.int ex)] [(.int (1 : Int32))])) _
    exact retN X56 hx (t := .boolean) Bd.returns (by simp) (hb hby at_163) hr
  · show Q_own_law Z k g f u0 u1 u2 h0 n0 _ T56.heap _
    rw [hh56]
    exact ⟨rfl, N56⟩
set_option maxRecDepth 65536 in
set_option maxHeartbeats 40000000 in
theorem comes_1 {Post : Tables → Env → Array Value → State → Outcome → State → Prop} (hpost : ∀ tb e args s v u, (limb_1_1.after args s (.returned v) u = true ∧ limb_1_2.after args s (.returned v) u = true ∧ True) → FrameEnd s (.returned v) u (Jvm.fieldLocs frame_1_writes args s ++ Jvm.arrayLocs frame_1_arrays args s ++ Jvm.staticLocs frame_1_statics s) 16 128 → Post tb e args s (.returned v) u) :
    ArmFor flags0 classFile x code maxLocals ret World_1 tables_1 room_1 Calls_1 rest_1 Pre_1 Post := by
  intro l hfl _ _ p e ha hc hk s m args below hf hA hF happ hP
  obtain ⟨hcalls, hrest, hpre⟩ := hP
  obtain ⟨-, -, -, hnamed, -, -, -, hat⟩ := (Spec.applies_iff hf).mp happ
  obtain ⟨hg, hn⟩ := and_e (Cond.before_iff.mp (show (Jvm.Cond.and given_1 narrow_1).before args s = true from hpre))
  obtain ⟨g0, g1⟩ := and_e hg
  obtain ⟨g1, g2⟩ := and_e g1
  obtain ⟨g2, g3⟩ := and_e g2
  obtain ⟨w0, w1, w2, rfl⟩ : ∃ (w0 : Value) (w1 : Value) (w2 : Value), args = #[w0, w1, w2] := by
    have hs : args.size = 3 := by simpa [Cond.value, given_1] using g0
    obtain ⟨L⟩ := args
    match L, hs with
    | [w0, w1, w2], _ => exact ⟨w0, w1, w2, rfl⟩
  have hw := fun d (hd : d ∈ tables_1) => atoms_spec (ws := Jvm.Cond.code x code maxLocals ret :: tables_1) hat d (List.mem_cons_of_mem _ hd)
  have hfit : Fit s := fun {y c} hc i hi => by
    obtain ⟨ha, rfl⟩ := Array.getElem?_eq_some_iff.mp hc
    have q := List.all_eq_true.mp ((Array.all_eq_true_iff_forall_mem.mp hF) _ (Array.getElem_mem ha)) i (List.mem_range.mpr hi)
    simpa [Array.getElem?_eq_getElem hi] using q
  obtain ⟨i0, ev0⟩ := is_v g1
  obtain rfl : w0 = (.int i0) := Option.some.inj ev0
  obtain ⟨i1, ev1⟩ := is_v g2
  obtain rfl : w1 = (.int i1) := Option.some.inj ev1
  obtain ⟨i2, ev2⟩ := is_v g3
  obtain rfl : w2 = (.int i2) := Option.some.inj ev2
  obtain ⟨n0, hn1⟩ := and_e hn
  obtain ⟨n1, n2⟩ := and_e hn1
  obtain ⟨a_PUBLIC_OR_PROTECTED, ev_PUBLIC_OR_PROTECTED⟩ := exa_v n0
  have X_PUBLIC_OR_PROTECTED := Exa.start ev_PUBLIC_OR_PROTECTED n0
  have S_PUBLIC_OR_PROTECTED := Sta.start ev_PUBLIC_OR_PROTECTED (Or.inr ⟨(hw _ (List.mem_of_getElem? (i := 2) rfl)), (hw _ (List.mem_of_getElem? (i := 3) rfl))⟩)
  obtain ⟨a_PRIVATE, ev_PRIVATE⟩ := exa_v n1
  have X_PRIVATE := Exa.start ev_PRIVATE n1
  have S_PRIVATE := Sta.start ev_PRIVATE (Or.inr ⟨(hw _ (List.mem_of_getElem? (i := 2) rfl)), (hw _ (List.mem_of_getElem? (i := 32) rfl))⟩)
  obtain ⟨a_PACKAGE, ev_PACKAGE⟩ := exa_v n2
  have X_PACKAGE := Exa.start ev_PACKAGE n2
  have S_PACKAGE := Sta.start ev_PACKAGE (Or.inr ⟨(hw _ (List.mem_of_getElem? (i := 2) rfl)), (hw _ (List.mem_of_getElem? (i := 34) rfl))⟩)
  obtain ⟨n, o, h1, h2, h3, _, L, rfl, ⟨rfl, N⟩, hq⟩ := own_law l s _ hw tables_1 i0 i1 i2 a_PUBLIC_OR_PROTECTED a_PACKAGE a_PRIVATE s.heap s.heap.size (Old.start s) S_PUBLIC_OR_PROTECTED S_PACKAGE S_PRIVATE p e ha hc hk s m _ below hf ((Spec.applies_iff_loose hf).mp happ).1 ⟨rfl, State.Warmed39.refl s, rfl⟩ trivial
  refine ⟨n, _, h1, h2, h3, hpost _ _ _ _ _ _ ⟨Cond.after_iff.mpr rfl, Cond.after_iff.mpr (eq_i res_at (Term.int_eval (1)) rfl), trivial⟩ ⟨hq.1, hq.2.1, (hq.2.2.sift fun y hy => Or.inr (N y hy)).mono (by decide) (by decide)⟩⟩
theorem main_1_1 : Claimed_1_1 := comes_1 fun _ _ _ _ _ _ h hF => ⟨h.1, hF⟩
theorem main_1_2 : Claimed_1_2 := comes_1 fun _ _ _ _ _ _ h hF => ⟨h.2.1, hF⟩
end Jvm.Pilot.@@N@@
namespace Jvm.Pilot.@@N@@
open Jvm Jvm.ClassFile Sem Op Lib Jvm.Free Jvm.Stand Jvm.Pilot.@@N@@.Jvm.D
/-! MADE BY PROGRAM (witnessworld.py) out of the Statement's table words and the real class files: 14 classes; the members and pool entries that the words name. The judged class is class 1, her method 1. -/
namespace start1
open Jvm.ClassFile
def u (s : String) : CpInfo := .utf8 (stringToUtf16 s)
/-- a pool by its gaps: so many unusable entries, then the entry; so many at the end -/
def gap : Nat → List CpInfo → List CpInfo
  | 0, r => r
  | n + 1, r => .unusable :: gap n r
def poolList (es : List (Nat × CpInfo)) (last : Nat) : List CpInfo := es.foldr (fun e r => gap e.1 (e.2 :: r)) (gap last [])
def pool (es : List (Nat × CpInfo)) (last : Nat) : Array CpInfo := ⟨poolList es last⟩
def fileOf (pool : Array CpInfo) (this : Nat) (attrs : Array Attribute := #[]) (ms : Array MethodInfo := #[]) (fl : Nat := 33) (sup : Nat := 0) (ifs : Array Nat := #[]) (fds : Array FieldInfo := #[]) : ClassFile where
  minorVersion := 0
  majorVersion := 65
  constantPool := pool
  accessFlags := fl
  thisClass := this
  superClass := sup
  interfaces := ifs
  fields := fds
  methods := ms
  attributes := attrs
def plain (name : String) (sup : Option ClassId) : Class where
  name := name
  kind := .ordinary
  loader := none
  accessFlags := 33
  super := sup
  interfaces := #[]
  cf := none
  fields := #[]
  methods := #[]
  instanceTypes := #[]
  staticTypes := #[]
  resolved := #[]
  callSites := []
  init := .initialized
  statics := none
  mirror := none

def pool0 : Array CpInfo := pool [(5, u "<init>"), (0, u "()V"), (1, .class_ 10), (1, u "java/lang/Object")] 113

def k0c0 : Code := { maxStack := 0, maxLocals := 1, code := object_method_1_code, exceptionTable := #[], attributes := #[] }
def k0m0 : Method := { name := "<init>", desc := "()V", sig := { parameters := [], returnType := none }, accessFlags := 1, code := some k0c0 }
/-- java/lang/Object -/
def k0 : Class := { plain "java/lang/Object" none with
  accessFlags := 33
  interfaces := #[]
  cf := some (fileOf pool0 8 #[] #[{ accessFlags := 1, nameIndex := 5, descriptorIndex := 6, attributes := #[] }] 33 0 #[] #[])
  fields := #[]
  methods := #[k0m0]
  instanceTypes := #[]
  staticTypes := #[]
  resolved := Array.replicate 124 none
  statics := none }

def pool1 : Array CpInfo := pool [(2, .class_ 4), (1, u "java/lang/Object"), (0, u "<init>"), (0, u "()V"), (0, .integer 2147483647), (0, .fieldref 9 10), (0, .class_ 11), (0, .nameAndType 12 13), (0, u "com/example/anteroom/anteroom/resolve/DeclaredType$Access"), (0, u "PUBLIC_OR_PROTECTED"), (0, u "Lcom/example/anteroom/anteroom/resolve/DeclaredType$Access;"), (0, .fieldref 9 15), (0, .nameAndType 16 13), (0, u "PACKAGE"), (0, .fieldref 9 18), (0, .nameAndType 19 13), (0, u "PRIVATE"), (0, .class_ 21), (0, u "com/example/anteroom/anteroom/resolve/DeclaredType$Method"), (0, .methodref 20 23), (0, .nameAndType 5 24), (0, u "(IZZLcom/example/anteroom/anteroom/resolve/DeclaredType$Access;)V"), (0, .methodref 20 26), (0, .nameAndType 27 28), (0, u "accepts"), (0, u "(I)Z"), (0, .class_ 30), (0, u "com/example/anteroom/anteroom/resolve/MethodAcceptsPinLaw"), (2, u "law"), (0, u "(III)Z")] 8

def k1m0 : Method := { name := "<init>", desc := "()V", sig := { parameters := [], returnType := none }, accessFlags := 1, code := none }
def k1c1 : Code := { maxStack := 6, maxLocals := 12, code := code, exceptionTable := #[], attributes := #[] }
def k1m1 : Method := { name := "law", desc := "(III)Z", sig := { parameters := [.int, .int, .int], returnType := some .boolean }, accessFlags := 9, code := some k1c1 }
/-- com/example/anteroom/anteroom/resolve/MethodAcceptsPinLaw -/
def k1 : Class := { plain "com/example/anteroom/anteroom/resolve/MethodAcceptsPinLaw" (some 0) with
  accessFlags := 49
  interfaces := #[]
  cf := some (fileOf pool1 29 #[] #[{ accessFlags := 1, nameIndex := 5, descriptorIndex := 6, attributes := #[] }, { accessFlags := 9, nameIndex := 33, descriptorIndex := 34, attributes := #[] }] 49 2 #[] #[])
  fields := #[]
  methods := #[k1m0, k1m1]
  instanceTypes := #[]
  staticTypes := #[]
  resolved := Array.replicate 43 none
  statics := none }

def pool2 : Array CpInfo := pool [(1, .class_ 2), (0, u "java/lang/constant/Constable"), (0, .class_ 4), (0, u "java/lang/Object")] 6

/-- java/lang/constant/Constable -/
def k2 : Class := { plain "java/lang/constant/Constable" (some 0) with
  accessFlags := 1537
  interfaces := #[]
  cf := some (fileOf pool2 1 #[] #[] 1537 3 #[] #[])
  fields := #[]
  methods := #[]
  instanceTypes := #[]
  staticTypes := #[]
  resolved := Array.replicate 11 none
  statics := none }

def pool3 : Array CpInfo := pool [(1, .class_ 2), (0, u "java/lang/Comparable"), (0, .class_ 4), (0, u "java/lang/Object")] 7

/-- java/lang/Comparable -/
def k3 : Class := { plain "java/lang/Comparable" (some 0) with
  accessFlags := 1537
  interfaces := #[]
  cf := some (fileOf pool3 1 #[] #[] 1537 3 #[] #[])
  fields := #[]
  methods := #[]
  instanceTypes := #[]
  staticTypes := #[]
  resolved := Array.replicate 12 none
  statics := none }

def pool4 : Array CpInfo := pool [(1, .class_ 2), (0, u "java/io/Serializable"), (0, .class_ 4), (0, u "java/lang/Object")] 2

/-- java/io/Serializable -/
def k4 : Class := { plain "java/io/Serializable" (some 0) with
  accessFlags := 1537
  interfaces := #[]
  cf := some (fileOf pool4 1 #[] #[] 1537 3 #[] #[])
  fields := #[]
  methods := #[]
  instanceTypes := #[]
  staticTypes := #[]
  resolved := Array.replicate 7 none
  statics := none }

def pool5 : Array CpInfo := pool [(2, .class_ 4), (1, u "java/lang/Enum"), (0, u "name"), (0, u "Ljava/lang/String;"), (2, u "ordinal"), (0, u "I"), (1, .class_ 14), (1, u "java/lang/Object"), (4, u "hash"), (86, .class_ 108), (1, u "java/lang/Enum$EnumDesc"), (2, .class_ 112), (0, u "java/lang/constant/Constable"), (0, .class_ 114), (0, u "java/lang/Comparable"), (0, .class_ 116), (0, u "java/io/Serializable")] 87

/-- java/lang/Enum -/
def k5 : Class := { plain "java/lang/Enum" (some 0) with
  accessFlags := 1057
  interfaces := #[2, 3, 4]
  cf := some (fileOf pool5 2 #[.nestMembers #[106]] #[] 1057 12 #[111, 113, 115] #[{ accessFlags := 18, nameIndex := 5, descriptorIndex := 6, attributes := #[] }, { accessFlags := 18, nameIndex := 9, descriptorIndex := 10, attributes := #[] }, { accessFlags := 2, nameIndex := 19, descriptorIndex := 10, attributes := #[] }])
  fields := #[{ name := "name", type := (.object "java/lang/String"), accessFlags := 18, slot := 0, constantValue := 0 }, { name := "ordinal", type := .int, accessFlags := 18, slot := 1, constantValue := 0 }, { name := "hash", type := .int, accessFlags := 2, slot := 2, constantValue := 0 }]
  methods := #[]
  instanceTypes := #[(.object "java/lang/String"), .int, .int]
  staticTypes := #[]
  resolved := Array.replicate 204 none
  statics := none }

def pool6 : Array CpInfo := pool [(1, .class_ 2), (0, u "com/example/anteroom/anteroom/resolve/DeclaredType$Access"), (2, u "PUBLIC_OR_PROTECTED"), (0, u "Lcom/example/anteroom/anteroom/resolve/DeclaredType$Access;"), (2, u "PACKAGE"), (2, u "PRIVATE"), (2, u "$VALUES"), (0, u "[Lcom/example/anteroom/anteroom/resolve/DeclaredType$Access;"), (6, .class_ 25), (1, u "java/lang/Enum"), (26, .class_ 53), (0, u "com/example/anteroom/anteroom/resolve/DeclaredType")] 2

/-- com/example/anteroom/anteroom/resolve/DeclaredType$Access -/
def k6 : Class := { plain "com/example/anteroom/anteroom/resolve/DeclaredType$Access" (some 5) with
  accessFlags := 16433
  interfaces := #[]
  cf := some (fileOf pool6 1 #[.nestHost 52] #[] 16433 23 #[] #[{ accessFlags := 16409, nameIndex := 5, descriptorIndex := 6, attributes := #[] }, { accessFlags := 16409, nameIndex := 9, descriptorIndex := 6, attributes := #[] }, { accessFlags := 16409, nameIndex := 12, descriptorIndex := 6, attributes := #[] }, { accessFlags := 4122, nameIndex := 15, descriptorIndex := 16, attributes := #[] }])
  fields := #[{ name := "PUBLIC_OR_PROTECTED", type := (.object "com/example/anteroom/anteroom/resolve/DeclaredType$Access"), accessFlags := 16409, slot := 0, constantValue := 0 }, { name := "PACKAGE", type := (.object "com/example/anteroom/anteroom/resolve/DeclaredType$Access"), accessFlags := 16409, slot := 1, constantValue := 0 }, { name := "PRIVATE", type := (.object "com/example/anteroom/anteroom/resolve/DeclaredType$Access"), accessFlags := 16409, slot := 2, constantValue := 0 }, { name := "$VALUES", type := (.array (.object "com/example/anteroom/anteroom/resolve/DeclaredType$Access")), accessFlags := 4122, slot := 3, constantValue := 0 }]
  methods := #[]
  instanceTypes := #[(.object "java/lang/String"), .int, .int]
  staticTypes := #[(.object "com/example/anteroom/anteroom/resolve/DeclaredType$Access"), (.object "com/example/anteroom/anteroom/resolve/DeclaredType$Access"), (.object "com/example/anteroom/anteroom/resolve/DeclaredType$Access"), (.array (.object "com/example/anteroom/anteroom/resolve/DeclaredType$Access"))]
  resolved := Array.replicate 56 none
  statics := some 0 }

def pool7 : Array CpInfo := pool [(1, .methodref 2 3), (0, .class_ 4), (0, .nameAndType 5 6), (0, u "java/lang/Object"), (0, u "<init>"), (0, u "()V"), (0, .class_ 8), (0, u "java/lang/Record")] 13

def k7c0 : Code := { maxStack := 1, maxLocals := 1, code := jdk_30_method_1_code, exceptionTable := #[], attributes := #[] }
def k7m0 : Method := { name := "<init>", desc := "()V", sig := { parameters := [], returnType := none }, accessFlags := 4, code := some k7c0 }
/-- java/lang/Record -/
def k7 : Class := { plain "java/lang/Record" (some 0) with
  accessFlags := 1057
  interfaces := #[]
  cf := some (fileOf pool7 7 #[] #[{ accessFlags := 4, nameIndex := 5, descriptorIndex := 6, attributes := #[] }] 1057 2 #[] #[])
  fields := #[]
  methods := #[k7m0]
  instanceTypes := #[]
  staticTypes := #[]
  resolved := Array.replicate 22 none
  statics := none }

def pool8 : Array CpInfo := pool [(1, .methodref 2 3), (0, .class_ 4), (0, .nameAndType 5 6), (0, u "java/lang/Record"), (0, u "<init>"), (0, u "()V"), (0, .fieldref 8 9), (0, .class_ 10), (0, .nameAndType 11 12), (0, u "com/example/anteroom/anteroom/resolve/DeclaredType$Method"), (0, u "parameters"), (0, u "I"), (0, .fieldref 8 14), (0, .nameAndType 15 16), (0, u "varArgs"), (0, u "Z"), (0, .fieldref 8 18), (0, .nameAndType 19 16), (0, u "isStatic"), (0, .fieldref 8 21), (0, .nameAndType 22 23), (0, u "access"), (0, u "Lcom/example/anteroom/anteroom/resolve/DeclaredType$Access;"), (12, u "(IZZLcom/example/anteroom/anteroom/resolve/DeclaredType$Access;)V"), (3, u "accepts"), (0, u "(I)Z"), (9, .class_ 52), (0, u "com/example/anteroom/anteroom/resolve/DeclaredType")] 25

def k8c0 : Code := { maxStack := 2, maxLocals := 5, code := prog_12_method_1_code, exceptionTable := #[], attributes := #[] }
def k8m0 : Method := { name := "<init>", desc := "(IZZLcom/example/anteroom/anteroom/resolve/DeclaredType$Access;)V", sig := { parameters := [.int, .boolean, .boolean, (.object "com/example/anteroom/anteroom/resolve/DeclaredType$Access")], returnType := none }, accessFlags := 1, code := some k8c0 }
def k8c1 : Code := { maxStack := 3, maxLocals := 2, code := prog_12_method_2_code, exceptionTable := #[], attributes := #[] }
def k8m1 : Method := { name := "accepts", desc := "(I)Z", sig := { parameters := [.int], returnType := some .boolean }, accessFlags := 1, code := some k8c1 }
/-- com/example/anteroom/anteroom/resolve/DeclaredType$Method -/
def k8 : Class := { plain "com/example/anteroom/anteroom/resolve/DeclaredType$Method" (some 7) with
  accessFlags := 49
  interfaces := #[]
  cf := some (fileOf pool8 8 #[.nestHost 51] #[{ accessFlags := 1, nameIndex := 5, descriptorIndex := 36, attributes := #[] }, { accessFlags := 1, nameIndex := 40, descriptorIndex := 41, attributes := #[] }] 49 2 #[] #[{ accessFlags := 18, nameIndex := 11, descriptorIndex := 12, attributes := #[] }, { accessFlags := 18, nameIndex := 15, descriptorIndex := 16, attributes := #[] }, { accessFlags := 18, nameIndex := 19, descriptorIndex := 16, attributes := #[] }, { accessFlags := 18, nameIndex := 22, descriptorIndex := 23, attributes := #[] }])
  fields := #[{ name := "parameters", type := .int, accessFlags := 18, slot := 0, constantValue := 0 }, { name := "varArgs", type := .boolean, accessFlags := 18, slot := 1, constantValue := 0 }, { name := "isStatic", type := .boolean, accessFlags := 18, slot := 2, constantValue := 0 }, { name := "access", type := (.object "com/example/anteroom/anteroom/resolve/DeclaredType$Access"), accessFlags := 18, slot := 3, constantValue := 0 }]
  methods := #[k8m0, k8m1]
  instanceTypes := #[.int, .boolean, .boolean, (.object "com/example/anteroom/anteroom/resolve/DeclaredType$Access")]
  staticTypes := #[]
  resolved := Array.replicate 78 none
  statics := none }

def pool9 : Array CpInfo := pool [(1, u "java/lang/Cloneable"), (0, .class_ 1), (0, u "java/lang/Object"), (0, .class_ 3)] 3

/-- java/lang/Cloneable -/
def k9 : Class := { plain "java/lang/Cloneable" (some 0) with
  accessFlags := 1537
  interfaces := #[]
  cf := some (fileOf pool9 2 #[] #[] 1537 4 #[] #[])
  fields := #[]
  methods := #[]
  instanceTypes := #[]
  staticTypes := #[]
  resolved := Array.replicate 8 none
  statics := none }

/-- the primitive byte -/
def k10 : Class := { plain "byte" none with kind := .primitive 'B', accessFlags := 0x411 }
/-- [B -/
def k11 : Class := { plain "[B" (some 0) with kind := .array 10 .byte, interfaces := #[9, 4], accessFlags := 1041 }

/-- the primitive int -/
def k12 : Class := { plain "int" none with kind := .primitive 'I', accessFlags := 0x411 }
/-- [I -/
def k13 : Class := { plain "[I" (some 0) with kind := .array 12 .int, interfaces := #[9, 4], accessFlags := 1041 }

def heap : Heap := #[{ cls := 6, slots := #[.ref 1, .ref 3, .ref 2, .null], vm := .statics 6 },
  { cls := 6, slots := #[.null, .int 0, .int 0], vm := .none },
  { cls := 6, slots := #[.null, .int 0, .int 0], vm := .none },
  { cls := 6, slots := #[.null, .int 0, .int 0], vm := .none }]
def classes : Array Class := #[k0, k1, k2, k3, k4, k5, k6, k7, k8, k9, k10, k11, k12, k13]
def interned : List (Array UInt16 × Addr) := []
def slotsUsed : Nat := 13
def theMethod : MethodId := ⟨1, 1⟩
def args0 : Array Value := #[.int 5, .int 5, .int 5]
def aboutOver (below : List Frame) : State where
  vm := { classes := classes, interned := interned.toArray }
  heap := heap
  slotsUsed := slotsUsed
  threads := #[{ frames := .invoking theMethod args0 :: below }]
def below0 : List Frame := [.native { method := ⟨0, 0⟩, args := #[] }]
def about1 : State := aboutOver below0
def p0 : Program := .bare "" "" ""
def e0 : Env := launch0.env 0 0 0
theorem w_frames : about1.frames = Frame.invoking theMethod args0 :: below0 := rfl
set_option maxRecDepth 65536 in
theorem w_args : argsFit about1.vm theMethod args0 = true := by decide +kernel
set_option maxRecDepth 65536 in
theorem w_heap : heapFits about1 = true := by decide +kernel
set_option maxRecDepth 65536 in
theorem w_runnable : about1.curStatus? = some .runnable := by decide +kernel
set_option maxRecDepth 65536 in
theorem w_alone : about1.alone = true := by decide +kernel
set_option maxRecDepth 65536 in
theorem w_named : about1.methodNamed? x = some theMethod := by decide +kernel
set_option maxRecDepth 65536 in
theorem w_hears : about1.hears theMethod below0 = true := by decide +kernel
set_option maxRecDepth 65536 in
theorem w_ripe : about1.ripe theMethod args0 below0 = true := by decide +kernel
theorem w_running : about1.status = .running := rfl
set_option maxRecDepth 65536 in
theorem w_room : about1.hasRoom e0.platform room_1 = true :=
  launch0.hasRoom_least _ room_1 (by decide +kernel) (by decide +kernel) (by decide +kernel) (by decide +kernel) (by decide +kernel) (by decide +kernel)
theorem allAtoms_all (ts : List Jvm.Cond) (a : Array Jvm.Value) (st : Jvm.State) : (allAtoms ts).before a st = ts.all (fun c => c.before a st) := by
  induction ts with
  | nil => rfl
  | cons c t ih =>
    show (Jvm.Cond.and c (allAtoms t)).before a st = _
    rw [Jvm.Cond.before_and, ih, List.all_cons]
def words1 : List Jvm.Cond := Jvm.Cond.code x code maxLocals ret :: tables_1
/-- a 'code' word, met by the world's own term for the bytes: nothing is compared byte by byte -/
theorem code_word {y : MethodName} {bytes : ByteArray} {mx : Nat} {rt : Option FieldType} {a : Array Value} {s : State} {m : MethodId} {meth : Method} {c : Code} (h1 : s.methodNamed? y = some m) (h2 : s.vm.method? m = some meth) (h3 : meth.code = some c) (h4 : c.code = bytes)
    (h5 : (c.maxLocals == mx && c.exceptionTable.isEmpty && decide (c.maxStack ≤ mostOperands) && decide (meth.sig.returnType = rt) && !meth.locks && decide (parseMethodDescriptor y.desc = some meth.sig)) = true) : (Jvm.Cond.code y bytes mx rt).before a s = true := by
  simp only [Bool.and_eq_true, beq_iff_eq, Bool.not_eq_true', decide_eq_true_eq] at h5
  obtain ⟨⟨⟨⟨⟨g1, g2⟩, g3⟩, g4⟩, g5⟩, g6⟩ := h5
  simp [Cond.before, Cond.holds, Cond.value, h1, h2, h3, h4, g1, g2, g3, g4, g5, g6]
def isCode : Jvm.Cond → Bool
  | .code _ _ _ _ => true
  | _ => false
theorem all_split {L : List Jvm.Cond} {P : Jvm.Cond → Bool} (h1 : L.all (fun c => isCode c || P c) = true) (h2 : ∀ c ∈ L.filter isCode, P c = true) : L.all P = true := by
  refine List.all_eq_true.mpr fun c hc => ?_
  have h := List.all_eq_true.mp h1 c hc
  rcases Bool.eq_false_or_eq_true (isCode c) with hi | hi
  · exact h2 c (List.mem_filter.mpr ⟨hc, hi⟩)
  · simpa [hi] using h
set_option maxRecDepth 65536 in
theorem w_c0 : (Jvm.Cond.code x code maxLocals ret).before args0 about1 = true := code_word (m := ⟨1, 1⟩) (meth := k1m1) (c := k1c1) (by decide +kernel) rfl rfl rfl (by decide +kernel)
set_option maxRecDepth 65536 in
theorem w_c1 : (Jvm.Cond.code ({ cls := "com/example/anteroom/anteroom/resolve/DeclaredType$Method", name := "<init>", desc := "(IZZLcom/example/anteroom/anteroom/resolve/DeclaredType$Access;)V" } : Jvm.MethodName) prog_12_method_1_code (5 : Nat) (Option.none : Option Jvm.ClassFile.FieldType)).before args0 about1 = true := code_word (m := ⟨8, 0⟩) (meth := k8m0) (c := k8c0) (by decide +kernel) rfl rfl rfl (by decide +kernel)
set_option maxRecDepth 65536 in
theorem w_c2 : (Jvm.Cond.code ({ cls := "java/lang/Record", name := "<init>", desc := "()V" } : Jvm.MethodName) jdk_30_method_1_code (1 : Nat) (Option.none : Option Jvm.ClassFile.FieldType)).before args0 about1 = true := code_word (m := ⟨7, 0⟩) (meth := k7m0) (c := k7c0) (by decide +kernel) rfl rfl rfl (by decide +kernel)
set_option maxRecDepth 65536 in
theorem w_c3 : (Jvm.Cond.code ({ cls := "java/lang/Object", name := "<init>", desc := "()V" } : Jvm.MethodName) object_method_1_code (1 : Nat) (Option.none : Option Jvm.ClassFile.FieldType)).before args0 about1 = true := code_word (m := ⟨0, 0⟩) (meth := k0m0) (c := k0c0) (by decide +kernel) rfl rfl rfl (by decide +kernel)
set_option maxRecDepth 65536 in
theorem w_c4 : (Jvm.Cond.code ({ cls := "com/example/anteroom/anteroom/resolve/DeclaredType$Method", name := "accepts", desc := "(I)Z" } : Jvm.MethodName) prog_12_method_2_code (2 : Nat) (Option.some Jvm.ClassFile.FieldType.boolean)).before args0 about1 = true := code_word (m := ⟨8, 1⟩) (meth := k8m1) (c := k8c1) (by decide +kernel) rfl rfl rfl (by decide +kernel)
def codes1 : List Jvm.Cond := [Jvm.Cond.code x code maxLocals ret, Jvm.Cond.code ({ cls := "com/example/anteroom/anteroom/resolve/DeclaredType$Method", name := "<init>", desc := "(IZZLcom/example/anteroom/anteroom/resolve/DeclaredType$Access;)V" } : Jvm.MethodName) prog_12_method_1_code (5 : Nat) (Option.none : Option Jvm.ClassFile.FieldType), Jvm.Cond.code ({ cls := "java/lang/Record", name := "<init>", desc := "()V" } : Jvm.MethodName) jdk_30_method_1_code (1 : Nat) (Option.none : Option Jvm.ClassFile.FieldType), Jvm.Cond.code ({ cls := "java/lang/Object", name := "<init>", desc := "()V" } : Jvm.MethodName) object_method_1_code (1 : Nat) (Option.none : Option Jvm.ClassFile.FieldType), Jvm.Cond.code ({ cls := "com/example/anteroom/anteroom/resolve/DeclaredType$Method", name := "accepts", desc := "(I)Z" } : Jvm.MethodName) prog_12_method_2_code (2 : Nat) (Option.some Jvm.ClassFile.FieldType.boolean)]
set_option maxRecDepth 65536 in
theorem codes_eq : words1.filter isCode = codes1 := rfl
theorem w_codes : ∀ c ∈ words1.filter isCode, c.before args0 about1 = true := by
  rw [codes_eq]
  intro c hc
  simp only [codes1, List.mem_cons, List.not_mem_nil, or_false] at hc
  rcases hc with rfl | rfl | rfl | rfl | rfl
  · exact w_c0
  · exact w_c1
  · exact w_c2
  · exact w_c3
  · exact w_c4
set_option maxRecDepth 65536 in
theorem w_t1 : (words1.take 24).all (fun c => isCode c || c.before args0 about1) = true := by decide +kernel
set_option maxRecDepth 65536 in
theorem w_t2 : (words1.drop 24).all (fun c => isCode c || c.before args0 about1) = true := by decide +kernel
theorem w_tables : (allAtoms (Jvm.Cond.code x code maxLocals ret :: tables_1)).before args0 about1 = true := by
  rw [allAtoms_all]
  show words1.all (fun c => c.before args0 about1) = true
  refine all_split ?_ w_codes
  rw [← List.take_append_drop 24 words1, List.all_append, w_t1, w_t2]
  rfl
set_option maxRecDepth 65536 in
theorem w_case : (Jvm.Cond.and given_1 narrow_1).before args0 about1 = true := by decide +kernel
theorem w_applies : (headSpec (Jvm.Cond.code x code maxLocals ret :: tables_1) room_1).applies x e0.platform about1 = true :=
  (Spec.applies_iff w_frames).mpr ⟨w_running, w_runnable, w_alone, w_named, w_hears, w_ripe, w_room, w_tables⟩
theorem atStart : AtStart classFile x code maxLocals ret World_1 tables_1 room_1 Calls_1 rest_1 Pre_1 launch0 p0 e0 about1 theMethod args0 below0 :=
  ⟨lists_1, trivial, launch0.admits_env _ _ _, launch0.least_env, fairChoices_fair.cas, fairChoices_fair.clock, w_frames, w_args, w_heap, w_applies, trivial, trivial, w_case⟩
end start1
theorem witness_1 : WitnessClaimed_1 := ⟨start1.p0, start1.e0, start1.about1, start1.theMethod, start1.args0, start1.below0, start1.atStart⟩
end Jvm.Pilot.@@N@@

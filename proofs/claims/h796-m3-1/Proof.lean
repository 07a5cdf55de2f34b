import JvmDerived
import JvmDerived.Pilot.@@N@@Statement
import JvmDerived.Pilot.@@N@@Code
set_option linter.unusedVariables false
set_option linter.unusedSimpArgs false
namespace Jvm.RoadKit
open Sem ClassFile Op Lib Jvm.Stand Jvm.Free Jvm.LawKit
section New
variable {p : Program} {l : Launch} {e : Env} {R : Room} {s : State} {m : MethodId} {args : Array Value} {below : List Frame} {meth : Method} {c : Code} {T : State} {locs : List Loc} {cells slots : Nat}
theorem retI (X : Stand p l e R s m args below meth c T locs cells slots) (hx : p.tables.exec = Jvm.exec) {pc : Nat} {Ls : Array Slot} {z : Int32} {rest : List Value} (hret : meth.sig.returnType = some .int) (hd : decode c.code pc = .ok (.ireturn, 1)) {fs : List Frame}
    (hl : ∀ (f : JFrame) (acts : List Action), f.method = m → f.locked = none → f.entered = [] → (doReturn e (T.setTop f) acts (some (.int z))).1 = T.setFrames fs) : Steps p.tables e below (T.setTop (mkF m pc Ls (.int z :: rest))) (T.setFrames fs) := by
  have hm' : T.vm.method? m = some meth := X.method'
  have hn : narrow .int (.int z) = .int z := rfl
  show Steps p.tables e below (T.setTop { method := m, pc := pc, locals := Ls, stack := _ :: rest, locked := none }) _
  jvm_step X.here [X.here.top, hx, hd, hm', hret, hn]
  first | (intro acts; rw [hl _ acts rfl rfl rfl]) | rw [hl _ _ rfl rfl rfl]
  exact Steps.refl _
end New
end Jvm.RoadKit
namespace Jvm.Pilot.@@N@@
open Jvm Jvm.ClassFile Sem Op Lib Jvm.Free Jvm.Stand Jvm.LawKit Jvm.RoadKit Bundle Jvm.Pilot.@@N@@.Jvm.D
theorem pn_0 : plainName "java/lang/Record" = true := by first | (simp [plainName, overriddenIn]; done) | decide +kernel
theorem d2_0 : decode jdk_30_method_1_code 0 = .ok (.aload_n 0, 1) := by decide +kernel
theorem d2_1 : decode jdk_30_method_1_code 1 = .ok (.invokespecial 1, 3) := by decide +kernel
theorem d2_4 : decode jdk_30_method_1_code 4 = .ok (.return_, 1) := by decide +kernel
theorem ef_2 (m : MethodId) (x0 : Addr) : entryFrame m #[(.ref x0)] 1 = mkF m 0 #[.val (.ref x0)] [] := by first | (simp [entryFrame, mkF, argsToLocals, Value.category]; done) | rfl
def Q2 (Z : State) (a0t : Addr) (h0 : Heap) (n0 : Nat) (v : Option Value) (h : Heap) (L : List Loc) : Prop := v = none ∧ Fr n0 L ∧ h = h0
set_option maxRecDepth 65536 in
set_option maxHeartbeats 40000000 in
theorem rm2 (l : Launch) (Z : State) (a0 : Array Value) (hw : ∀ d ∈ tables_1, d.before a0 Z = true) (ws : List Jvm.Cond) (a0t : Addr) (h0 : Heap) (n0 : Nat) (Z0 : n0 ≤ h0.size)  :
    MetFree l (⟨"java/lang/Record", "<init>", "()V"⟩ : MethodName) (head1 (Jvm.Cond.code (⟨"java/lang/Record", "<init>", "()V"⟩ : MethodName) jdk_30_method_1_code 1 none :: ws) ({ frames := 1, cells := 0, slots := 0, locals := 12 } : Room)) (fun a U => a = #[(.ref a0t)] ∧ Z.Warmed39 U.vm ∧ U.heap = h0) (fun _ _ _ _ _ => True) (fun _ U o U' => ∃ v L, o = .returned v ∧ Q2 Z a0t h0 n0 v U'.heap L ∧ FrameEnd U o U' L ({ frames := 1, cells := 0, slots := 0, locals := 12 } : Room).cells ({ frames := 1, cells := 0, slots := 0, locals := 12 } : Room).slots) := by
  refine MetFree.of_bodySF (plainFor_of_name pn_0) hisR ?_
  intro p e s m args below meth c s₁ Bd hml0 hP hK
  obtain ⟨rfl, hZ, hh⟩ := hP
  have hx := Bd.exec
  have hby := Bd.bytes
  have hml : c.maxLocals = 1 := hml0
  have hown : s.vm.findClass "java/lang/Record" = some m.cls := findClass_of_methodNamed Bd.named
  have hnm := (name_of_methodNamed Bd.named Bd.method).1
  have X0 : Stand p l e ({ frames := 1, cells := 0, slots := 0, locals := 12 } : Room) s m #[(.ref a0t)] below meth c s₁ [] 0 0 := Stand.of_body Bd
  have e0 : s₁.heap = h0 := by rw [← hh, Bd.state]; rfl
  have N0 := Fr.nil n0
  have K0 := Keep.refl h0 []
  have pre0 : ∀ t, Steps p.tables e below (s₁.setTop (mkF m 0 #[.val (.ref a0t)] [])) t → Steps p.tables e below (s₁.setTop (entryFrame m #[(.ref a0t)] 1)) t := fun t k => castTop (ef_2 m a0t) k
  obtain ⟨T1, X1, e1, st1⟩ := initO X0 hx hZ hown (hw _ (List.mem_of_getElem? (i := 11) rfl)) (hw _ (List.mem_of_getElem? (i := 12) rfl)) (hw _ (List.mem_of_getElem? (i := 13) rfl)) e0 (g := (mkF m 1 #[.val (.ref a0t)] [(.ref a0t)])) rfl (by rw [hml]; rfl) rfl (hb hby d2_1) (by decide) (W := 0) (by show 2 * 0 + _ ≤ _; exact Nat.le_of_eq rfl) (by decide)
  obtain ⟨fs, hr, hrun, hended, hW, hsame⟩ := X1.leave (v := none) (fun _ => rfl)
  refine ⟨_, _, pre0 _ ?_, hrun, hended, _, _, rfl, ?_, ⟨_, rfl⟩, hW, hsame.mono (by decide) (by decide)⟩
  · show Steps p.tables e below (s₁.setTop (mkF m 0 #[.val (.ref a0t)] [])) _
    refine XS.aloadN X0.here hx rfl (hb hby d2_0) rfl rfl ?_
    show Steps p.tables e below (s₁.setTop (mkF m 1 #[.val (.ref a0t)] [(.ref a0t)])) _
    refine st1 _ ?_
    show Steps p.tables e below (T1.setTop (mkF m 4 #[.val (.ref a0t)] [])) _
    exact X1.returnOut hx Bd.returns (hb hby d2_4) hr
  · show Q2 Z a0t h0 n0 _ T1.heap _
    rw [e1]
    exact ⟨rfl, N0, rfl⟩
theorem pd_0 : parseMethodDescriptor "()V" = some ⟨[], none⟩ := by decide +kernel
theorem pn_1 : plainName "com/example/vestline/vestline/core/Quarter" = true := by first | (simp [plainName, overriddenIn]; done) | decide +kernel
theorem d1_0 : decode prog_27_method_1_code 0 = .ok (.aload_n 0, 1) := by decide +kernel
theorem d1_1 : decode prog_27_method_1_code 1 = .ok (.invokespecial 1, 3) := by decide +kernel
theorem d1_4 : decode prog_27_method_1_code 4 = .ok (.iload_n 2, 1) := by decide +kernel
theorem d1_5 : decode prog_27_method_1_code 5 = .ok (.iconst 1, 1) := by decide +kernel
theorem d1_6 : decode prog_27_method_1_code 6 = .ok (.if_icmp .lt 8, 3) := by decide +kernel
theorem d1_9 : decode prog_27_method_1_code 9 = .ok (.iload_n 2, 1) := by decide +kernel
theorem d1_10 : decode prog_27_method_1_code 10 = .ok (.iconst 4, 1) := by decide +kernel
theorem d1_11 : decode prog_27_method_1_code 11 = .ok (.if_icmp .le 17, 3) := by decide +kernel
theorem d1_28 : decode prog_27_method_1_code 28 = .ok (.aload_n 0, 1) := by decide +kernel
theorem d1_29 : decode prog_27_method_1_code 29 = .ok (.iload_n 1, 1) := by decide +kernel
theorem d1_30 : decode prog_27_method_1_code 30 = .ok (.putfield 16, 3) := by decide +kernel
theorem d1_33 : decode prog_27_method_1_code 33 = .ok (.aload_n 0, 1) := by decide +kernel
theorem d1_34 : decode prog_27_method_1_code 34 = .ok (.iload_n 2, 1) := by decide +kernel
theorem d1_35 : decode prog_27_method_1_code 35 = .ok (.putfield 22, 3) := by decide +kernel
theorem d1_38 : decode prog_27_method_1_code 38 = .ok (.return_, 1) := by decide +kernel
theorem ef_1 (m : MethodId) (x0 : Addr) (x1 : Int32) (x2 : Int32) : entryFrame m #[(.ref x0), (.int x1), (.int x2)] 3 = mkF m 0 #[.val (.ref x0), .val (.int x1), .val (.int x2)] [] := by first | (simp [entryFrame, mkF, argsToLocals, Value.category]; done) | rfl
def f1_year (p0 : Int32) (p1 : Int32) (w_year : Int32) (w_number : Int32) : Int32 := p0
def f1_number (p0 : Int32) (p1 : Int32) (w_year : Int32) (w_number : Int32) : Int32 := p1
def Q1 (Z : State) (a0t : Addr) (p0 : Int32) (p1 : Int32) (w_year : Int32) (w_number : Int32) (h0 : Heap) (n0 : Nat) (v : Option Value) (h : Heap) (L : List Loc) : Prop := v = none ∧ Fr n0 L ∧ Keep h0 h [a0t] ∧ Exa Z h a0t "com/example/vestline/vestline/core/Quarter" ∧ Fld Z h a0t "com/example/vestline/vestline/core/Quarter" "year" "I" (.int (f1_year p0 p1 w_year w_number)) ∧ Fld Z h a0t "com/example/vestline/vestline/core/Quarter" "number" "I" (.int (f1_number p0 p1 w_year w_number))
set_option maxRecDepth 65536 in
set_option maxHeartbeats 40000000 in
theorem rm1 (l : Launch) (Z : State) (a0 : Array Value) (hw : ∀ d ∈ tables_1, d.before a0 Z = true) (ws : List Jvm.Cond) (a0t : Addr) (p0 : Int32) (p1 : Int32) (w_year : Int32) (w_number : Int32) (h0 : Heap) (n0 : Nat) (Z0 : n0 ≤ h0.size) (E_this : Exa Z h0 a0t "com/example/vestline/vestline/core/Quarter") (g_this : n0 ≤ a0t) (F_year : Fld Z h0 a0t "com/example/vestline/vestline/core/Quarter" "year" "I" (.int w_year)) (F_number : Fld Z h0 a0t "com/example/vestline/vestline/core/Quarter" "number" "I" (.int w_number)) (hf6 : ¬ (p1 < (1 : Int32))) (hf11 : ¬ ((4 : Int32) < p1)) :
    MetFree l (⟨"com/example/vestline/vestline/core/Quarter", "<init>", "(II)V"⟩ : MethodName) (head1 (Jvm.Cond.code (⟨"com/example/vestline/vestline/core/Quarter", "<init>", "(II)V"⟩ : MethodName) prog_27_method_1_code 3 none :: ws) ({ frames := 2, cells := 0, slots := 0, locals := 24 } : Room)) (fun a U => a = #[(.ref a0t), (.int p0), (.int p1)] ∧ Z.Warmed39 U.vm ∧ U.heap = h0) (fun _ _ _ _ _ => True) (fun _ U o U' => ∃ v L, o = .returned v ∧ Q1 Z a0t p0 p1 w_year w_number h0 n0 v U'.heap L ∧ FrameEnd U o U' L ({ frames := 2, cells := 0, slots := 0, locals := 24 } : Room).cells ({ frames := 2, cells := 0, slots := 0, locals := 24 } : Room).slots) := by
  refine MetFree.of_bodySF (plainFor_of_name pn_1) hisR ?_
  intro p e s m args below meth c s₁ Bd hml0 hP hK
  obtain ⟨rfl, hZ, hh⟩ := hP
  have hx := Bd.exec
  have hby := Bd.bytes
  have hml : c.maxLocals = 3 := hml0
  have hown : s.vm.findClass "com/example/vestline/vestline/core/Quarter" = some m.cls := findClass_of_methodNamed Bd.named
  have hnm := (name_of_methodNamed Bd.named Bd.method).1
  have X0 : Stand p l e ({ frames := 2, cells := 0, slots := 0, locals := 24 } : Room) s m #[(.ref a0t), (.int p0), (.int p1)] below meth c s₁ [] 0 0 := Stand.of_body Bd
  have e0 : s₁.heap = h0 := by rw [← hh, Bd.state]; rfl
  have N0 := Fr.nil n0
  have K0 := Keep.refl h0 [a0t]
  have pre0 : ∀ t, Steps p.tables e below (s₁.setTop (mkF m 0 #[.val (.ref a0t), .val (.int p0), .val (.int p1)] [])) t → Steps p.tables e below (s₁.setTop (entryFrame m #[(.ref a0t), (.int p0), (.int p1)] 3)) t := fun t k => castTop (ef_1 m a0t p0 p1) k
  obtain ⟨_, _, ⟨T1, L1, k1, n1⟩, -, X1, ⟨Lc1, hQ1, l1, y1, z1⟩, st1⟩ := X0.specialBack hx (y := (⟨"java/lang/Record", "<init>", "()V"⟩ : MethodName)) rfl hown (mvT hZ (hw _ (List.mem_of_getElem? (i := 6) rfl))) (mvT hZ (hw _ (List.mem_of_getElem? (i := 7) rfl))) (mvT hZ (hw _ (List.mem_of_getElem? (i := 10) rfl))) (by decide) (backOf (W := 0) (rm2 l Z a0 hw [] a0t h0 n0 Z0) hZ (hw _ (List.mem_of_getElem? (i := 10) rfl)) (hw _ (List.mem_of_getElem? (i := 9) rfl)) (by decide) (by decide)) (g := (mkF m 1 #[.val (.ref a0t), .val (.int p0), .val (.int p1)] [(.ref a0t)])) rfl (by rw [hml]; rfl) (Steps.refl _) (a := a0t) (argsL := []) (rest := []) (lenOf pd_0 rfl) rfl (by show 2 * 0 + _ ≤ _; exact Nat.le_of_eq rfl) (hb hby d1_1) (fun _ _ => ⟨rfl, e0, (by decide : 0 + 0 ≤ _), (by decide : 0 + 0 ≤ _)⟩)
  dsimp only [Pt.U, Pt.locs, Pt.cells, Pt.slots] at X1 l1 y1 z1 st1 hQ1
  subst l1 y1 z1
  obtain ⟨rfl, N1q, e1⟩ := hQ1
  have N1 := Fr.app N0 N1q
  obtain ⟨T2, h2, X2, e2, W2, st2⟩ := putF X1 hx hZ hown (host := "") (Or.inl (hw _ (List.mem_of_getElem? (i := 14) rfl))) Via.refl e1 F_year E_this (Or.inr ⟨(hw _ (List.mem_of_getElem? (i := 15) rfl)), rfl, hnm⟩) (hw _ (List.mem_of_getElem? (i := 1) rfl)) (ty := .int) (by decide) rfl rfl (g := (mkF m 30 #[.val (.ref a0t), .val (.int p0), .val (.int p1)] [(.int p0), (.ref a0t)])) rfl rfl (hb hby d1_30)
  have F_year_a0t_2 := F_year.same W2
  have F_number_a0t_2 := F_number.other W2 (Or.inr (slot_ne (Or.inr (hw _ (List.mem_of_getElem? (i := 17) rfl))) (Or.inr (hw _ (List.mem_of_getElem? (i := 15) rfl))) (by decide) (t := .int) (t' := .int) (by decide) (by decide)))
  have E_a0t_2 := E_this.wr W2
  have N2 := Fr.snoc X2 N1 g_this
  have Zz2 := Nat.le_trans Z0 (Keep.of_wr W2).1
  have K2 : Keep h0 h2 [a0t] := K0.wr W2 (Or.inl (by simp))
  obtain ⟨T3, h3, X3, e3, W3, st3⟩ := putF X2 hx hZ hown (host := "") (Or.inl (hw _ (List.mem_of_getElem? (i := 16) rfl))) Via.refl e2 F_number_a0t_2 E_a0t_2 (Or.inr ⟨(hw _ (List.mem_of_getElem? (i := 17) rfl)), rfl, hnm⟩) (hw _ (List.mem_of_getElem? (i := 1) rfl)) (ty := .int) (by decide) rfl rfl (g := (mkF m 35 #[.val (.ref a0t), .val (.int p0), .val (.int p1)] [(.int p1), (.ref a0t)])) rfl rfl (hb hby d1_35)
  have F_year_a0t_3 := F_year_a0t_2.other W3 (Or.inr (slot_ne (Or.inr (hw _ (List.mem_of_getElem? (i := 15) rfl))) (Or.inr (hw _ (List.mem_of_getElem? (i := 17) rfl))) (by decide) (t := .int) (t' := .int) (by decide) (by decide)))
  have F_number_a0t_3 := F_number_a0t_2.same W3
  have E_a0t_3 := E_a0t_2.wr W3
  have N3 := Fr.snoc X3 N2 g_this
  have Zz3 := Nat.le_trans Zz2 (Keep.of_wr W3).1
  have K3 : Keep h0 h3 [a0t] := K2.wr W3 (Or.inl (by simp))
  obtain ⟨fs, hr, hrun, hended, hW, hsame⟩ := X3.leave (v := none) (fun _ => rfl)
  refine ⟨_, _, pre0 _ ?_, hrun, hended, _, _, rfl, ?_, ⟨_, rfl⟩, hW, hsame.mono (by decide) (by decide)⟩
  · show Steps p.tables e below (s₁.setTop (mkF m 0 #[.val (.ref a0t), .val (.int p0), .val (.int p1)] [])) _
    refine XS.aloadN X0.here hx rfl (hb hby d1_0) rfl rfl ?_
    show Steps p.tables e below (s₁.setTop (mkF m 1 #[.val (.ref a0t), .val (.int p0), .val (.int p1)] [(.ref a0t)])) _
    refine st1.trans ?_
    show Steps p.tables e below (T1.setTop (mkF m 4 #[.val (.ref a0t), .val (.int p0), .val (.int p1)] [])) _
    refine XS.iloadN X1.here hx rfl (hb hby d1_4) rfl ?_
    show Steps p.tables e below (T1.setTop (mkF m 5 #[.val (.ref a0t), .val (.int p0), .val (.int p1)] [(.int p1)])) _
    refine XS.iconst X1.here hx rfl (hb hby d1_5) ?_
    show Steps p.tables e below (T1.setTop (mkF m 6 #[.val (.ref a0t), .val (.int p0), .val (.int p1)] [(.int (1 : Int32)), (.int p1)])) _
    refine XS.icmpNo X1.here hx rfl (hb hby d1_6) rfl (flt hf6).1 ?_
    show Steps p.tables e below (T1.setTop (mkF m 9 #[.val (.ref a0t), .val (.int p0), .val (.int p1)] [])) _
    refine XS.iloadN X1.here hx rfl (hb hby d1_9) rfl ?_
    show Steps p.tables e below (T1.setTop (mkF m 10 #[.val (.ref a0t), .val (.int p0), .val (.int p1)] [(.int p1)])) _
    refine XS.iconst X1.here hx rfl (hb hby d1_10) ?_
    show Steps p.tables e below (T1.setTop (mkF m 11 #[.val (.ref a0t), .val (.int p0), .val (.int p1)] [(.int (4 : Int32)), (.int p1)])) _
    refine XS.icmpYes X1.here hx rfl (pc0 := 11) (pc' := 28) rfl (hb hby d1_11) rfl (flt hf11).2.2.2 (by decide) (by decide) ?_
    show Steps p.tables e below (T1.setTop (mkF m 28 #[.val (.ref a0t), .val (.int p0), .val (.int p1)] [])) _
    refine XS.aloadN X1.here hx rfl (hb hby d1_28) rfl rfl ?_
    show Steps p.tables e below (T1.setTop (mkF m 29 #[.val (.ref a0t), .val (.int p0), .val (.int p1)] [(.ref a0t)])) _
    refine XS.iloadN X1.here hx rfl (hb hby d1_29) rfl ?_
    show Steps p.tables e below (T1.setTop (mkF m 30 #[.val (.ref a0t), .val (.int p0), .val (.int p1)] [(.int p0), (.ref a0t)])) _
    refine st2 _ ?_
    show Steps p.tables e below (T2.setTop (mkF m 33 #[.val (.ref a0t), .val (.int p0), .val (.int p1)] [])) _
    refine XS.aloadN X2.here hx rfl (hb hby d1_33) rfl rfl ?_
    show Steps p.tables e below (T2.setTop (mkF m 34 #[.val (.ref a0t), .val (.int p0), .val (.int p1)] [(.ref a0t)])) _
    refine XS.iloadN X2.here hx rfl (hb hby d1_34) rfl ?_
    show Steps p.tables e below (T2.setTop (mkF m 35 #[.val (.ref a0t), .val (.int p0), .val (.int p1)] [(.int p1), (.ref a0t)])) _
    refine st3 _ ?_
    show Steps p.tables e below (T3.setTop (mkF m 38 #[.val (.ref a0t), .val (.int p0), .val (.int p1)] [])) _
    exact X3.returnOut hx Bd.returns (hb hby d1_38) hr
  · show Q1 Z a0t p0 p1 w_year w_number h0 n0 _ T3.heap _
    rw [e3]
    exact ⟨rfl, N3, K3, E_a0t_3, by rw [show f1_year p0 p1 w_year w_number = p0 from by unfold f1_year; rfl]; exact F_year_a0t_3, by rw [show f1_number p0 p1 w_year w_number = p1 from by unfold f1_number; rfl]; exact F_number_a0t_3⟩
theorem own_n1 (w : Int32) (hn1 : ¬ (w < (1 : Int32))) (hn4 : ¬ ((4 : Int32) < w)) (h : ¬ (w = (4 : Int32))) : ¬ ((w + (1 : Int32)) < (1 : Int32)) := by
  rw [Int32.lt_iff_toInt_lt] at hn1 hn4 ⊢
  have l1 : (1 : Int32).toInt = 1 := rfl
  have l4 : (4 : Int32).toInt = 4 := rfl
  have a := c_iadd w 1
  have r := rng32 (w + 1)
  omega
theorem own_n4 (w : Int32) (hn1 : ¬ (w < (1 : Int32))) (hn4 : ¬ ((4 : Int32) < w)) (h : ¬ (w = (4 : Int32))) : ¬ ((4 : Int32) < (w + (1 : Int32))) := by
  rw [Int32.lt_iff_toInt_lt] at hn1 hn4 ⊢
  have l1 : (1 : Int32).toInt = 1 := rfl
  have l4 : (4 : Int32).toInt = 4 := rfl
  have h' : ¬ w.toInt = 4 := fun q => h (Int32.toInt_inj.mp (q.trans l4.symm))
  have a := c_iadd w 1
  have r := rng32 (w + 1)
  omega
theorem own_kv (p1 : Int32) : 1 ≤ ((p1 &&& (3 : Int32)) + (1 : Int32)).toInt ∧ ((p1 &&& (3 : Int32)) + (1 : Int32)).toInt ≤ 4 := by
  have e := c_mask p1 3 2 (by decide) (by decide)
  have e2 : ((2 ^ 2 : Nat) : Int) = 4 := by decide
  rw [e2] at e
  have l1 : (1 : Int32).toInt = 1 := rfl
  have a := c_iadd (p1 &&& 3) 1
  have r := rng32 ((p1 &&& 3) + 1)
  omega
theorem own_k1 (p1 : Int32) : ¬ (((p1 &&& (3 : Int32)) + (1 : Int32)) < (1 : Int32)) := by
  have h := own_kv p1
  have l1 : (1 : Int32).toInt = 1 := rfl
  rw [Int32.lt_iff_toInt_lt]; omega
theorem own_k4 (p1 : Int32) : ¬ ((4 : Int32) < ((p1 &&& (3 : Int32)) + (1 : Int32))) := by
  have h := own_kv p1
  have l4 : (4 : Int32).toInt = 4 := rfl
  rw [Int32.lt_iff_toInt_lt]; omega
theorem own_m1 (p0 p1 : Int32) : ¬ (((p1 &&& (3 : Int32)) + (1 : Int32)) < (1 : Int32)) := own_k1 p1
theorem own_m4 (p0 p1 : Int32) : ¬ ((4 : Int32) < ((p1 &&& (3 : Int32)) + (1 : Int32))) := own_k4 p1
theorem pd_1 : parseMethodDescriptor "(II)V" = some ⟨[.int, .int], none⟩ := by decide +kernel
theorem d4_0 : decode prog_27_method_7_code 0 = .ok (.aload_n 0, 1) := by decide +kernel
theorem d4_1 : decode prog_27_method_7_code 1 = .ok (.getfield 22, 3) := by decide +kernel
theorem d4_4 : decode prog_27_method_7_code 4 = .ok (.iconst 4, 1) := by decide +kernel
theorem d4_5 : decode prog_27_method_7_code 5 = .ok (.if_icmp .ne 20, 3) := by decide +kernel
theorem d4_8 : decode prog_27_method_7_code 8 = .ok (.new 17, 3) := by decide +kernel
theorem d4_11 : decode prog_27_method_7_code 11 = .ok (.dup, 1) := by decide +kernel
theorem d4_12 : decode prog_27_method_7_code 12 = .ok (.aload_n 0, 1) := by decide +kernel
theorem d4_13 : decode prog_27_method_7_code 13 = .ok (.getfield 16, 3) := by decide +kernel
theorem d4_16 : decode prog_27_method_7_code 16 = .ok (.iconst 1, 1) := by decide +kernel
theorem d4_17 : decode prog_27_method_7_code 17 = .ok (.iadd, 1) := by decide +kernel
theorem d4_18 : decode prog_27_method_7_code 18 = .ok (.iconst 1, 1) := by decide +kernel
theorem d4_19 : decode prog_27_method_7_code 19 = .ok (.invokespecial 34, 3) := by decide +kernel
theorem d4_22 : decode prog_27_method_7_code 22 = .ok (.goto 20, 3) := by decide +kernel
theorem d4_25 : decode prog_27_method_7_code 25 = .ok (.new 17, 3) := by decide +kernel
theorem d4_28 : decode prog_27_method_7_code 28 = .ok (.dup, 1) := by decide +kernel
theorem d4_29 : decode prog_27_method_7_code 29 = .ok (.aload_n 0, 1) := by decide +kernel
theorem d4_30 : decode prog_27_method_7_code 30 = .ok (.getfield 16, 3) := by decide +kernel
theorem d4_33 : decode prog_27_method_7_code 33 = .ok (.aload_n 0, 1) := by decide +kernel
theorem d4_34 : decode prog_27_method_7_code 34 = .ok (.getfield 22, 3) := by decide +kernel
theorem d4_37 : decode prog_27_method_7_code 37 = .ok (.iconst 1, 1) := by decide +kernel
theorem d4_38 : decode prog_27_method_7_code 38 = .ok (.iadd, 1) := by decide +kernel
theorem d4_39 : decode prog_27_method_7_code 39 = .ok (.invokespecial 34, 3) := by decide +kernel
theorem d4_42 : decode prog_27_method_7_code 42 = .ok (.areturn, 1) := by decide +kernel
theorem ef_4 (m : MethodId) (x0 : Addr) : entryFrame m #[(.ref x0)] 1 = mkF m 0 #[.val (.ref x0)] [] := by first | (simp [entryFrame, mkF, argsToLocals, Value.category]; done) | rfl
def f4_r_year (w_year : Int32) (w_number : Int32) : Int32 := (if w_number = (4 : Int32) then (f1_year (w_year + (1 : Int32)) (1 : Int32) (0 : Int32) (0 : Int32)) else (f1_year w_year (w_number + (1 : Int32)) (0 : Int32) (0 : Int32)))
def f4_r_number (w_year : Int32) (w_number : Int32) : Int32 := (if w_number = (4 : Int32) then (f1_number (w_year + (1 : Int32)) (1 : Int32) (0 : Int32) (0 : Int32)) else (f1_number w_year (w_number + (1 : Int32)) (0 : Int32) (0 : Int32)))
def Q4 (Z : State) (a0t : Addr) (w_year : Int32) (w_number : Int32) (h0 : Heap) (n0 : Nat) (v : Option Value) (h : Heap) (L : List Loc) : Prop := ∃ b : Addr, v = some (.ref b) ∧ Fr n0 L ∧ Keep h0 h [a0t] ∧ Exa Z h a0t "com/example/vestline/vestline/core/Quarter" ∧ Fld Z h a0t "com/example/vestline/vestline/core/Quarter" "year" "I" (.int (w_year)) ∧ Fld Z h a0t "com/example/vestline/vestline/core/Quarter" "number" "I" (.int (w_number)) ∧ h0.size ≤ b ∧ Exa Z h b "com/example/vestline/vestline/core/Quarter" ∧ Fld Z h b "com/example/vestline/vestline/core/Quarter" "year" "I" (.int (f4_r_year w_year w_number)) ∧ Fld Z h b "com/example/vestline/vestline/core/Quarter" "number" "I" (.int (f4_r_number w_year w_number))
set_option maxRecDepth 65536 in
set_option maxHeartbeats 40000000 in
theorem rm4 (l : Launch) (Z : State) (a0 : Array Value) (hw : ∀ d ∈ tables_1, d.before a0 Z = true) (ws : List Jvm.Cond) (a0t : Addr) (w_year : Int32) (w_number : Int32) (h0 : Heap) (n0 : Nat) (Z0 : n0 ≤ h0.size) (E_this : Exa Z h0 a0t "com/example/vestline/vestline/core/Quarter") (g_this : n0 ≤ a0t) (F_year : Fld Z h0 a0t "com/example/vestline/vestline/core/Quarter" "year" "I" (.int w_year)) (F_number : Fld Z h0 a0t "com/example/vestline/vestline/core/Quarter" "number" "I" (.int w_number)) (hn1 : ¬ (w_number < (1 : Int32))) (hn4 : ¬ ((4 : Int32) < w_number)) :
    MetFree l (⟨"com/example/vestline/vestline/core/Quarter", "next", "()Lcom/example/vestline/vestline/core/Quarter;"⟩ : MethodName) (head1 (Jvm.Cond.code (⟨"com/example/vestline/vestline/core/Quarter", "next", "()Lcom/example/vestline/vestline/core/Quarter;"⟩ : MethodName) prog_27_method_7_code 1 (some (.object "com/example/vestline/vestline/core/Quarter")) :: ws) ({ frames := 3, cells := 1, slots := 2, locals := 39 } : Room)) (fun a U => a = #[(.ref a0t)] ∧ Z.Warmed39 U.vm ∧ U.heap = h0) (fun _ _ _ _ _ => True) (fun _ U o U' => ∃ v L, o = .returned v ∧ Q4 Z a0t w_year w_number h0 n0 v U'.heap L ∧ FrameEnd U o U' L ({ frames := 3, cells := 1, slots := 2, locals := 39 } : Room).cells ({ frames := 3, cells := 1, slots := 2, locals := 39 } : Room).slots) := by
  refine MetFree.of_bodySF (plainFor_of_name pn_1) hisR ?_
  intro p e s m args below meth c s₁ Bd hml0 hP hK
  obtain ⟨rfl, hZ, hh⟩ := hP
  have hx := Bd.exec
  have hby := Bd.bytes
  have hml : c.maxLocals = 1 := hml0
  have hown : s.vm.findClass "com/example/vestline/vestline/core/Quarter" = some m.cls := findClass_of_methodNamed Bd.named
  have hnm := (name_of_methodNamed Bd.named Bd.method).1
  have X0 : Stand p l e ({ frames := 3, cells := 1, slots := 2, locals := 39 } : Room) s m #[(.ref a0t)] below meth c s₁ [] 0 0 := Stand.of_body Bd
  have e0 : s₁.heap = h0 := by rw [← hh, Bd.state]; rfl
  have N0 := Fr.nil n0
  have K0 := Keep.refl h0 [a0t]
  have pre0 : ∀ t, Steps p.tables e below (s₁.setTop (mkF m 0 #[.val (.ref a0t)] [])) t → Steps p.tables e below (s₁.setTop (entryFrame m #[(.ref a0t)] 1)) t := fun t k => castTop (ef_4 m a0t) k
  obtain ⟨T1, X1, e1, st1⟩ := getF X0 hx hZ hown (host := "") (Or.inl (hw _ (List.mem_of_getElem? (i := 16) rfl))) Via.refl e0 F_number (g := (mkF m 1 #[.val (.ref a0t)] [(.ref a0t)])) rfl rfl (hb hby d4_1)
  have pre2 : ∀ t, Steps p.tables e below (T1.setTop (mkF m 5 #[.val (.ref a0t)] [(.int (4 : Int32)), (.int w_number)])) t → Steps p.tables e below (s₁.setTop (entryFrame m #[(.ref a0t)] 1)) t := fun t kt => pre0 t (by
    show Steps p.tables e below (s₁.setTop (mkF m 0 #[.val (.ref a0t)] [])) _
    refine XS.aloadN X0.here hx rfl (hb hby d4_0) rfl rfl ?_
    show Steps p.tables e below (s₁.setTop (mkF m 1 #[.val (.ref a0t)] [(.ref a0t)])) _
    refine st1 _ ?_
    show Steps p.tables e below (T1.setTop (mkF m 4 #[.val (.ref a0t)] [(.int w_number)])) _
    refine XS.iconst X1.here hx rfl (hb hby d4_4) ?_
    exact kt)
  by_cases hc3 : w_number = (4 : Int32)
  · obtain ⟨T4, h4, X4, e4, E4, A4, D4, -, st4⟩ := newO X1 hx hZ hown (hw _ (List.mem_of_getElem? (i := 23) rfl)) (hw _ (List.mem_of_getElem? (i := 1) rfl)) (hw _ (List.mem_of_getElem? (i := 2) rfl)) e1 (g := (mkF m 8 #[.val (.ref a0t)] [])) rfl (hb hby d4_8) (by decide) (by decide)
    obtain ⟨b4, g4⟩ : ∃ z, z = h0.size := ⟨_, rfl⟩
    rw [← g4] at A4 D4 st4
    have ne_a0t_b4 : a0t ≠ b4 := Nat.ne_of_lt (Nat.lt_of_lt_of_le E_this.lt (Nat.le_of_eq g4.symm))
    have gn_b4 : n0 ≤ b4 := Nat.le_trans Z0 (Nat.le_of_eq g4.symm)
    have sz_b4 : h0.size ≤ b4 := Nat.le_trans K0.1 (Nat.le_of_eq g4.symm)
    have E_a0t_4 := E_this.ext E4
    have F_year_a0t_4 := F_year.ext E4
    have F_number_a0t_4 := F_number.ext E4
    have Zz4 := Nat.le_trans Z0 E4.1
    have K4 := K0.ext E4
    have F_year_b4 : Fld Z h4 b4 "com/example/vestline/vestline/core/Quarter" "year" "I" (.int (0 : Int32)) := D4 (Or.inr (hw _ (List.mem_of_getElem? (i := 15) rfl))) (ty := .int) (by decide)
    have F_number_b4 : Fld Z h4 b4 "com/example/vestline/vestline/core/Quarter" "number" "I" (.int (0 : Int32)) := D4 (Or.inr (hw _ (List.mem_of_getElem? (i := 17) rfl))) (ty := .int) (by decide)
    obtain ⟨T5, X5, e5, st5⟩ := getF X4 hx hZ hown (host := "") (Or.inl (hw _ (List.mem_of_getElem? (i := 14) rfl))) Via.refl e4 F_year_a0t_4 (g := (mkF m 13 #[.val (.ref a0t)] [(.ref a0t), (.ref b4), (.ref b4)])) rfl rfl (hb hby d4_13)
    obtain ⟨_, _, ⟨T6, L6, k6, n6⟩, -, X6, ⟨Lc6, hQ6, l6, y6, z6⟩, st6⟩ := X5.specialBack hx (y := (⟨"com/example/vestline/vestline/core/Quarter", "<init>", "(II)V"⟩ : MethodName)) rfl hown (mvT hZ (hw _ (List.mem_of_getElem? (i := 24) rfl))) (mvT hZ (hw _ (List.mem_of_getElem? (i := 4) rfl))) (mvT hZ (hw _ (List.mem_of_getElem? (i := 5) rfl))) (by decide) (backOf (W := 1) (rm1 l Z a0 hw [] b4 (w_year + (1 : Int32)) (1 : Int32) (0 : Int32) (0 : Int32) h4 n0 Zz4 A4 gn_b4 F_year_b4 F_number_b4 (by decide) (by decide)) hZ (hw _ (List.mem_of_getElem? (i := 5) rfl)) (hw _ (List.mem_of_getElem? (i := 2) rfl)) (by decide) (by decide)) (g := (mkF m 19 #[.val (.ref a0t)] [(.int (1 : Int32)), (.int (w_year + (1 : Int32))), (.ref b4), (.ref b4)])) rfl (by rw [hml]; rfl) (Steps.refl _) (a := b4) (argsL := [(.int (w_year + (1 : Int32))), (.int (1 : Int32))]) (rest := [(.ref b4)]) (lenOf pd_1 rfl) rfl (by show 2 * 0 + _ ≤ _; exact Nat.le_of_eq rfl) (hb hby d4_19) (fun _ _ => ⟨rfl, e5, (by decide : 1 + 0 ≤ _), (by decide : 2 + 0 ≤ _)⟩)
    dsimp only [Pt.U, Pt.locs, Pt.cells, Pt.slots] at X6 l6 y6 z6 st6 hQ6
    subst l6 y6 z6
    obtain ⟨rfl, N6q, K6q, E6q, F6q_year, F6q_number⟩ := hQ6
    have E_a0t_6 := E_a0t_4.keep K6q
    have F_year_a0t_6 := F_year_a0t_4.keep K6q (ninS ne_a0t_b4 nin0)
    have F_number_a0t_6 := F_number_a0t_4.keep K6q (ninS ne_a0t_b4 nin0)
    have Zz6 := Nat.le_trans Zz4 K6q.1
    have K6 : Keep h0 T6.heap [a0t] := K4.trans K6q (allS (Or.inr sz_b4) all0)
    have N6 := Fr.app N0 N6q
    obtain ⟨fs, hr, hrun, hended, hW, hsame⟩ := X6.leave (v := some (.ref b4)) (fun h => by rw [Bd.returns] at h; cases h)
    refine ⟨_, _, pre2 _ ?_, hrun, hended, _, _, rfl, ?_, ⟨_, rfl⟩, hW, hsame.mono (by decide) (by decide)⟩
    · show Steps p.tables e below (T1.setTop (mkF m 5 #[.val (.ref a0t)] [(.int (4 : Int32)), (.int w_number)])) _
      refine XS.icmpNo X1.here hx rfl (hb hby d4_5) rfl (teq hc3).2 ?_
      show Steps p.tables e below (T1.setTop (mkF m 8 #[.val (.ref a0t)] [])) _
      refine st4 _ ?_
      show Steps p.tables e below (T4.setTop (mkF m 11 #[.val (.ref a0t)] [(.ref b4)])) _
      refine XS.dup X4.here hx rfl (hb hby d4_11) rfl rfl ?_
      show Steps p.tables e below (T4.setTop (mkF m 12 #[.val (.ref a0t)] [(.ref b4), (.ref b4)])) _
      refine XS.aloadN X4.here hx rfl (hb hby d4_12) rfl rfl ?_
      show Steps p.tables e below (T4.setTop (mkF m 13 #[.val (.ref a0t)] [(.ref a0t), (.ref b4), (.ref b4)])) _
      refine st5 _ ?_
      show Steps p.tables e below (T5.setTop (mkF m 16 #[.val (.ref a0t)] [(.int w_year), (.ref b4), (.ref b4)])) _
      refine XS.iconst X5.here hx rfl (hb hby d4_16) ?_
      show Steps p.tables e below (T5.setTop (mkF m 17 #[.val (.ref a0t)] [(.int (1 : Int32)), (.int w_year), (.ref b4), (.ref b4)])) _
      refine XS.iadd X5.here hx rfl (hb hby d4_17) rfl ?_
      show Steps p.tables e below (T5.setTop (mkF m 18 #[.val (.ref a0t)] [(.int (w_year + (1 : Int32))), (.ref b4), (.ref b4)])) _
      refine XS.iconst X5.here hx rfl (hb hby d4_18) ?_
      show Steps p.tables e below (T5.setTop (mkF m 19 #[.val (.ref a0t)] [(.int (1 : Int32)), (.int (w_year + (1 : Int32))), (.ref b4), (.ref b4)])) _
      refine st6.trans ?_
      show Steps p.tables e below (T6.setTop (mkF m 22 #[.val (.ref a0t)] [(.ref b4)])) _
      refine XS.goto X6.here hx rfl (pc0 := 22) (pc' := 42) rfl (hb hby d4_22) (by decide) (by decide) ?_
      show Steps p.tables e below (T6.setTop (mkF m 42 #[.val (.ref a0t)] [(.ref b4)])) _
      jvm_step X6.here [X6.here.top, hx, (hb hby d4_42), X6.method', Bd.returns, Value.isRef, FieldType.isReference]
      first | (intro acts; rw [hr _ acts rfl rfl rfl]) | rw [hr _ _ rfl rfl rfl]
      exact Steps.refl _
    · show Q4 Z a0t w_year w_number h0 n0 _ T6.heap _
      exact ⟨b4, rfl, N6, K6, E_a0t_6, F_year_a0t_6, F_number_a0t_6, sz_b4, E6q, by rw [show f4_r_year w_year w_number = (f1_year (w_year + (1 : Int32)) (1 : Int32) (0 : Int32) (0 : Int32)) from by unfold f4_r_year; rw [if_pos hc3]]; exact F6q_year, by rw [show f4_r_number w_year w_number = (f1_number (w_year + (1 : Int32)) (1 : Int32) (0 : Int32) (0 : Int32)) from by unfold f4_r_number; rw [if_pos hc3]]; exact F6q_number⟩
  · obtain ⟨T7, h7, X7, e7, E7, A7, D7, -, st7⟩ := newO X1 hx hZ hown (hw _ (List.mem_of_getElem? (i := 23) rfl)) (hw _ (List.mem_of_getElem? (i := 1) rfl)) (hw _ (List.mem_of_getElem? (i := 2) rfl)) e1 (g := (mkF m 25 #[.val (.ref a0t)] [])) rfl (hb hby d4_25) (by decide) (by decide)
    obtain ⟨b7, g7⟩ : ∃ z, z = h0.size := ⟨_, rfl⟩
    rw [← g7] at A7 D7 st7
    have ne_a0t_b7 : a0t ≠ b7 := Nat.ne_of_lt (Nat.lt_of_lt_of_le E_this.lt (Nat.le_of_eq g7.symm))
    have gn_b7 : n0 ≤ b7 := Nat.le_trans Z0 (Nat.le_of_eq g7.symm)
    have sz_b7 : h0.size ≤ b7 := Nat.le_trans K0.1 (Nat.le_of_eq g7.symm)
    have E_a0t_7 := E_this.ext E7
    have F_year_a0t_7 := F_year.ext E7
    have F_number_a0t_7 := F_number.ext E7
    have Zz7 := Nat.le_trans Z0 E7.1
    have K7 := K0.ext E7
    have F_year_b7 : Fld Z h7 b7 "com/example/vestline/vestline/core/Quarter" "year" "I" (.int (0 : Int32)) := D7 (Or.inr (hw _ (List.mem_of_getElem? (i := 15) rfl))) (ty := .int) (by decide)
    have F_number_b7 : Fld Z h7 b7 "com/example/vestline/vestline/core/Quarter" "number" "I" (.int (0 : Int32)) := D7 (Or.inr (hw _ (List.mem_of_getElem? (i := 17) rfl))) (ty := .int) (by decide)
    obtain ⟨T8, X8, e8, st8⟩ := getF X7 hx hZ hown (host := "") (Or.inl (hw _ (List.mem_of_getElem? (i := 14) rfl))) Via.refl e7 F_year_a0t_7 (g := (mkF m 30 #[.val (.ref a0t)] [(.ref a0t), (.ref b7), (.ref b7)])) rfl rfl (hb hby d4_30)
    obtain ⟨T9, X9, e9, st9⟩ := getF X8 hx hZ hown (host := "") (Or.inl (hw _ (List.mem_of_getElem? (i := 16) rfl))) Via.refl e8 F_number_a0t_7 (g := (mkF m 34 #[.val (.ref a0t)] [(.ref a0t), (.int w_year), (.ref b7), (.ref b7)])) rfl rfl (hb hby d4_34)
    obtain ⟨_, _, ⟨T10, L10, k10, n10⟩, -, X10, ⟨Lc10, hQ10, l10, y10, z10⟩, st10⟩ := X9.specialBack hx (y := (⟨"com/example/vestline/vestline/core/Quarter", "<init>", "(II)V"⟩ : MethodName)) rfl hown (mvT hZ (hw _ (List.mem_of_getElem? (i := 24) rfl))) (mvT hZ (hw _ (List.mem_of_getElem? (i := 4) rfl))) (mvT hZ (hw _ (List.mem_of_getElem? (i := 5) rfl))) (by decide) (backOf (W := 1) (rm1 l Z a0 hw [] b7 w_year (w_number + (1 : Int32)) (0 : Int32) (0 : Int32) h7 n0 Zz7 A7 gn_b7 F_year_b7 F_number_b7 (own_n1 w_number hn1 hn4 hc3) (own_n4 w_number hn1 hn4 hc3)) hZ (hw _ (List.mem_of_getElem? (i := 5) rfl)) (hw _ (List.mem_of_getElem? (i := 2) rfl)) (by decide) (by decide)) (g := (mkF m 39 #[.val (.ref a0t)] [(.int (w_number + (1 : Int32))), (.int w_year), (.ref b7), (.ref b7)])) rfl (by rw [hml]; rfl) (Steps.refl _) (a := b7) (argsL := [(.int w_year), (.int (w_number + (1 : Int32)))]) (rest := [(.ref b7)]) (lenOf pd_1 rfl) rfl (by show 2 * 0 + _ ≤ _; exact Nat.le_of_eq rfl) (hb hby d4_39) (fun _ _ => ⟨rfl, e9, (by decide : 1 + 0 ≤ _), (by decide : 2 + 0 ≤ _)⟩)
    dsimp only [Pt.U, Pt.locs, Pt.cells, Pt.slots] at X10 l10 y10 z10 st10 hQ10
    subst l10 y10 z10
    obtain ⟨rfl, N10q, K10q, E10q, F10q_year, F10q_number⟩ := hQ10
    have E_a0t_10 := E_a0t_7.keep K10q
    have F_year_a0t_10 := F_year_a0t_7.keep K10q (ninS ne_a0t_b7 nin0)
    have F_number_a0t_10 := F_number_a0t_7.keep K10q (ninS ne_a0t_b7 nin0)
    have Zz10 := Nat.le_trans Zz7 K10q.1
    have K10 : Keep h0 T10.heap [a0t] := K7.trans K10q (allS (Or.inr sz_b7) all0)
    have N10 := Fr.app N0 N10q
    obtain ⟨fs, hr, hrun, hended, hW, hsame⟩ := X10.leave (v := some (.ref b7)) (fun h => by rw [Bd.returns] at h; cases h)
    refine ⟨_, _, pre2 _ ?_, hrun, hended, _, _, rfl, ?_, ⟨_, rfl⟩, hW, hsame.mono (by decide) (by decide)⟩
    · show Steps p.tables e below (T1.setTop (mkF m 5 #[.val (.ref a0t)] [(.int (4 : Int32)), (.int w_number)])) _
      refine XS.icmpYes X1.here hx rfl (pc0 := 5) (pc' := 25) rfl (hb hby d4_5) rfl (feq hc3).2 (by decide) (by decide) ?_
      show Steps p.tables e below (T1.setTop (mkF m 25 #[.val (.ref a0t)] [])) _
      refine st7 _ ?_
      show Steps p.tables e below (T7.setTop (mkF m 28 #[.val (.ref a0t)] [(.ref b7)])) _
      refine XS.dup X7.here hx rfl (hb hby d4_28) rfl rfl ?_
      show Steps p.tables e below (T7.setTop (mkF m 29 #[.val (.ref a0t)] [(.ref b7), (.ref b7)])) _
      refine XS.aloadN X7.here hx rfl (hb hby d4_29) rfl rfl ?_
      show Steps p.tables e below (T7.setTop (mkF m 30 #[.val (.ref a0t)] [(.ref a0t), (.ref b7), (.ref b7)])) _
      refine st8 _ ?_
      show Steps p.tables e below (T8.setTop (mkF m 33 #[.val (.ref a0t)] [(.int w_year), (.ref b7), (.ref b7)])) _
      refine XS.aloadN X8.here hx rfl (hb hby d4_33) rfl rfl ?_
      show Steps p.tables e below (T8.setTop (mkF m 34 #[.val (.ref a0t)] [(.ref a0t), (.int w_year), (.ref b7), (.ref b7)])) _
      refine st9 _ ?_
      show Steps p.tables e below (T9.setTop (mkF m 37 #[.val (.ref a0t)] [(.int w_number), (.int w_year), (.ref b7), (.ref b7)])) _
      refine XS.iconst X9.here hx rfl (hb hby d4_37) ?_
      show Steps p.tables e below (T9.setTop (mkF m 38 #[.val (.ref a0t)] [(.int (1 : Int32)), (.int w_number), (.int w_year), (.ref b7), (.ref b7)])) _
      refine XS.iadd X9.here hx rfl (hb hby d4_38) rfl ?_
      show Steps p.tables e below (T9.setTop (mkF m 39 #[.val (.ref a0t)] [(.int (w_number + (1 : Int32))), (.int w_year), (.ref b7), (.ref b7)])) _
      refine st10.trans ?_
      show Steps p.tables e below (T10.setTop (mkF m 42 #[.val (.ref a0t)] [(.ref b7)])) _
      jvm_step X10.here [X10.here.top, hx, (hb hby d4_42), X10.method', Bd.returns, Value.isRef, FieldType.isReference]
      first | (intro acts; rw [hr _ acts rfl rfl rfl]) | rw [hr _ _ rfl rfl rfl]
      exact Steps.refl _
    · show Q4 Z a0t w_year w_number h0 n0 _ T10.heap _
      exact ⟨b7, rfl, N10, K10, E_a0t_10, F_year_a0t_10, F_number_a0t_10, sz_b7, E10q, by rw [show f4_r_year w_year w_number = (f1_year w_year (w_number + (1 : Int32)) (0 : Int32) (0 : Int32)) from by unfold f4_r_year; rw [if_neg hc3]]; exact F10q_year, by rw [show f4_r_number w_year w_number = (f1_number w_year (w_number + (1 : Int32)) (0 : Int32) (0 : Int32)) from by unfold f4_r_number; rw [if_neg hc3]]; exact F10q_number⟩
theorem d5_0 : decode prog_27_method_12_code 0 = .ok (.aload_n 0, 1) := by decide +kernel
theorem d5_1 : decode prog_27_method_12_code 1 = .ok (.getfield 22, 3) := by decide +kernel
theorem d5_4 : decode prog_27_method_12_code 4 = .ok (.ireturn, 1) := by decide +kernel
theorem ef_5 (m : MethodId) (x0 : Addr) : entryFrame m #[(.ref x0)] 1 = mkF m 0 #[.val (.ref x0)] [] := by first | (simp [entryFrame, mkF, argsToLocals, Value.category]; done) | rfl
def f5 (w_year : Int32) (w_number : Int32) : Int32 := w_number
def Q5 (Z : State) (a0t : Addr) (w_year : Int32) (w_number : Int32) (h0 : Heap) (n0 : Nat) (v : Option Value) (h : Heap) (L : List Loc) : Prop := v = some (.int (f5 w_year w_number)) ∧ Fr n0 L ∧ h = h0
set_option maxRecDepth 65536 in
set_option maxHeartbeats 40000000 in
theorem rm5 (l : Launch) (Z : State) (a0 : Array Value) (hw : ∀ d ∈ tables_1, d.before a0 Z = true) (ws : List Jvm.Cond) (a0t : Addr) (w_year : Int32) (w_number : Int32) (h0 : Heap) (n0 : Nat) (Z0 : n0 ≤ h0.size) (E_this : Exa Z h0 a0t "com/example/vestline/vestline/core/Quarter") (g_this : n0 ≤ a0t) (F_year : Fld Z h0 a0t "com/example/vestline/vestline/core/Quarter" "year" "I" (.int w_year)) (F_number : Fld Z h0 a0t "com/example/vestline/vestline/core/Quarter" "number" "I" (.int w_number)) :
    MetFree l (⟨"com/example/vestline/vestline/core/Quarter", "number", "()I"⟩ : MethodName) (head1 (Jvm.Cond.code (⟨"com/example/vestline/vestline/core/Quarter", "number", "()I"⟩ : MethodName) prog_27_method_12_code 1 (some .int) :: ws) ({ frames := 0, cells := 0, slots := 0, locals := 0 } : Room)) (fun a U => a = #[(.ref a0t)] ∧ Z.Warmed39 U.vm ∧ U.heap = h0) (fun _ _ _ _ _ => True) (fun _ U o U' => ∃ v L, o = .returned v ∧ Q5 Z a0t w_year w_number h0 n0 v U'.heap L ∧ FrameEnd U o U' L ({ frames := 0, cells := 0, slots := 0, locals := 0 } : Room).cells ({ frames := 0, cells := 0, slots := 0, locals := 0 } : Room).slots) := by
  refine MetFree.of_bodySF (plainFor_of_name pn_1) hisR ?_
  intro p e s m args below meth c s₁ Bd hml0 hP hK
  obtain ⟨rfl, hZ, hh⟩ := hP
  have hx := Bd.exec
  have hby := Bd.bytes
  have hml : c.maxLocals = 1 := hml0
  have hown : s.vm.findClass "com/example/vestline/vestline/core/Quarter" = some m.cls := findClass_of_methodNamed Bd.named
  have hnm := (name_of_methodNamed Bd.named Bd.method).1
  have X0 : Stand p l e ({ frames := 0, cells := 0, slots := 0, locals := 0 } : Room) s m #[(.ref a0t)] below meth c s₁ [] 0 0 := Stand.of_body Bd
  have e0 : s₁.heap = h0 := by rw [← hh, Bd.state]; rfl
  have N0 := Fr.nil n0
  have K0 := Keep.refl h0 [a0t]
  have pre0 : ∀ t, Steps p.tables e below (s₁.setTop (mkF m 0 #[.val (.ref a0t)] [])) t → Steps p.tables e below (s₁.setTop (entryFrame m #[(.ref a0t)] 1)) t := fun t k => castTop (ef_5 m a0t) k
  obtain ⟨T1, X1, e1, st1⟩ := getF X0 hx hZ hown (host := "") (Or.inl (hw _ (List.mem_of_getElem? (i := 16) rfl))) Via.refl e0 F_number (g := (mkF m 1 #[.val (.ref a0t)] [(.ref a0t)])) rfl rfl (hb hby d5_1)
  obtain ⟨fs, hr, hrun, hended, hW, hsame⟩ := X1.leave (v := some (.int w_number)) (fun h => by rw [Bd.returns] at h; cases h)
  refine ⟨_, _, pre0 _ ?_, hrun, hended, _, _, rfl, ?_, ⟨_, rfl⟩, hW, hsame.mono (by decide) (by decide)⟩
  · show Steps p.tables e below (s₁.setTop (mkF m 0 #[.val (.ref a0t)] [])) _
    refine XS.aloadN X0.here hx rfl (hb hby d5_0) rfl rfl ?_
    show Steps p.tables e below (s₁.setTop (mkF m 1 #[.val (.ref a0t)] [(.ref a0t)])) _
    refine st1 _ ?_
    show Steps p.tables e below (T1.setTop (mkF m 4 #[.val (.ref a0t)] [(.int w_number)])) _
    exact retI X1 hx Bd.returns (hb hby d5_4) hr
  · show Q5 Z a0t w_year w_number h0 n0 _ T1.heap _
    rw [e1]
    exact ⟨by rw [show f5 w_year w_number = w_number from by unfold f5; rfl], N0, rfl⟩
theorem d6_0 : decode prog_27_method_11_code 0 = .ok (.aload_n 0, 1) := by decide +kernel
theorem d6_1 : decode prog_27_method_11_code 1 = .ok (.getfield 16, 3) := by decide +kernel
theorem d6_4 : decode prog_27_method_11_code 4 = .ok (.ireturn, 1) := by decide +kernel
theorem ef_6 (m : MethodId) (x0 : Addr) : entryFrame m #[(.ref x0)] 1 = mkF m 0 #[.val (.ref x0)] [] := by first | (simp [entryFrame, mkF, argsToLocals, Value.category]; done) | rfl
def f6 (w_year : Int32) (w_number : Int32) : Int32 := w_year
def Q6 (Z : State) (a0t : Addr) (w_year : Int32) (w_number : Int32) (h0 : Heap) (n0 : Nat) (v : Option Value) (h : Heap) (L : List Loc) : Prop := v = some (.int (f6 w_year w_number)) ∧ Fr n0 L ∧ h = h0
set_option maxRecDepth 65536 in
set_option maxHeartbeats 40000000 in
theorem rm6 (l : Launch) (Z : State) (a0 : Array Value) (hw : ∀ d ∈ tables_1, d.before a0 Z = true) (ws : List Jvm.Cond) (a0t : Addr) (w_year : Int32) (w_number : Int32) (h0 : Heap) (n0 : Nat) (Z0 : n0 ≤ h0.size) (E_this : Exa Z h0 a0t "com/example/vestline/vestline/core/Quarter") (g_this : n0 ≤ a0t) (F_year : Fld Z h0 a0t "com/example/vestline/vestline/core/Quarter" "year" "I" (.int w_year)) (F_number : Fld Z h0 a0t "com/example/vestline/vestline/core/Quarter" "number" "I" (.int w_number)) :
    MetFree l (⟨"com/example/vestline/vestline/core/Quarter", "year", "()I"⟩ : MethodName) (head1 (Jvm.Cond.code (⟨"com/example/vestline/vestline/core/Quarter", "year", "()I"⟩ : MethodName) prog_27_method_11_code 1 (some .int) :: ws) ({ frames := 0, cells := 0, slots := 0, locals := 0 } : Room)) (fun a U => a = #[(.ref a0t)] ∧ Z.Warmed39 U.vm ∧ U.heap = h0) (fun _ _ _ _ _ => True) (fun _ U o U' => ∃ v L, o = .returned v ∧ Q6 Z a0t w_year w_number h0 n0 v U'.heap L ∧ FrameEnd U o U' L ({ frames := 0, cells := 0, slots := 0, locals := 0 } : Room).cells ({ frames := 0, cells := 0, slots := 0, locals := 0 } : Room).slots) := by
  refine MetFree.of_bodySF (plainFor_of_name pn_1) hisR ?_
  intro p e s m args below meth c s₁ Bd hml0 hP hK
  obtain ⟨rfl, hZ, hh⟩ := hP
  have hx := Bd.exec
  have hby := Bd.bytes
  have hml : c.maxLocals = 1 := hml0
  have hown : s.vm.findClass "com/example/vestline/vestline/core/Quarter" = some m.cls := findClass_of_methodNamed Bd.named
  have hnm := (name_of_methodNamed Bd.named Bd.method).1
  have X0 : Stand p l e ({ frames := 0, cells := 0, slots := 0, locals := 0 } : Room) s m #[(.ref a0t)] below meth c s₁ [] 0 0 := Stand.of_body Bd
  have e0 : s₁.heap = h0 := by rw [← hh, Bd.state]; rfl
  have N0 := Fr.nil n0
  have K0 := Keep.refl h0 [a0t]
  have pre0 : ∀ t, Steps p.tables e below (s₁.setTop (mkF m 0 #[.val (.ref a0t)] [])) t → Steps p.tables e below (s₁.setTop (entryFrame m #[(.ref a0t)] 1)) t := fun t k => castTop (ef_6 m a0t) k
  obtain ⟨T1, X1, e1, st1⟩ := getF X0 hx hZ hown (host := "") (Or.inl (hw _ (List.mem_of_getElem? (i := 14) rfl))) Via.refl e0 F_year (g := (mkF m 1 #[.val (.ref a0t)] [(.ref a0t)])) rfl rfl (hb hby d6_1)
  obtain ⟨fs, hr, hrun, hended, hW, hsame⟩ := X1.leave (v := some (.int w_year)) (fun h => by rw [Bd.returns] at h; cases h)
  refine ⟨_, _, pre0 _ ?_, hrun, hended, _, _, rfl, ?_, ⟨_, rfl⟩, hW, hsame.mono (by decide) (by decide)⟩
  · show Steps p.tables e below (s₁.setTop (mkF m 0 #[.val (.ref a0t)] [])) _
    refine XS.aloadN X0.here hx rfl (hb hby d6_0) rfl rfl ?_
    show Steps p.tables e below (s₁.setTop (mkF m 1 #[.val (.ref a0t)] [(.ref a0t)])) _
    refine st1 _ ?_
    show Steps p.tables e below (T1.setTop (mkF m 4 #[.val (.ref a0t)] [(.int w_year)])) _
    exact retI X1 hx Bd.returns (hb hby d6_4) hr
  · show Q6 Z a0t w_year w_number h0 n0 _ T1.heap _
    rw [e1]
    exact ⟨by rw [show f6 w_year w_number = w_year from by unfold f6; rfl], N0, rfl⟩
theorem pd_2 : parseMethodDescriptor "()Lcom/example/vestline/vestline/core/Quarter;" = some ⟨[], some (.object "com/example/vestline/vestline/core/Quarter")⟩ := by decide +kernel
theorem pd_3 : parseMethodDescriptor "()I" = some ⟨[], some .int⟩ := by decide +kernel
theorem pn_2 : plainName "com/example/vestline/vestline/core/QuarterNextPinLaw" = true := by first | (simp [plainName, overriddenIn]; done) | decide +kernel
theorem ef_0 (m : MethodId) (x0 : Int32) (x1 : Int32) : entryFrame m #[(.int x0), (.int x1)] maxLocals = mkF m 0 #[.val (.int x0), .val (.int x1), .unset, .unset, .unset, .unset, .unset, .unset, .unset, .unset, .unset, .unset] [] := by first | (simp [entryFrame, mkF, argsToLocals, Value.category, maxLocals]; done) | rfl
def f0_e1 (p0 : Int32) (p1 : Int32) : Int32 := (f1_year p0 ((p1 &&& (3 : Int32)) + (1 : Int32)) (0 : Int32) (0 : Int32))
def f0_e2 (p0 : Int32) (p1 : Int32) : Int32 := (f1_number p0 ((p1 &&& (3 : Int32)) + (1 : Int32)) (0 : Int32) (0 : Int32))
def f0_e3 (p0 : Int32) (p1 : Int32) : Int64 := (((p0.toInt64) * (4 : Int64)) + ((((p1 &&& (3 : Int32)) + (1 : Int32)) - (1 : Int32)).toInt64))
def f0_e4 (p0 : Int32) (p1 : Int32) : Int32 := (f5 (f4_r_year (f0_e1 p0 p1) (f0_e2 p0 p1)) (f4_r_number (f0_e1 p0 p1) (f0_e2 p0 p1)))
def f0_e5 (p0 : Int32) (p1 : Int32) : Int32 := (f6 (f4_r_year (f0_e1 p0 p1) (f0_e2 p0 p1)) (f4_r_number (f0_e1 p0 p1) (f0_e2 p0 p1)))
def f0_e6 (p0 : Int32) (p1 : Int32) : Int64 := ((((f0_e5 p0 p1).toInt64) * (4 : Int64)) + (((f0_e4 p0 p1) - (1 : Int32)).toInt64))
def f0_s0_77001 (p0 : Int32) (p1 : Int32) : Int32 := (if (f0_e4 p0 p1) < (1 : Int32) then (0 : Int32) else (if (4 : Int32) < (f0_e4 p0 p1) then (0 : Int32) else (1 : Int32)))
def f0_e7 (p0 : Int32) (p1 : Int32) : Int32 := (lcmpW (((f0_e6 p0 p1) - (f0_e3 p0 p1)) &&& (17179869183 : Int64)) (1 : Int64))
def f0_s0_98002 (p0 : Int32) (p1 : Int32) : Int32 := (if (f0_e7 p0 p1) = (0 : Int32) then (1 : Int32) else (0 : Int32))
def f0 (p0 : Int32) (p1 : Int32) : Int32 := (if (f0_s0_77001 p0 p1) = (0 : Int32) then (0 : Int32) else (if (f0_s0_98002 p0 p1) = (0 : Int32) then (0 : Int32) else (1 : Int32)))
def Q0 (Z : State) (p0 : Int32) (p1 : Int32) (h0 : Heap) (n0 : Nat) (v : Option Value) (h : Heap) (L : List Loc) : Prop := v = some (.int (f0 p0 p1)) ∧ Fr n0 L
set_option maxRecDepth 65536 in
set_option maxHeartbeats 40000000 in
theorem rm0 (l : Launch) (Z : State) (a0 : Array Value) (hw : ∀ d ∈ tables_1, d.before a0 Z = true) (ws : List Jvm.Cond) (p0 : Int32) (p1 : Int32) (h0 : Heap) (n0 : Nat) (Z0 : n0 ≤ h0.size)  :
    MetFree l x (head1 (Jvm.Cond.code x code maxLocals ret :: ws) room_1) (fun a U => a = #[(.int p0), (.int p1)] ∧ Z.Warmed39 U.vm ∧ U.heap = h0) (fun _ _ _ _ _ => True) (fun _ U o U' => ∃ v L, o = .returned v ∧ Q0 Z p0 p1 h0 n0 v U'.heap L ∧ FrameEnd U o U' L room_1.cells room_1.slots) := by
  refine MetFree.of_bodySF (plainFor_of_name pn_2) hisR ?_
  intro p e s m args below meth c s₁ Bd hml0 hP hK
  obtain ⟨rfl, hZ, hh⟩ := hP
  have hx := Bd.exec
  have hby := Bd.bytes
  have hml : c.maxLocals = 12 := hml0
  have hown : s.vm.findClass "com/example/vestline/vestline/core/QuarterNextPinLaw" = some m.cls := findClass_of_methodNamed Bd.named
  have hnm := (name_of_methodNamed Bd.named Bd.method).1
  have X0 : Stand p l e room_1 s m #[(.int p0), (.int p1)] below meth c s₁ [] 0 0 := Stand.of_body Bd
  have e0 : s₁.heap = h0 := by rw [← hh, Bd.state]; rfl
  have N0 := Fr.nil n0
  have K0 := Keep.refl h0 []
  have pre0 : ∀ t, Steps p.tables e below (s₁.setTop (mkF m 0 #[.val (.int p0), .val (.int p1), .unset, .unset, .unset, .unset, .unset, .unset, .unset, .unset, .unset, .unset] [])) t → Steps p.tables e below (s₁.setTop (entryFrame m #[(.int p0), (.int p1)] maxLocals)) t := fun t k => castTop (ef_0 m p0 p1) k
  obtain ⟨T1, h1, X1, e1, E1, A1, D1, -, st1⟩ := newO X0 hx hZ hown (hw _ (List.mem_of_getElem? (i := 0) rfl)) (hw _ (List.mem_of_getElem? (i := 1) rfl)) (hw _ (List.mem_of_getElem? (i := 2) rfl)) e0 (g := (mkF m 6 #[.val (.int p0), .val (.int p1), .val (.int ((p1 &&& (3 : Int32)) + (1 : Int32))), .unset, .unset, .unset, .unset, .unset, .unset, .unset, .unset, .unset] [])) rfl (hb hby at_6) (by decide) (by decide)
  obtain ⟨b1, g1⟩ : ∃ z, z = h0.size := ⟨_, rfl⟩
  rw [← g1] at A1 D1 st1
  have gn_b1 : n0 ≤ b1 := Nat.le_trans Z0 (Nat.le_of_eq g1.symm)
  have sz_b1 : h0.size ≤ b1 := Nat.le_trans K0.1 (Nat.le_of_eq g1.symm)
  have Zz1 := Nat.le_trans Z0 E1.1
  have K1 := K0.ext E1
  have F_year_b1 : Fld Z h1 b1 "com/example/vestline/vestline/core/Quarter" "year" "I" (.int (0 : Int32)) := D1 (Or.inr (hw _ (List.mem_of_getElem? (i := 15) rfl))) (ty := .int) (by decide)
  have F_number_b1 : Fld Z h1 b1 "com/example/vestline/vestline/core/Quarter" "number" "I" (.int (0 : Int32)) := D1 (Or.inr (hw _ (List.mem_of_getElem? (i := 17) rfl))) (ty := .int) (by decide)
  obtain ⟨_, _, ⟨T2, L2, k2, n2⟩, -, X2, ⟨Lc2, hQ2, l2, y2, z2⟩, st2⟩ := X1.specialBack hx (y := (⟨"com/example/vestline/vestline/core/Quarter", "<init>", "(II)V"⟩ : MethodName)) rfl hown (mvT hZ (hw _ (List.mem_of_getElem? (i := 3) rfl))) (mvT hZ (hw _ (List.mem_of_getElem? (i := 4) rfl))) (mvT hZ (hw _ (List.mem_of_getElem? (i := 5) rfl))) (by decide) (backOf (W := 1) (rm1 l Z a0 hw [] b1 p0 ((p1 &&& (3 : Int32)) + (1 : Int32)) (0 : Int32) (0 : Int32) h1 n0 Zz1 A1 gn_b1 F_year_b1 F_number_b1 (own_k1 p1) (own_k4 p1)) hZ (hw _ (List.mem_of_getElem? (i := 5) rfl)) (hw _ (List.mem_of_getElem? (i := 2) rfl)) (by decide) (by decide)) (g := (mkF m 12 #[.val (.int p0), .val (.int p1), .val (.int ((p1 &&& (3 : Int32)) + (1 : Int32))), .unset, .unset, .unset, .unset, .unset, .unset, .unset, .unset, .unset] [(.int ((p1 &&& (3 : Int32)) + (1 : Int32))), (.int p0), (.ref b1), (.ref b1)])) rfl (by rw [hml]; rfl) (Steps.refl _) (a := b1) (argsL := [(.int p0), (.int ((p1 &&& (3 : Int32)) + (1 : Int32)))]) (rest := [(.ref b1)]) (lenOf pd_1 rfl) rfl (by show 2 * 0 + _ ≤ _; exact Nat.le_of_eq rfl) (hb hby at_12) (fun _ _ => ⟨rfl, e1, (by decide : 1 + 0 ≤ _), (by decide : 2 + 0 ≤ _)⟩)
  dsimp only [Pt.U, Pt.locs, Pt.cells, Pt.slots] at X2 l2 y2 z2 st2 hQ2
  subst l2 y2 z2
  obtain ⟨rfl, N2q, K2q, E2q, F2q_year, F2q_number⟩ := hQ2
  have F2n_year : Fld Z T2.heap b1 "com/example/vestline/vestline/core/Quarter" "year" "I" (.int (f0_e1 p0 p1)) := F2q_year
  have F2n_number : Fld Z T2.heap b1 "com/example/vestline/vestline/core/Quarter" "number" "I" (.int (f0_e2 p0 p1)) := F2q_number
  have Zz2 := Nat.le_trans Zz1 K2q.1
  have K2 : Keep h0 T2.heap [] := K1.trans K2q (allS (Or.inr sz_b1) all0)
  have N2 := Fr.app N0 N2q
  obtain ⟨cq3, kq3, q3a, q3b, q3c⟩ := isOf hZ rfl E2q
  obtain ⟨_, _, ⟨T3, L3, k3, n3⟩, -, X3, ⟨Lc3, hQ3, l3, y3, z3⟩, st3⟩ := X2.virtualBack hx (y := (⟨"com/example/vestline/vestline/core/Quarter", "next", "()Lcom/example/vestline/vestline/core/Quarter;"⟩ : MethodName)) (z := (⟨"com/example/vestline/vestline/core/Quarter", "next", "()Lcom/example/vestline/vestline/core/Quarter;"⟩ : MethodName)) hown (mvT hZ (hw _ (List.mem_of_getElem? (i := 18) rfl))) (mvT hZ (hw _ (List.mem_of_getElem? (i := 19) rfl))) (notFace_of_selects (args := #[]) (mvT hZ (hw _ (List.mem_of_getElem? (i := 21) rfl)))) (mvT hZ (hw _ (List.mem_of_getElem? (i := 21) rfl))) (mvT hZ (hw _ (List.mem_of_getElem? (i := 20) rfl))) (by decide) (backOf (W := 0) (rm4 l Z a0 hw [] b1 (f0_e1 p0 p1) (f0_e2 p0 p1) T2.heap n0 Zz2 E2q gn_b1 F2n_year F2n_number (own_m1 p0 p1) (own_m4 p0 p1)) hZ (hw _ (List.mem_of_getElem? (i := 22) rfl)) (hw _ (List.mem_of_getElem? (i := 2) rfl)) (by decide) (by decide)) q3a q3c (g := (mkF m 17 #[.val (.int p0), .val (.int p1), .val (.int ((p1 &&& (3 : Int32)) + (1 : Int32))), .val (.ref b1), .unset, .unset, .unset, .unset, .unset, .unset, .unset, .unset] [(.ref b1)])) rfl (by rw [hml]; rfl) (Steps.refl _) (argsL := []) (rest := []) (lenOf pd_2 rfl) rfl (by show 2 * 0 + _ ≤ _; exact Nat.le_of_eq rfl) (hb hby at_17) (fun _ _ => ⟨rfl, rfl, (by decide : 1 + 1 ≤ _), (by decide : 2 + 2 ≤ _)⟩)
  dsimp only [Pt.U, Pt.locs, Pt.cells, Pt.slots] at X3 l3 y3 z3 st3 hQ3
  subst l3 y3 z3
  obtain ⟨b3, rfl, N3q, K3q, E3q, F3q_year, F3q_number, g3q, Er3q, Fr3q_year, Fr3q_number⟩ := hQ3
  have ne_b1_b3 : b1 ≠ b3 := Nat.ne_of_lt (Nat.lt_of_lt_of_le E2q.lt g3q)
  have gn_b3 : n0 ≤ b3 := Nat.le_trans Zz2 g3q
  have sz_b3 : h0.size ≤ b3 := Nat.le_trans K2.1 g3q
  have Zz3 := Nat.le_trans Zz2 K3q.1
  have K3 : Keep h0 T3.heap [] := K2.trans K3q (allS (Or.inr sz_b1) all0)
  have N3 := Fr.app N2 N3q
  obtain ⟨cq4, kq4, q4a, q4b, q4c⟩ := isOf hZ rfl Er3q
  obtain ⟨_, _, ⟨T4, L4, k4, n4⟩, -, X4, ⟨Lc4, hQ4, l4, y4, z4⟩, st4⟩ := X3.virtualBack hx (y := (⟨"com/example/vestline/vestline/core/Quarter", "number", "()I"⟩ : MethodName)) (z := (⟨"com/example/vestline/vestline/core/Quarter", "number", "()I"⟩ : MethodName)) hown (mvT hZ (hw _ (List.mem_of_getElem? (i := 26) rfl))) (mvT hZ (hw _ (List.mem_of_getElem? (i := 27) rfl))) (notFace_of_selects (args := #[]) (mvT hZ (hw _ (List.mem_of_getElem? (i := 29) rfl)))) (mvT hZ (hw _ (List.mem_of_getElem? (i := 29) rfl))) (mvT hZ (hw _ (List.mem_of_getElem? (i := 28) rfl))) (by decide) (backOf (W := 0) (rm5 l Z a0 hw [] b3 (f4_r_year (f0_e1 p0 p1) (f0_e2 p0 p1)) (f4_r_number (f0_e1 p0 p1) (f0_e2 p0 p1)) T3.heap n0 Zz3 Er3q gn_b3 Fr3q_year Fr3q_number) hZ (hw _ (List.mem_of_getElem? (i := 30) rfl)) (hw _ (List.mem_of_getElem? (i := 2) rfl)) (by decide) (by decide)) q4a q4c (g := (mkF m 37 #[.val (.int p0), .val (.int p1), .val (.int ((p1 &&& (3 : Int32)) + (1 : Int32))), .val (.ref b1), .val (.ref b3), .val (.long (f0_e3 p0 p1)), .second, .unset, .unset, .unset, .unset, .unset] [(.ref b3)])) rfl (by rw [hml]; rfl) (Steps.refl _) (argsL := []) (rest := []) (lenOf pd_3 rfl) rfl (by show 2 * 0 + _ ≤ _; exact Nat.le_of_eq rfl) (hb hby at_37) (fun _ _ => ⟨rfl, rfl, (by decide : 2 + 0 ≤ _), (by decide : 4 + 0 ≤ _)⟩)
  dsimp only [Pt.U, Pt.locs, Pt.cells, Pt.slots] at X4 l4 y4 z4 st4 hQ4
  subst l4 y4 z4
  obtain ⟨rfl, N4q, e4⟩ := hQ4
  have N4 := Fr.app N3 N4q
  obtain ⟨cq5, kq5, q5a, q5b, q5c⟩ := isOf hZ e4 Er3q
  obtain ⟨_, _, ⟨T5, L5, k5, n5⟩, -, X5, ⟨Lc5, hQ5, l5, y5, z5⟩, st5⟩ := X4.virtualBack hx (y := (⟨"com/example/vestline/vestline/core/Quarter", "year", "()I"⟩ : MethodName)) (z := (⟨"com/example/vestline/vestline/core/Quarter", "year", "()I"⟩ : MethodName)) hown (mvT hZ (hw _ (List.mem_of_getElem? (i := 31) rfl))) (mvT hZ (hw _ (List.mem_of_getElem? (i := 32) rfl))) (notFace_of_selects (args := #[]) (mvT hZ (hw _ (List.mem_of_getElem? (i := 34) rfl)))) (mvT hZ (hw _ (List.mem_of_getElem? (i := 34) rfl))) (mvT hZ (hw _ (List.mem_of_getElem? (i := 33) rfl))) (by decide) (backOf (W := 0) (rm6 l Z a0 hw [] b3 (f4_r_year (f0_e1 p0 p1) (f0_e2 p0 p1)) (f4_r_number (f0_e1 p0 p1) (f0_e2 p0 p1)) T3.heap n0 Zz3 Er3q gn_b3 Fr3q_year Fr3q_number) hZ (hw _ (List.mem_of_getElem? (i := 35) rfl)) (hw _ (List.mem_of_getElem? (i := 2) rfl)) (by decide) (by decide)) q5a q5c (g := (mkF m 44 #[.val (.int p0), .val (.int p1), .val (.int ((p1 &&& (3 : Int32)) + (1 : Int32))), .val (.ref b1), .val (.ref b3), .val (.long (f0_e3 p0 p1)), .second, .val (.int (f0_e4 p0 p1)), .unset, .unset, .unset, .unset] [(.ref b3)])) rfl (by rw [hml]; rfl) (Steps.refl _) (argsL := []) (rest := []) (lenOf pd_3 rfl) rfl (by show 2 * 0 + _ ≤ _; exact Nat.le_of_eq rfl) (hb hby at_44) (fun _ _ => ⟨rfl, e4, (by decide : 2 + 0 ≤ _), (by decide : 4 + 0 ≤ _)⟩)
  dsimp only [Pt.U, Pt.locs, Pt.cells, Pt.slots] at X5 l5 y5 z5 st5 hQ5
  subst l5 y5 z5
  obtain ⟨rfl, N5q, e5⟩ := hQ5
  have N5 := Fr.app N4 N5q
  have pre6 : ∀ t, Steps p.tables e below (T5.setTop (mkF m 63 #[.val (.int p0), .val (.int p1), .val (.int ((p1 &&& (3 : Int32)) + (1 : Int32))), .val (.ref b1), .val (.ref b3), .val (.long (f0_e3 p0 p1)), .second, .val (.int (f0_e4 p0 p1)), .val (.long (f0_e6 p0 p1)), .second, .unset, .unset] [(.int (1 : Int32)), (.int (f0_e4 p0 p1))])) t → Steps p.tables e below (s₁.setTop (entryFrame m #[(.int p0), (.int p1)] maxLocals)) t := fun t kt => pre0 t (by
    show Steps p.tables e below (s₁.setTop (mkF m 0 #[.val (.int p0), .val (.int p1), .unset, .unset, .unset, .unset, .unset, .unset, .unset, .unset, .unset, .unset] [])) _
    refine XS.iloadN X0.here hx rfl (hb hby at_0) rfl ?_
    show Steps p.tables e below (s₁.setTop (mkF m 1 #[.val (.int p0), .val (.int p1), .unset, .unset, .unset, .unset, .unset, .unset, .unset, .unset, .unset, .unset] [(.int p1)])) _
    refine XS.iconst X0.here hx rfl (hb hby at_1) ?_
    show Steps p.tables e below (s₁.setTop (mkF m 2 #[.val (.int p0), .val (.int p1), .unset, .unset, .unset, .unset, .unset, .unset, .unset, .unset, .unset, .unset] [(.int (3 : Int32)), (.int p1)])) _
    refine XS.iand X0.here hx rfl (hb hby at_2) rfl ?_
    show Steps p.tables e below (s₁.setTop (mkF m 3 #[.val (.int p0), .val (.int p1), .unset, .unset, .unset, .unset, .unset, .unset, .unset, .unset, .unset, .unset] [(.int (p1 &&& (3 : Int32)))])) _
    refine XS.iconst X0.here hx rfl (hb hby at_3) ?_
    show Steps p.tables e below (s₁.setTop (mkF m 4 #[.val (.int p0), .val (.int p1), .unset, .unset, .unset, .unset, .unset, .unset, .unset, .unset, .unset, .unset] [(.int (1 : Int32)), (.int (p1 &&& (3 : Int32)))])) _
    refine XS.iadd X0.here hx rfl (hb hby at_4) rfl ?_
    show Steps p.tables e below (s₁.setTop (mkF m 5 #[.val (.int p0), .val (.int p1), .unset, .unset, .unset, .unset, .unset, .unset, .unset, .unset, .unset, .unset] [(.int ((p1 &&& (3 : Int32)) + (1 : Int32)))])) _
    refine XS.istoreN X0.here hx rfl (hb hby at_5) rfl (l' := #[.val (.int p0), .val (.int p1), .val (.int ((p1 &&& (3 : Int32)) + (1 : Int32))), .unset, .unset, .unset, .unset, .unset, .unset, .unset, .unset, .unset]) rfl ?_
    show Steps p.tables e below (s₁.setTop (mkF m 6 #[.val (.int p0), .val (.int p1), .val (.int ((p1 &&& (3 : Int32)) + (1 : Int32))), .unset, .unset, .unset, .unset, .unset, .unset, .unset, .unset, .unset] [])) _
    refine st1 _ ?_
    show Steps p.tables e below (T1.setTop (mkF m 9 #[.val (.int p0), .val (.int p1), .val (.int ((p1 &&& (3 : Int32)) + (1 : Int32))), .unset, .unset, .unset, .unset, .unset, .unset, .unset, .unset, .unset] [(.ref b1)])) _
    refine XS.dup X1.here hx rfl (hb hby at_9) rfl rfl ?_
    show Steps p.tables e below (T1.setTop (mkF m 10 #[.val (.int p0), .val (.int p1), .val (.int ((p1 &&& (3 : Int32)) + (1 : Int32))), .unset, .unset, .unset, .unset, .unset, .unset, .unset, .unset, .unset] [(.ref b1), (.ref b1)])) _
    refine XS.iloadN X1.here hx rfl (hb hby at_10) rfl ?_
    show Steps p.tables e below (T1.setTop (mkF m 11 #[.val (.int p0), .val (.int p1), .val (.int ((p1 &&& (3 : Int32)) + (1 : Int32))), .unset, .unset, .unset, .unset, .unset, .unset, .unset, .unset, .unset] [(.int p0), (.ref b1), (.ref b1)])) _
    refine XS.iloadN X1.here hx rfl (hb hby at_11) rfl ?_
    show Steps p.tables e below (T1.setTop (mkF m 12 #[.val (.int p0), .val (.int p1), .val (.int ((p1 &&& (3 : Int32)) + (1 : Int32))), .unset, .unset, .unset, .unset, .unset, .unset, .unset, .unset, .unset] [(.int ((p1 &&& (3 : Int32)) + (1 : Int32))), (.int p0), (.ref b1), (.ref b1)])) _
    refine st2.trans ?_
    show Steps p.tables e below (T2.setTop (mkF m 15 #[.val (.int p0), .val (.int p1), .val (.int ((p1 &&& (3 : Int32)) + (1 : Int32))), .unset, .unset, .unset, .unset, .unset, .unset, .unset, .unset, .unset] [(.ref b1)])) _
    refine XS.astoreN X2.here hx rfl (hb hby at_15) rfl rfl (l' := #[.val (.int p0), .val (.int p1), .val (.int ((p1 &&& (3 : Int32)) + (1 : Int32))), .val (.ref b1), .unset, .unset, .unset, .unset, .unset, .unset, .unset, .unset]) rfl ?_
    show Steps p.tables e below (T2.setTop (mkF m 16 #[.val (.int p0), .val (.int p1), .val (.int ((p1 &&& (3 : Int32)) + (1 : Int32))), .val (.ref b1), .unset, .unset, .unset, .unset, .unset, .unset, .unset, .unset] [])) _
    refine XS.aloadN X2.here hx rfl (hb hby at_16) rfl rfl ?_
    show Steps p.tables e below (T2.setTop (mkF m 17 #[.val (.int p0), .val (.int p1), .val (.int ((p1 &&& (3 : Int32)) + (1 : Int32))), .val (.ref b1), .unset, .unset, .unset, .unset, .unset, .unset, .unset, .unset] [(.ref b1)])) _
    refine st3.trans ?_
    show Steps p.tables e below (T3.setTop (mkF m 20 #[.val (.int p0), .val (.int p1), .val (.int ((p1 &&& (3 : Int32)) + (1 : Int32))), .val (.ref b1), .unset, .unset, .unset, .unset, .unset, .unset, .unset, .unset] [(.ref b3)])) _
    refine XS.astore X3.here hx rfl (hb hby at_20) rfl rfl (l' := #[.val (.int p0), .val (.int p1), .val (.int ((p1 &&& (3 : Int32)) + (1 : Int32))), .val (.ref b1), .val (.ref b3), .unset, .unset, .unset, .unset, .unset, .unset, .unset]) rfl ?_
    show Steps p.tables e below (T3.setTop (mkF m 22 #[.val (.int p0), .val (.int p1), .val (.int ((p1 &&& (3 : Int32)) + (1 : Int32))), .val (.ref b1), .val (.ref b3), .unset, .unset, .unset, .unset, .unset, .unset, .unset] [])) _
    refine XS.iloadN X3.here hx rfl (hb hby at_22) rfl ?_
    show Steps p.tables e below (T3.setTop (mkF m 23 #[.val (.int p0), .val (.int p1), .val (.int ((p1 &&& (3 : Int32)) + (1 : Int32))), .val (.ref b1), .val (.ref b3), .unset, .unset, .unset, .unset, .unset, .unset, .unset] [(.int p0)])) _
    refine XS.i2l X3.here hx rfl (hb hby at_23) rfl ?_
    show Steps p.tables e below (T3.setTop (mkF m 24 #[.val (.int p0), .val (.int p1), .val (.int ((p1 &&& (3 : Int32)) + (1 : Int32))), .val (.ref b1), .val (.ref b3), .unset, .unset, .unset, .unset, .unset, .unset, .unset] [(.long (p0.toInt64))])) _
    refine X3.ldc2Long hx hown (mvT hZ (hw _ (List.mem_of_getElem? (i := 25) rfl))) (g := (mkF m 24 #[.val (.int p0), .val (.int p1), .val (.int ((p1 &&& (3 : Int32)) + (1 : Int32))), .val (.ref b1), .val (.ref b3), .unset, .unset, .unset, .unset, .unset, .unset, .unset] [(.long (p0.toInt64))])) rfl (hb hby at_24) _ ?_
    show Steps p.tables e below (T3.setTop (mkF m 27 #[.val (.int p0), .val (.int p1), .val (.int ((p1 &&& (3 : Int32)) + (1 : Int32))), .val (.ref b1), .val (.ref b3), .unset, .unset, .unset, .unset, .unset, .unset, .unset] [(.long (4 : Int64)), (.long (p0.toInt64))])) _
    refine XS.lmul X3.here hx rfl (hb hby at_27) rfl ?_
    show Steps p.tables e below (T3.setTop (mkF m 28 #[.val (.int p0), .val (.int p1), .val (.int ((p1 &&& (3 : Int32)) + (1 : Int32))), .val (.ref b1), .val (.ref b3), .unset, .unset, .unset, .unset, .unset, .unset, .unset] [(.long ((p0.toInt64) * (4 : Int64)))])) _
    refine XS.iloadN X3.here hx rfl (hb hby at_28) rfl ?_
    show Steps p.tables e below (T3.setTop (mkF m 29 #[.val (.int p0), .val (.int p1), .val (.int ((p1 &&& (3 : Int32)) + (1 : Int32))), .val (.ref b1), .val (.ref b3), .unset, .unset, .unset, .unset, .unset, .unset, .unset] [(.int ((p1 &&& (3 : Int32)) + (1 : Int32))), (.long ((p0.toInt64) * (4 : Int64)))])) _
    refine XS.iconst X3.here hx rfl (hb hby at_29) ?_
    show Steps p.tables e below (T3.setTop (mkF m 30 #[.val (.int p0), .val (.int p1), .val (.int ((p1 &&& (3 : Int32)) + (1 : Int32))), .val (.ref b1), .val (.ref b3), .unset, .unset, .unset, .unset, .unset, .unset, .unset] [(.int (1 : Int32)), (.int ((p1 &&& (3 : Int32)) + (1 : Int32))), (.long ((p0.toInt64) * (4 : Int64)))])) _
    refine XS.isub X3.here hx rfl (hb hby at_30) rfl ?_
    show Steps p.tables e below (T3.setTop (mkF m 31 #[.val (.int p0), .val (.int p1), .val (.int ((p1 &&& (3 : Int32)) + (1 : Int32))), .val (.ref b1), .val (.ref b3), .unset, .unset, .unset, .unset, .unset, .unset, .unset] [(.int (((p1 &&& (3 : Int32)) + (1 : Int32)) - (1 : Int32))), (.long ((p0.toInt64) * (4 : Int64)))])) _
    refine XS.i2l X3.here hx rfl (hb hby at_31) rfl ?_
    show Steps p.tables e below (T3.setTop (mkF m 32 #[.val (.int p0), .val (.int p1), .val (.int ((p1 &&& (3 : Int32)) + (1 : Int32))), .val (.ref b1), .val (.ref b3), .unset, .unset, .unset, .unset, .unset, .unset, .unset] [(.long ((((p1 &&& (3 : Int32)) + (1 : Int32)) - (1 : Int32)).toInt64)), (.long ((p0.toInt64) * (4 : Int64)))])) _
    refine XS.ladd X3.here hx rfl (hb hby at_32) rfl ?_
    show Steps p.tables e below (T3.setTop (mkF m 33 #[.val (.int p0), .val (.int p1), .val (.int ((p1 &&& (3 : Int32)) + (1 : Int32))), .val (.ref b1), .val (.ref b3), .unset, .unset, .unset, .unset, .unset, .unset, .unset] [(.long (f0_e3 p0 p1))])) _
    refine XS.lstore X3.here hx rfl (hb hby at_33) rfl (l' := #[.val (.int p0), .val (.int p1), .val (.int ((p1 &&& (3 : Int32)) + (1 : Int32))), .val (.ref b1), .val (.ref b3), .val (.long (f0_e3 p0 p1)), .second, .unset, .unset, .unset, .unset, .unset]) rfl ?_
    show Steps p.tables e below (T3.setTop (mkF m 35 #[.val (.int p0), .val (.int p1), .val (.int ((p1 &&& (3 : Int32)) + (1 : Int32))), .val (.ref b1), .val (.ref b3), .val (.long (f0_e3 p0 p1)), .second, .unset, .unset, .unset, .unset, .unset] [])) _
    refine XS.aload X3.here hx rfl (hb hby at_35) rfl rfl ?_
    show Steps p.tables e below (T3.setTop (mkF m 37 #[.val (.int p0), .val (.int p1), .val (.int ((p1 &&& (3 : Int32)) + (1 : Int32))), .val (.ref b1), .val (.ref b3), .val (.long (f0_e3 p0 p1)), .second, .unset, .unset, .unset, .unset, .unset] [(.ref b3)])) _
    refine st4.trans ?_
    show Steps p.tables e below (T4.setTop (mkF m 40 #[.val (.int p0), .val (.int p1), .val (.int ((p1 &&& (3 : Int32)) + (1 : Int32))), .val (.ref b1), .val (.ref b3), .val (.long (f0_e3 p0 p1)), .second, .unset, .unset, .unset, .unset, .unset] [(.int (f0_e4 p0 p1))])) _
    refine XS.istore X4.here hx rfl (hb hby at_40) rfl (l' := #[.val (.int p0), .val (.int p1), .val (.int ((p1 &&& (3 : Int32)) + (1 : Int32))), .val (.ref b1), .val (.ref b3), .val (.long (f0_e3 p0 p1)), .second, .val (.int (f0_e4 p0 p1)), .unset, .unset, .unset, .unset]) rfl ?_
    show Steps p.tables e below (T4.setTop (mkF m 42 #[.val (.int p0), .val (.int p1), .val (.int ((p1 &&& (3 : Int32)) + (1 : Int32))), .val (.ref b1), .val (.ref b3), .val (.long (f0_e3 p0 p1)), .second, .val (.int (f0_e4 p0 p1)), .unset, .unset, .unset, .unset] [])) _
    refine XS.aload X4.here hx rfl (hb hby at_42) rfl rfl ?_
    show Steps p.tables e below (T4.setTop (mkF m 44 #[.val (.int p0), .val (.int p1), .val (.int ((p1 &&& (3 : Int32)) + (1 : Int32))), .val (.ref b1), .val (.ref b3), .val (.long (f0_e3 p0 p1)), .second, .val (.int (f0_e4 p0 p1)), .unset, .unset, .unset, .unset] [(.ref b3)])) _
    refine st5.trans ?_
    show Steps p.tables e below (T5.setTop (mkF m 47 #[.val (.int p0), .val (.int p1), .val (.int ((p1 &&& (3 : Int32)) + (1 : Int32))), .val (.ref b1), .val (.ref b3), .val (.long (f0_e3 p0 p1)), .second, .val (.int (f0_e4 p0 p1)), .unset, .unset, .unset, .unset] [(.int (f0_e5 p0 p1))])) _
    refine XS.i2l X5.here hx rfl (hb hby at_47) rfl ?_
    show Steps p.tables e below (T5.setTop (mkF m 48 #[.val (.int p0), .val (.int p1), .val (.int ((p1 &&& (3 : Int32)) + (1 : Int32))), .val (.ref b1), .val (.ref b3), .val (.long (f0_e3 p0 p1)), .second, .val (.int (f0_e4 p0 p1)), .unset, .unset, .unset, .unset] [(.long ((f0_e5 p0 p1).toInt64))])) _
    refine X5.ldc2Long hx hown (mvT hZ (hw _ (List.mem_of_getElem? (i := 25) rfl))) (g := (mkF m 48 #[.val (.int p0), .val (.int p1), .val (.int ((p1 &&& (3 : Int32)) + (1 : Int32))), .val (.ref b1), .val (.ref b3), .val (.long (f0_e3 p0 p1)), .second, .val (.int (f0_e4 p0 p1)), .unset, .unset, .unset, .unset] [(.long ((f0_e5 p0 p1).toInt64))])) rfl (hb hby at_48) _ ?_
    show Steps p.tables e below (T5.setTop (mkF m 51 #[.val (.int p0), .val (.int p1), .val (.int ((p1 &&& (3 : Int32)) + (1 : Int32))), .val (.ref b1), .val (.ref b3), .val (.long (f0_e3 p0 p1)), .second, .val (.int (f0_e4 p0 p1)), .unset, .unset, .unset, .unset] [(.long (4 : Int64)), (.long ((f0_e5 p0 p1).toInt64))])) _
    refine XS.lmul X5.here hx rfl (hb hby at_51) rfl ?_
    show Steps p.tables e below (T5.setTop (mkF m 52 #[.val (.int p0), .val (.int p1), .val (.int ((p1 &&& (3 : Int32)) + (1 : Int32))), .val (.ref b1), .val (.ref b3), .val (.long (f0_e3 p0 p1)), .second, .val (.int (f0_e4 p0 p1)), .unset, .unset, .unset, .unset] [(.long (((f0_e5 p0 p1).toInt64) * (4 : Int64)))])) _
    refine XS.iload X5.here hx rfl (hb hby at_52) rfl ?_
    show Steps p.tables e below (T5.setTop (mkF m 54 #[.val (.int p0), .val (.int p1), .val (.int ((p1 &&& (3 : Int32)) + (1 : Int32))), .val (.ref b1), .val (.ref b3), .val (.long (f0_e3 p0 p1)), .second, .val (.int (f0_e4 p0 p1)), .unset, .unset, .unset, .unset] [(.int (f0_e4 p0 p1)), (.long (((f0_e5 p0 p1).toInt64) * (4 : Int64)))])) _
    refine XS.iconst X5.here hx rfl (hb hby at_54) ?_
    show Steps p.tables e below (T5.setTop (mkF m 55 #[.val (.int p0), .val (.int p1), .val (.int ((p1 &&& (3 : Int32)) + (1 : Int32))), .val (.ref b1), .val (.ref b3), .val (.long (f0_e3 p0 p1)), .second, .val (.int (f0_e4 p0 p1)), .unset, .unset, .unset, .unset] [(.int (1 : Int32)), (.int (f0_e4 p0 p1)), (.long (((f0_e5 p0 p1).toInt64) * (4 : Int64)))])) _
    refine XS.isub X5.here hx rfl (hb hby at_55) rfl ?_
    show Steps p.tables e below (T5.setTop (mkF m 56 #[.val (.int p0), .val (.int p1), .val (.int ((p1 &&& (3 : Int32)) + (1 : Int32))), .val (.ref b1), .val (.ref b3), .val (.long (f0_e3 p0 p1)), .second, .val (.int (f0_e4 p0 p1)), .unset, .unset, .unset, .unset] [(.int ((f0_e4 p0 p1) - (1 : Int32))), (.long (((f0_e5 p0 p1).toInt64) * (4 : Int64)))])) _
    refine XS.i2l X5.here hx rfl (hb hby at_56) rfl ?_
    show Steps p.tables e below (T5.setTop (mkF m 57 #[.val (.int p0), .val (.int p1), .val (.int ((p1 &&& (3 : Int32)) + (1 : Int32))), .val (.ref b1), .val (.ref b3), .val (.long (f0_e3 p0 p1)), .second, .val (.int (f0_e4 p0 p1)), .unset, .unset, .unset, .unset] [(.long (((f0_e4 p0 p1) - (1 : Int32)).toInt64)), (.long (((f0_e5 p0 p1).toInt64) * (4 : Int64)))])) _
    refine XS.ladd X5.here hx rfl (hb hby at_57) rfl ?_
    show Steps p.tables e below (T5.setTop (mkF m 58 #[.val (.int p0), .val (.int p1), .val (.int ((p1 &&& (3 : Int32)) + (1 : Int32))), .val (.ref b1), .val (.ref b3), .val (.long (f0_e3 p0 p1)), .second, .val (.int (f0_e4 p0 p1)), .unset, .unset, .unset, .unset] [(.long (f0_e6 p0 p1))])) _
    refine XS.lstore X5.here hx rfl (hb hby at_58) rfl (l' := #[.val (.int p0), .val (.int p1), .val (.int ((p1 &&& (3 : Int32)) + (1 : Int32))), .val (.ref b1), .val (.ref b3), .val (.long (f0_e3 p0 p1)), .second, .val (.int (f0_e4 p0 p1)), .val (.long (f0_e6 p0 p1)), .second, .unset, .unset]) rfl ?_
    show Steps p.tables e below (T5.setTop (mkF m 60 #[.val (.int p0), .val (.int p1), .val (.int ((p1 &&& (3 : Int32)) + (1 : Int32))), .val (.ref b1), .val (.ref b3), .val (.long (f0_e3 p0 p1)), .second, .val (.int (f0_e4 p0 p1)), .val (.long (f0_e6 p0 p1)), .second, .unset, .unset] [])) _
    refine XS.iload X5.here hx rfl (hb hby at_60) rfl ?_
    show Steps p.tables e below (T5.setTop (mkF m 62 #[.val (.int p0), .val (.int p1), .val (.int ((p1 &&& (3 : Int32)) + (1 : Int32))), .val (.ref b1), .val (.ref b3), .val (.long (f0_e3 p0 p1)), .second, .val (.int (f0_e4 p0 p1)), .val (.long (f0_e6 p0 p1)), .second, .unset, .unset] [(.int (f0_e4 p0 p1))])) _
    refine XS.iconst X5.here hx rfl (hb hby at_62) ?_
    exact kt)
  have pre9 : ∀ t, Steps p.tables e below (T5.setTop (mkF m 77 #[.val (.int p0), .val (.int p1), .val (.int ((p1 &&& (3 : Int32)) + (1 : Int32))), .val (.ref b1), .val (.ref b3), .val (.long (f0_e3 p0 p1)), .second, .val (.int (f0_e4 p0 p1)), .val (.long (f0_e6 p0 p1)), .second, .unset, .unset] [(.int (f0_s0_77001 p0 p1))])) t → Steps p.tables e below (s₁.setTop (entryFrame m #[(.int p0), (.int p1)] maxLocals)) t := by
    intro t kt
    by_cases hc7 : (f0_e4 p0 p1) < (1 : Int32)
    · have hj : (f0_s0_77001 p0 p1) = (0 : Int32) := by unfold f0_s0_77001; rw [if_pos hc7]
      rw [hj] at kt
      refine pre6 t ?_
      show Steps p.tables e below (T5.setTop (mkF m 63 #[.val (.int p0), .val (.int p1), .val (.int ((p1 &&& (3 : Int32)) + (1 : Int32))), .val (.ref b1), .val (.ref b3), .val (.long (f0_e3 p0 p1)), .second, .val (.int (f0_e4 p0 p1)), .val (.long (f0_e6 p0 p1)), .second, .unset, .unset] [(.int (1 : Int32)), (.int (f0_e4 p0 p1))])) _
      refine XS.icmpYes X5.here hx rfl (pc0 := 63) (pc' := 76) rfl (hb hby at_63) rfl (tlt hc7).1 (by decide) (by decide) ?_
      show Steps p.tables e below (T5.setTop (mkF m 76 #[.val (.int p0), .val (.int p1), .val (.int ((p1 &&& (3 : Int32)) + (1 : Int32))), .val (.ref b1), .val (.ref b3), .val (.long (f0_e3 p0 p1)), .second, .val (.int (f0_e4 p0 p1)), .val (.long (f0_e6 p0 p1)), .second, .unset, .unset] [])) _
      refine XS.iconst X5.here hx rfl (hb hby at_76) ?_
      exact kt
    · by_cases hc8 : (4 : Int32) < (f0_e4 p0 p1)
      · have hj : (f0_s0_77001 p0 p1) = (0 : Int32) := by unfold f0_s0_77001; rw [if_neg hc7, if_pos hc8]
        rw [hj] at kt
        refine pre6 t ?_
        show Steps p.tables e below (T5.setTop (mkF m 63 #[.val (.int p0), .val (.int p1), .val (.int ((p1 &&& (3 : Int32)) + (1 : Int32))), .val (.ref b1), .val (.ref b3), .val (.long (f0_e3 p0 p1)), .second, .val (.int (f0_e4 p0 p1)), .val (.long (f0_e6 p0 p1)), .second, .unset, .unset] [(.int (1 : Int32)), (.int (f0_e4 p0 p1))])) _
        refine XS.icmpNo X5.here hx rfl (hb hby at_63) rfl (flt hc7).1 ?_
        show Steps p.tables e below (T5.setTop (mkF m 66 #[.val (.int p0), .val (.int p1), .val (.int ((p1 &&& (3 : Int32)) + (1 : Int32))), .val (.ref b1), .val (.ref b3), .val (.long (f0_e3 p0 p1)), .second, .val (.int (f0_e4 p0 p1)), .val (.long (f0_e6 p0 p1)), .second, .unset, .unset] [])) _
        refine XS.iload X5.here hx rfl (hb hby at_66) rfl ?_
        show Steps p.tables e below (T5.setTop (mkF m 68 #[.val (.int p0), .val (.int p1), .val (.int ((p1 &&& (3 : Int32)) + (1 : Int32))), .val (.ref b1), .val (.ref b3), .val (.long (f0_e3 p0 p1)), .second, .val (.int (f0_e4 p0 p1)), .val (.long (f0_e6 p0 p1)), .second, .unset, .unset] [(.int (f0_e4 p0 p1))])) _
        refine XS.iconst X5.here hx rfl (hb hby at_68) ?_
        show Steps p.tables e below (T5.setTop (mkF m 69 #[.val (.int p0), .val (.int p1), .val (.int ((p1 &&& (3 : Int32)) + (1 : Int32))), .val (.ref b1), .val (.ref b3), .val (.long (f0_e3 p0 p1)), .second, .val (.int (f0_e4 p0 p1)), .val (.long (f0_e6 p0 p1)), .second, .unset, .unset] [(.int (4 : Int32)), (.int (f0_e4 p0 p1))])) _
        refine XS.icmpYes X5.here hx rfl (pc0 := 69) (pc' := 76) rfl (hb hby at_69) rfl (tlt hc8).2.2.1 (by decide) (by decide) ?_
        show Steps p.tables e below (T5.setTop (mkF m 76 #[.val (.int p0), .val (.int p1), .val (.int ((p1 &&& (3 : Int32)) + (1 : Int32))), .val (.ref b1), .val (.ref b3), .val (.long (f0_e3 p0 p1)), .second, .val (.int (f0_e4 p0 p1)), .val (.long (f0_e6 p0 p1)), .second, .unset, .unset] [])) _
        refine XS.iconst X5.here hx rfl (hb hby at_76) ?_
        exact kt
      · have hj : (f0_s0_77001 p0 p1) = (1 : Int32) := by unfold f0_s0_77001; rw [if_neg hc7, if_neg hc8]
        rw [hj] at kt
        refine pre6 t ?_
        show Steps p.tables e below (T5.setTop (mkF m 63 #[.val (.int p0), .val (.int p1), .val (.int ((p1 &&& (3 : Int32)) + (1 : Int32))), .val (.ref b1), .val (.ref b3), .val (.long (f0_e3 p0 p1)), .second, .val (.int (f0_e4 p0 p1)), .val (.long (f0_e6 p0 p1)), .second, .unset, .unset] [(.int (1 : Int32)), (.int (f0_e4 p0 p1))])) _
        refine XS.icmpNo X5.here hx rfl (hb hby at_63) rfl (flt hc7).1 ?_
        show Steps p.tables e below (T5.setTop (mkF m 66 #[.val (.int p0), .val (.int p1), .val (.int ((p1 &&& (3 : Int32)) + (1 : Int32))), .val (.ref b1), .val (.ref b3), .val (.long (f0_e3 p0 p1)), .second, .val (.int (f0_e4 p0 p1)), .val (.long (f0_e6 p0 p1)), .second, .unset, .unset] [])) _
        refine XS.iload X5.here hx rfl (hb hby at_66) rfl ?_
        show Steps p.tables e below (T5.setTop (mkF m 68 #[.val (.int p0), .val (.int p1), .val (.int ((p1 &&& (3 : Int32)) + (1 : Int32))), .val (.ref b1), .val (.ref b3), .val (.long (f0_e3 p0 p1)), .second, .val (.int (f0_e4 p0 p1)), .val (.long (f0_e6 p0 p1)), .second, .unset, .unset] [(.int (f0_e4 p0 p1))])) _
        refine XS.iconst X5.here hx rfl (hb hby at_68) ?_
        show Steps p.tables e below (T5.setTop (mkF m 69 #[.val (.int p0), .val (.int p1), .val (.int ((p1 &&& (3 : Int32)) + (1 : Int32))), .val (.ref b1), .val (.ref b3), .val (.long (f0_e3 p0 p1)), .second, .val (.int (f0_e4 p0 p1)), .val (.long (f0_e6 p0 p1)), .second, .unset, .unset] [(.int (4 : Int32)), (.int (f0_e4 p0 p1))])) _
        refine XS.icmpNo X5.here hx rfl (hb hby at_69) rfl (flt hc8).2.2.1 ?_
        show Steps p.tables e below (T5.setTop (mkF m 72 #[.val (.int p0), .val (.int p1), .val (.int ((p1 &&& (3 : Int32)) + (1 : Int32))), .val (.ref b1), .val (.ref b3), .val (.long (f0_e3 p0 p1)), .second, .val (.int (f0_e4 p0 p1)), .val (.long (f0_e6 p0 p1)), .second, .unset, .unset] [])) _
        refine XS.iconst X5.here hx rfl (hb hby at_72) ?_
        show Steps p.tables e below (T5.setTop (mkF m 73 #[.val (.int p0), .val (.int p1), .val (.int ((p1 &&& (3 : Int32)) + (1 : Int32))), .val (.ref b1), .val (.ref b3), .val (.long (f0_e3 p0 p1)), .second, .val (.int (f0_e4 p0 p1)), .val (.long (f0_e6 p0 p1)), .second, .unset, .unset] [(.int (1 : Int32))])) _
        refine XS.goto X5.here hx rfl (pc0 := 73) (pc' := 77) rfl (hb hby at_73) (by decide) (by decide) ?_
        exact kt
  have pre10 : ∀ t, Steps p.tables e below (T5.setTop (mkF m 90 #[.val (.int p0), .val (.int p1), .val (.int ((p1 &&& (3 : Int32)) + (1 : Int32))), .val (.ref b1), .val (.ref b3), .val (.long (f0_e3 p0 p1)), .second, .val (.int (f0_e4 p0 p1)), .val (.long (f0_e6 p0 p1)), .second, .val (.int (f0_s0_77001 p0 p1)), .unset] [(.int (f0_e7 p0 p1))])) t → Steps p.tables e below (s₁.setTop (entryFrame m #[(.int p0), (.int p1)] maxLocals)) t := fun t kt => pre9 t (by
    show Steps p.tables e below (T5.setTop (mkF m 77 #[.val (.int p0), .val (.int p1), .val (.int ((p1 &&& (3 : Int32)) + (1 : Int32))), .val (.ref b1), .val (.ref b3), .val (.long (f0_e3 p0 p1)), .second, .val (.int (f0_e4 p0 p1)), .val (.long (f0_e6 p0 p1)), .second, .unset, .unset] [(.int (f0_s0_77001 p0 p1))])) _
    refine XS.istore X5.here hx rfl (hb hby at_77) rfl (l' := #[.val (.int p0), .val (.int p1), .val (.int ((p1 &&& (3 : Int32)) + (1 : Int32))), .val (.ref b1), .val (.ref b3), .val (.long (f0_e3 p0 p1)), .second, .val (.int (f0_e4 p0 p1)), .val (.long (f0_e6 p0 p1)), .second, .val (.int (f0_s0_77001 p0 p1)), .unset]) rfl ?_
    show Steps p.tables e below (T5.setTop (mkF m 79 #[.val (.int p0), .val (.int p1), .val (.int ((p1 &&& (3 : Int32)) + (1 : Int32))), .val (.ref b1), .val (.ref b3), .val (.long (f0_e3 p0 p1)), .second, .val (.int (f0_e4 p0 p1)), .val (.long (f0_e6 p0 p1)), .second, .val (.int (f0_s0_77001 p0 p1)), .unset] [])) _
    refine XS.lload X5.here hx rfl (hb hby at_79) rfl ?_
    show Steps p.tables e below (T5.setTop (mkF m 81 #[.val (.int p0), .val (.int p1), .val (.int ((p1 &&& (3 : Int32)) + (1 : Int32))), .val (.ref b1), .val (.ref b3), .val (.long (f0_e3 p0 p1)), .second, .val (.int (f0_e4 p0 p1)), .val (.long (f0_e6 p0 p1)), .second, .val (.int (f0_s0_77001 p0 p1)), .unset] [(.long (f0_e6 p0 p1))])) _
    refine XS.lload X5.here hx rfl (hb hby at_81) rfl ?_
    show Steps p.tables e below (T5.setTop (mkF m 83 #[.val (.int p0), .val (.int p1), .val (.int ((p1 &&& (3 : Int32)) + (1 : Int32))), .val (.ref b1), .val (.ref b3), .val (.long (f0_e3 p0 p1)), .second, .val (.int (f0_e4 p0 p1)), .val (.long (f0_e6 p0 p1)), .second, .val (.int (f0_s0_77001 p0 p1)), .unset] [(.long (f0_e3 p0 p1)), (.long (f0_e6 p0 p1))])) _
    refine XS.lsub X5.here hx rfl (hb hby at_83) rfl ?_
    show Steps p.tables e below (T5.setTop (mkF m 84 #[.val (.int p0), .val (.int p1), .val (.int ((p1 &&& (3 : Int32)) + (1 : Int32))), .val (.ref b1), .val (.ref b3), .val (.long (f0_e3 p0 p1)), .second, .val (.int (f0_e4 p0 p1)), .val (.long (f0_e6 p0 p1)), .second, .val (.int (f0_s0_77001 p0 p1)), .unset] [(.long ((f0_e6 p0 p1) - (f0_e3 p0 p1)))])) _
    refine X5.ldc2Long hx hown (mvT hZ (hw _ (List.mem_of_getElem? (i := 36) rfl))) (g := (mkF m 84 #[.val (.int p0), .val (.int p1), .val (.int ((p1 &&& (3 : Int32)) + (1 : Int32))), .val (.ref b1), .val (.ref b3), .val (.long (f0_e3 p0 p1)), .second, .val (.int (f0_e4 p0 p1)), .val (.long (f0_e6 p0 p1)), .second, .val (.int (f0_s0_77001 p0 p1)), .unset] [(.long ((f0_e6 p0 p1) - (f0_e3 p0 p1)))])) rfl (hb hby at_84) _ ?_
    show Steps p.tables e below (T5.setTop (mkF m 87 #[.val (.int p0), .val (.int p1), .val (.int ((p1 &&& (3 : Int32)) + (1 : Int32))), .val (.ref b1), .val (.ref b3), .val (.long (f0_e3 p0 p1)), .second, .val (.int (f0_e4 p0 p1)), .val (.long (f0_e6 p0 p1)), .second, .val (.int (f0_s0_77001 p0 p1)), .unset] [(.long (17179869183 : Int64)), (.long ((f0_e6 p0 p1) - (f0_e3 p0 p1)))])) _
    refine XS.land X5.here hx rfl (hb hby at_87) rfl ?_
    show Steps p.tables e below (T5.setTop (mkF m 88 #[.val (.int p0), .val (.int p1), .val (.int ((p1 &&& (3 : Int32)) + (1 : Int32))), .val (.ref b1), .val (.ref b3), .val (.long (f0_e3 p0 p1)), .second, .val (.int (f0_e4 p0 p1)), .val (.long (f0_e6 p0 p1)), .second, .val (.int (f0_s0_77001 p0 p1)), .unset] [(.long (((f0_e6 p0 p1) - (f0_e3 p0 p1)) &&& (17179869183 : Int64)))])) _
    refine XS.lconst X5.here hx rfl (hb hby at_88) ?_
    show Steps p.tables e below (T5.setTop (mkF m 89 #[.val (.int p0), .val (.int p1), .val (.int ((p1 &&& (3 : Int32)) + (1 : Int32))), .val (.ref b1), .val (.ref b3), .val (.long (f0_e3 p0 p1)), .second, .val (.int (f0_e4 p0 p1)), .val (.long (f0_e6 p0 p1)), .second, .val (.int (f0_s0_77001 p0 p1)), .unset] [(.long (1 : Int64)), (.long (((f0_e6 p0 p1) - (f0_e3 p0 p1)) &&& (17179869183 : Int64)))])) _
    refine XS.lcmp X5.here hx rfl (hb hby at_89) rfl ?_
    exact kt)
  have pre12 : ∀ t, Steps p.tables e below (T5.setTop (mkF m 98 #[.val (.int p0), .val (.int p1), .val (.int ((p1 &&& (3 : Int32)) + (1 : Int32))), .val (.ref b1), .val (.ref b3), .val (.long (f0_e3 p0 p1)), .second, .val (.int (f0_e4 p0 p1)), .val (.long (f0_e6 p0 p1)), .second, .val (.int (f0_s0_77001 p0 p1)), .unset] [(.int (f0_s0_98002 p0 p1))])) t → Steps p.tables e below (s₁.setTop (entryFrame m #[(.int p0), (.int p1)] maxLocals)) t := by
    intro t kt
    by_cases hc11 : (f0_e7 p0 p1) = (0 : Int32)
    · have hj : (f0_s0_98002 p0 p1) = (1 : Int32) := by unfold f0_s0_98002; rw [if_pos hc11]
      rw [hj] at kt
      refine pre10 t ?_
      show Steps p.tables e below (T5.setTop (mkF m 90 #[.val (.int p0), .val (.int p1), .val (.int ((p1 &&& (3 : Int32)) + (1 : Int32))), .val (.ref b1), .val (.ref b3), .val (.long (f0_e3 p0 p1)), .second, .val (.int (f0_e4 p0 p1)), .val (.long (f0_e6 p0 p1)), .second, .val (.int (f0_s0_77001 p0 p1)), .unset] [(.int (f0_e7 p0 p1))])) _
      refine XS.ifNo X5.here hx rfl (hb hby at_90) rfl ((if0 _ _).trans (teq hc11).2) ?_
      show Steps p.tables e below (T5.setTop (mkF m 93 #[.val (.int p0), .val (.int p1), .val (.int ((p1 &&& (3 : Int32)) + (1 : Int32))), .val (.ref b1), .val (.ref b3), .val (.long (f0_e3 p0 p1)), .second, .val (.int (f0_e4 p0 p1)), .val (.long (f0_e6 p0 p1)), .second, .val (.int (f0_s0_77001 p0 p1)), .unset] [])) _
      refine XS.iconst X5.here hx rfl (hb hby at_93) ?_
      show Steps p.tables e below (T5.setTop (mkF m 94 #[.val (.int p0), .val (.int p1), .val (.int ((p1 &&& (3 : Int32)) + (1 : Int32))), .val (.ref b1), .val (.ref b3), .val (.long (f0_e3 p0 p1)), .second, .val (.int (f0_e4 p0 p1)), .val (.long (f0_e6 p0 p1)), .second, .val (.int (f0_s0_77001 p0 p1)), .unset] [(.int (1 : Int32))])) _
      refine XS.goto X5.here hx rfl (pc0 := 94) (pc' := 98) rfl (hb hby at_94) (by decide) (by decide) ?_
      exact kt
    · have hj : (f0_s0_98002 p0 p1) = (0 : Int32) := by unfold f0_s0_98002; rw [if_neg hc11]
      rw [hj] at kt
      refine pre10 t ?_
      show Steps p.tables e below (T5.setTop (mkF m 90 #[.val (.int p0), .val (.int p1), .val (.int ((p1 &&& (3 : Int32)) + (1 : Int32))), .val (.ref b1), .val (.ref b3), .val (.long (f0_e3 p0 p1)), .second, .val (.int (f0_e4 p0 p1)), .val (.long (f0_e6 p0 p1)), .second, .val (.int (f0_s0_77001 p0 p1)), .unset] [(.int (f0_e7 p0 p1))])) _
      refine XS.ifYes X5.here hx rfl (pc0 := 90) (pc' := 97) rfl (hb hby at_90) rfl ((if0 _ _).trans (feq hc11).2) (by decide) (by decide) ?_
      show Steps p.tables e below (T5.setTop (mkF m 97 #[.val (.int p0), .val (.int p1), .val (.int ((p1 &&& (3 : Int32)) + (1 : Int32))), .val (.ref b1), .val (.ref b3), .val (.long (f0_e3 p0 p1)), .second, .val (.int (f0_e4 p0 p1)), .val (.long (f0_e6 p0 p1)), .second, .val (.int (f0_s0_77001 p0 p1)), .unset] [])) _
      refine XS.iconst X5.here hx rfl (hb hby at_97) ?_
      exact kt
  have pre13 : ∀ t, Steps p.tables e below (T5.setTop (mkF m 102 #[.val (.int p0), .val (.int p1), .val (.int ((p1 &&& (3 : Int32)) + (1 : Int32))), .val (.ref b1), .val (.ref b3), .val (.long (f0_e3 p0 p1)), .second, .val (.int (f0_e4 p0 p1)), .val (.long (f0_e6 p0 p1)), .second, .val (.int (f0_s0_77001 p0 p1)), .val (.int (f0_s0_98002 p0 p1))] [(.int (f0_s0_77001 p0 p1))])) t → Steps p.tables e below (s₁.setTop (entryFrame m #[(.int p0), (.int p1)] maxLocals)) t := fun t kt => pre12 t (by
    show Steps p.tables e below (T5.setTop (mkF m 98 #[.val (.int p0), .val (.int p1), .val (.int ((p1 &&& (3 : Int32)) + (1 : Int32))), .val (.ref b1), .val (.ref b3), .val (.long (f0_e3 p0 p1)), .second, .val (.int (f0_e4 p0 p1)), .val (.long (f0_e6 p0 p1)), .second, .val (.int (f0_s0_77001 p0 p1)), .unset] [(.int (f0_s0_98002 p0 p1))])) _
    refine XS.istore X5.here hx rfl (hb hby at_98) rfl (l' := #[.val (.int p0), .val (.int p1), .val (.int ((p1 &&& (3 : Int32)) + (1 : Int32))), .val (.ref b1), .val (.ref b3), .val (.long (f0_e3 p0 p1)), .second, .val (.int (f0_e4 p0 p1)), .val (.long (f0_e6 p0 p1)), .second, .val (.int (f0_s0_77001 p0 p1)), .val (.int (f0_s0_98002 p0 p1))]) rfl ?_
    show Steps p.tables e below (T5.setTop (mkF m 100 #[.val (.int p0), .val (.int p1), .val (.int ((p1 &&& (3 : Int32)) + (1 : Int32))), .val (.ref b1), .val (.ref b3), .val (.long (f0_e3 p0 p1)), .second, .val (.int (f0_e4 p0 p1)), .val (.long (f0_e6 p0 p1)), .second, .val (.int (f0_s0_77001 p0 p1)), .val (.int (f0_s0_98002 p0 p1))] [])) _
    refine XS.iload X5.here hx rfl (hb hby at_100) rfl ?_
    exact kt)
  by_cases hc14 : (f0_s0_77001 p0 p1) = (0 : Int32)
  · obtain ⟨fs, hr, hrun, hended, hW, hsame⟩ := X5.leave (v := some (.int (0 : Int32))) (fun h => by rw [Bd.returns] at h; cases h)
    refine ⟨_, _, pre13 _ ?_, hrun, hended, _, _, rfl, ?_, ⟨_, rfl⟩, hW, hsame.mono (by decide) (by decide)⟩
    · show Steps p.tables e below (T5.setTop (mkF m 102 #[.val (.int p0), .val (.int p1), .val (.int ((p1 &&& (3 : Int32)) + (1 : Int32))), .val (.ref b1), .val (.ref b3), .val (.long (f0_e3 p0 p1)), .second, .val (.int (f0_e4 p0 p1)), .val (.long (f0_e6 p0 p1)), .second, .val (.int (f0_s0_77001 p0 p1)), .val (.int (f0_s0_98002 p0 p1))] [(.int (f0_s0_77001 p0 p1))])) _
      refine XS.ifYes X5.here hx rfl (pc0 := 102) (pc' := 114) rfl (hb hby at_102) rfl ((if0 _ _).trans (teq hc14).1) (by decide) (by decide) ?_
      show Steps p.tables e below (T5.setTop (mkF m 114 #[.val (.int p0), .val (.int p1), .val (.int ((p1 &&& (3 : Int32)) + (1 : Int32))), .val (.ref b1), .val (.ref b3), .val (.long (f0_e3 p0 p1)), .second, .val (.int (f0_e4 p0 p1)), .val (.long (f0_e6 p0 p1)), .second, .val (.int (f0_s0_77001 p0 p1)), .val (.int (f0_s0_98002 p0 p1))] [])) _
      refine XS.iconst X5.here hx rfl (hb hby at_114) ?_
      show Steps p.tables e below (T5.setTop (mkF m 115 #[.val (.int p0), .val (.int p1), .val (.int ((p1 &&& (3 : Int32)) + (1 : Int32))), .val (.ref b1), .val (.ref b3), .val (.long (f0_e3 p0 p1)), .second, .val (.int (f0_e4 p0 p1)), .val (.long (f0_e6 p0 p1)), .second, .val (.int (f0_s0_77001 p0 p1)), .val (.int (f0_s0_98002 p0 p1))] [(.int (0 : Int32))])) _
      exact retN X5 hx (t := .boolean) Bd.returns (by simp) (hb hby at_115) hr
    · show Q0 Z p0 p1 h0 n0 _ T5.heap _
      rw [e5]
      exact ⟨by rw [show f0 p0 p1 = (0 : Int32) from by unfold f0; rw [if_pos hc14]], N5⟩
  · have pre15 : ∀ t, Steps p.tables e below (T5.setTop (mkF m 107 #[.val (.int p0), .val (.int p1), .val (.int ((p1 &&& (3 : Int32)) + (1 : Int32))), .val (.ref b1), .val (.ref b3), .val (.long (f0_e3 p0 p1)), .second, .val (.int (f0_e4 p0 p1)), .val (.long (f0_e6 p0 p1)), .second, .val (.int (f0_s0_77001 p0 p1)), .val (.int (f0_s0_98002 p0 p1))] [(.int (f0_s0_98002 p0 p1))])) t → Steps p.tables e below (s₁.setTop (entryFrame m #[(.int p0), (.int p1)] maxLocals)) t := fun t kt => pre13 t (by
      show Steps p.tables e below (T5.setTop (mkF m 102 #[.val (.int p0), .val (.int p1), .val (.int ((p1 &&& (3 : Int32)) + (1 : Int32))), .val (.ref b1), .val (.ref b3), .val (.long (f0_e3 p0 p1)), .second, .val (.int (f0_e4 p0 p1)), .val (.long (f0_e6 p0 p1)), .second, .val (.int (f0_s0_77001 p0 p1)), .val (.int (f0_s0_98002 p0 p1))] [(.int (f0_s0_77001 p0 p1))])) _
      refine XS.ifNo X5.here hx rfl (hb hby at_102) rfl ((if0 _ _).trans (feq hc14).1) ?_
      show Steps p.tables e below (T5.setTop (mkF m 105 #[.val (.int p0), .val (.int p1), .val (.int ((p1 &&& (3 : Int32)) + (1 : Int32))), .val (.ref b1), .val (.ref b3), .val (.long (f0_e3 p0 p1)), .second, .val (.int (f0_e4 p0 p1)), .val (.long (f0_e6 p0 p1)), .second, .val (.int (f0_s0_77001 p0 p1)), .val (.int (f0_s0_98002 p0 p1))] [])) _
      refine XS.iload X5.here hx rfl (hb hby at_105) rfl ?_
      exact kt)
    by_cases hc16 : (f0_s0_98002 p0 p1) = (0 : Int32)
    · obtain ⟨fs, hr, hrun, hended, hW, hsame⟩ := X5.leave (v := some (.int (0 : Int32))) (fun h => by rw [Bd.returns] at h; cases h)
      refine ⟨_, _, pre15 _ ?_, hrun, hended, _, _, rfl, ?_, ⟨_, rfl⟩, hW, hsame.mono (by decide) (by decide)⟩
      · show Steps p.tables e below (T5.setTop (mkF m 107 #[.val (.int p0), .val (.int p1), .val (.int ((p1 &&& (3 : Int32)) + (1 : Int32))), .val (.ref b1), .val (.ref b3), .val (.long (f0_e3 p0 p1)), .second, .val (.int (f0_e4 p0 p1)), .val (.long (f0_e6 p0 p1)), .second, .val (.int (f0_s0_77001 p0 p1)), .val (.int (f0_s0_98002 p0 p1))] [(.int (f0_s0_98002 p0 p1))])) _
        refine XS.ifYes X5.here hx rfl (pc0 := 107) (pc' := 114) rfl (hb hby at_107) rfl ((if0 _ _).trans (teq hc16).1) (by decide) (by decide) ?_
        show Steps p.tables e below (T5.setTop (mkF m 114 #[.val (.int p0), .val (.int p1), .val (.int ((p1 &&& (3 : Int32)) + (1 : Int32))), .val (.ref b1), .val (.ref b3), .val (.long (f0_e3 p0 p1)), .second, .val (.int (f0_e4 p0 p1)), .val (.long (f0_e6 p0 p1)), .second, .val (.int (f0_s0_77001 p0 p1)), .val (.int (f0_s0_98002 p0 p1))] [])) _
        refine XS.iconst X5.here hx rfl (hb hby at_114) ?_
        show Steps p.tables e below (T5.setTop (mkF m 115 #[.val (.int p0), .val (.int p1), .val (.int ((p1 &&& (3 : Int32)) + (1 : Int32))), .val (.ref b1), .val (.ref b3), .val (.long (f0_e3 p0 p1)), .second, .val (.int (f0_e4 p0 p1)), .val (.long (f0_e6 p0 p1)), .second, .val (.int (f0_s0_77001 p0 p1)), .val (.int (f0_s0_98002 p0 p1))] [(.int (0 : Int32))])) _
        exact retN X5 hx (t := .boolean) Bd.returns (by simp) (hb hby at_115) hr
      · show Q0 Z p0 p1 h0 n0 _ T5.heap _
        rw [e5]
        exact ⟨by rw [show f0 p0 p1 = (0 : Int32) from by unfold f0; rw [if_neg hc14, if_pos hc16]], N5⟩
    · obtain ⟨fs, hr, hrun, hended, hW, hsame⟩ := X5.leave (v := some (.int (1 : Int32))) (fun h => by rw [Bd.returns] at h; cases h)
      refine ⟨_, _, pre15 _ ?_, hrun, hended, _, _, rfl, ?_, ⟨_, rfl⟩, hW, hsame.mono (by decide) (by decide)⟩
      · show Steps p.tables e below (T5.setTop (mkF m 107 #[.val (.int p0), .val (.int p1), .val (.int ((p1 &&& (3 : Int32)) + (1 : Int32))), .val (.ref b1), .val (.ref b3), .val (.long (f0_e3 p0 p1)), .second, .val (.int (f0_e4 p0 p1)), .val (.long (f0_e6 p0 p1)), .second, .val (.int (f0_s0_77001 p0 p1)), .val (.int (f0_s0_98002 p0 p1))] [(.int (f0_s0_98002 p0 p1))])) _
        refine XS.ifNo X5.here hx rfl (hb hby at_107) rfl ((if0 _ _).trans (feq hc16).1) ?_
        show Steps p.tables e below (T5.setTop (mkF m 110 #[.val (.int p0), .val (.int p1), .val (.int ((p1 &&& (3 : Int32)) + (1 : Int32))), .val (.ref b1), .val (.ref b3), .val (.long (f0_e3 p0 p1)), .second, .val (.int (f0_e4 p0 p1)), .val (.long (f0_e6 p0 p1)), .second, .val (.int (f0_s0_77001 p0 p1)), .val (.int (f0_s0_98002 p0 p1))] [])) _
        refine XS.iconst X5.here hx rfl (hb hby at_110) ?_
        show Steps p.tables e below (T5.setTop (mkF m 111 #[.val (.int p0), .val (.int p1), .val (.int ((p1 &&& (3 : Int32)) + (1 : Int32))), .val (.ref b1), .val (.ref b3), .val (.long (f0_e3 p0 p1)), .second, .val (.int (f0_e4 p0 p1)), .val (.long (f0_e6 p0 p1)), .second, .val (.int (f0_s0_77001 p0 p1)), .val (.int (f0_s0_98002 p0 p1))] [(.int (1 : Int32))])) _
        refine XS.goto X5.here hx rfl (pc0 := 111) (pc' := 115) rfl (hb hby at_111) (by decide) (by decide) ?_
        show Steps p.tables e below (T5.setTop (mkF m 115 #[.val (.int p0), .val (.int p1), .val (.int ((p1 &&& (3 : Int32)) + (1 : Int32))), .val (.ref b1), .val (.ref b3), .val (.long (f0_e3 p0 p1)), .second, .val (.int (f0_e4 p0 p1)), .val (.long (f0_e6 p0 p1)), .second, .val (.int (f0_s0_77001 p0 p1)), .val (.int (f0_s0_98002 p0 p1))] [(.int (1 : Int32))])) _
        exact retN X5 hx (t := .boolean) Bd.returns (by simp) (hb hby at_115) hr
      · show Q0 Z p0 p1 h0 n0 _ T5.heap _
        rw [e5]
        exact ⟨by rw [show f0 p0 p1 = (1 : Int32) from by unfold f0; rw [if_neg hc14, if_neg hc16]], N5⟩
theorem own_diff (A B C D : Int64) (a b c d : Int) (hA : A.toInt = a) (hB : B.toInt = b) (hC : C.toInt = c) (hD : D.toInt = d) (ha : -2147483648 ≤ a ∧ a ≤ 2147483647) (hb : 0 ≤ b ∧ b ≤ 3) (hc : -2147483648 ≤ c ∧ c ≤ 2147483647) (hd : 0 ≤ d ∧ d ≤ 3) (h : (a * 4 + b - (c * 4 + d)) % 17179869184 = 1) :
    ((A * 4 + B) - (C * 4 + D)) &&& (17179869183 : Int64) = 1 := by
  apply Int64.toInt_inj.mp
  rw [c_maskL _ 17179869183 34 (by decide) (by decide)]
  have e2 : ((2 ^ 34 : Nat) : Int) = 17179869184 := by decide
  rw [e2]
  have l4 : (4 : Int64).toInt = 4 := rfl
  have l1 : (1 : Int64).toInt = 1 := rfl
  have m1 := c_lmul A 4
  have r1 := rng64 (A * 4)
  have m2 := c_ladd (A * 4) B
  have r2 := rng64 (A * 4 + B)
  have m3 := c_lmul C 4
  have r3 := rng64 (C * 4)
  have m4 := c_ladd (C * 4) D
  have r4 := rng64 (C * 4 + D)
  have m5 := c_lsub (A * 4 + B) (C * 4 + D)
  have r5 := rng64 ((A * 4 + B) - (C * 4 + D))
  rw [hA, l4] at m1
  rw [hC, l4] at m3
  rw [hB] at m2
  rw [hD] at m4
  rw [l1]
  generalize (A * 4).toInt = x1 at *
  generalize (A * 4 + B).toInt = x2 at *
  generalize (C * 4).toInt = x3 at *
  generalize (C * 4 + D).toInt = x4 at *
  generalize (A * 4 + B - (C * 4 + D)).toInt = x5 at *
  have y1 : x1 = a * 4 := by omega
  have y3 : x3 = c * 4 := by omega
  have y2 : x2 = a * 4 + b := by omega
  have y4 : x4 = c * 4 + d := by omega
  have y5 : x5 = a * 4 + b - (c * 4 + d) := by omega
  rw [y5]; exact h
theorem own_law (p0 p1 : Int32) : f0 p0 p1 = 1 := by
  have hk := own_kv p1
  have key : f0_s0_77001 p0 p1 = 1 ∧ f0_s0_98002 p0 p1 = 1 := by
    unfold f0_s0_77001 f0_s0_98002 f0_e7 f0_e6 f0_e4 f0_e5 f5 f6 f4_r_year f4_r_number f0_e1 f0_e2 f0_e3 f1_year f1_number
    generalize (p1 &&& 3) + 1 = n at *
    simp only [lw_eq]
    have l1 : (1 : Int32).toInt = 1 := rfl
    have l4 : (4 : Int32).toInt = 4 := rfl
    have r0 := rng32 p0
    by_cases h : n = 4
    · rw [if_pos h, if_pos h]
      subst h
      refine ⟨by decide, if_pos ?_⟩
      have a := c_iadd p0 1
      have r := rng32 (p0 + 1)
      refine own_diff _ _ _ _ (p0 + 1).toInt 0 p0.toInt 3 (c_i2l _) rfl (c_i2l _) rfl (by omega) (by decide) (by omega) (by decide) ?_
      omega
    · rw [if_neg h, if_neg h]
      have h' : ¬ n.toInt = 4 := fun q => h (Int32.toInt_inj.mp (q.trans l4.symm))
      have a := c_iadd n 1
      have r := rng32 (n + 1)
      have s := c_isub (n + 1) 1
      have r2 := rng32 (n + 1 - 1)
      have t := c_isub n 1
      have r3 := rng32 (n - 1)
      refine ⟨?_, if_pos ?_⟩
      · rw [if_neg (by rw [Int32.lt_iff_toInt_lt]; omega), if_neg (by rw [Int32.lt_iff_toInt_lt]; omega)]
      · refine own_diff _ _ _ _ p0.toInt n.toInt p0.toInt (n.toInt - 1) (c_i2l _) ((c_i2l _).trans (by omega)) (c_i2l _) ((c_i2l _).trans (by omega)) (by omega) (by omega) (by omega) (by omega) ?_
        omega
  unfold f0
  rw [key.1, key.2]
  decide
set_option maxRecDepth 65536 in
set_option maxHeartbeats 40000000 in
theorem comes_1 {Post : Tables → Env → Array Value → State → Outcome → State → Prop} (hpost : ∀ tb e args s v u, (limb_1_1.after args s (.returned v) u = true ∧ limb_1_2.after args s (.returned v) u = true ∧ True) → FrameEnd s (.returned v) u (Jvm.fieldLocs frame_1_writes args s ++ Jvm.arrayLocs frame_1_arrays args s ++ Jvm.staticLocs frame_1_statics s) 16 128 → Post tb e args s (.returned v) u) :
    ArmFor flags0 classFile x code maxLocals ret World_1 tables_1 room_1 Calls_1 rest_1 Pre_1 Post := by
  intro l hfl _ _ p e ha hc hk s m args below hf hA hF happ hP
  obtain ⟨hcalls, hrest, hpre⟩ := hP
  obtain ⟨-, -, -, hnamed, -, -, -, hat⟩ := (Spec.applies_iff hf).mp happ
  obtain ⟨hg, hn⟩ := and_e (Cond.before_iff.mp (show (Jvm.Cond.and given_1 narrow_1).before args s = true from hpre))
  obtain ⟨g1, g2⟩ := and_e hg
  obtain ⟨g3, g4⟩ := and_e g2
  obtain ⟨w0, w1, rfl⟩ : ∃ w0 w1 : Value, args = #[w0, w1] := by
    have hs : args.size = 2 := by simpa [Cond.value, given_1] using g1
    obtain ⟨L⟩ := args
    match L, hs with
    | [w0, w1], _ => exact ⟨w0, w1, rfl⟩
  have hw := fun d (hd : d ∈ tables_1) => atoms_spec (ws := Jvm.Cond.code x code maxLocals ret :: tables_1) hat d (List.mem_cons_of_mem _ hd)
  have hfit : Fit s := fun {y c} hc i hi => by
    obtain ⟨ha, rfl⟩ := Array.getElem?_eq_some_iff.mp hc
    have q := List.all_eq_true.mp ((Array.all_eq_true_iff_forall_mem.mp hF) _ (Array.getElem_mem ha)) i (List.mem_range.mpr hi)
    simpa [Array.getElem?_eq_getElem hi] using q
  obtain ⟨i0, ei0⟩ := is_v g3
  obtain rfl : w0 = (.int i0) := Option.some.inj ei0
  obtain ⟨i1, ei1⟩ := is_v g4
  obtain rfl : w1 = (.int i1) := Option.some.inj ei1
  obtain ⟨n, o, h1, h2, h3, _, L, rfl, ⟨rfl, N⟩, hq⟩ := rm0 l s _ hw tables_1 i0 i1 s.heap s.heap.size (Nat.le_refl _) p e ha hc hk s m _ below hf ((Spec.applies_iff_loose hf).mp happ).1 ⟨rfl, State.Warmed39.refl s, rfl⟩ trivial
  refine ⟨n, _, h1, h2, h3, hpost _ _ _ _ _ _ ⟨Cond.after_iff.mpr rfl, Cond.after_iff.mpr (eq_i res_at (Term.int_eval (1)) (by rw [own_law i0 i1])), trivial⟩ ⟨hq.1, hq.2.1, (hq.2.2.sift fun y hy => Or.inr (N y hy)).mono (by decide) (by decide)⟩⟩
theorem main_1_1 : Claimed_1_1 := comes_1 fun _ _ _ _ _ _ h hF => ⟨h.1, hF⟩
theorem main_1_2 : Claimed_1_2 := comes_1 fun _ _ _ _ _ _ h hF => ⟨h.2.1, hF⟩
end Jvm.Pilot.@@N@@
namespace Jvm.Pilot.@@N@@
open Jvm Jvm.ClassFile Sem Op Lib Jvm.Free Jvm.Stand Jvm.Pilot.@@N@@.Jvm.D
/-! MADE BY PROGRAM (witnessworld.py) out of the Statement's table words and the real class files: 10 classes; the members and pool entries that the words name. The judged class is class 1, her method 1. -/
namespace start1
open Jvm.ClassFile
def u (s : String) : CpInfo := .utf8 (stringToUtf16 s)
/-- a pool by its gaps: so many unusable entries, then the entry; so many at the end -/
def gap : Nat → List CpInfo → List CpInfo
  | 0, r => r
  | n + 1, r => .unusable :: gap n r
def poolList (es : List (Nat × CpInfo)) (last : Nat) : List CpInfo := es.foldr (fun e r => gap e.1 (e.2 :: r)) (gap last [])
def pool (es : List (Nat × CpInfo)) (last : Nat) : Array CpInfo := ⟨poolList es last⟩
def fileOf (pool : Array CpInfo) (this : Nat) (attrs : Array Attribute := #[]) (ms : Array MethodInfo := #[]) (fl : Nat := 33) (sup : Nat := 0) (ifs : Array Nat := #[]) (fds : Array FieldInfo := #[]) : ClassFile where
  minorVersion := 0
  majorVersion := 65
  constantPool := pool
  accessFlags := fl
  thisClass := this
  superClass := sup
  interfaces := ifs
  fields := fds
  methods := ms
  attributes := attrs
def plain (name : String) (sup : Option ClassId) : Class where
  name := name
  kind := .ordinary
  loader := none
  accessFlags := 33
  super := sup
  interfaces := #[]
  cf := none
  fields := #[]
  methods := #[]
  instanceTypes := #[]
  staticTypes := #[]
  resolved := #[]
  callSites := []
  init := .initialized
  statics := none
  mirror := none

def pool0 : Array CpInfo := pool [(5, u "<init>"), (0, u "()V"), (1, .class_ 10), (1, u "java/lang/Object")] 113

def k0c0 : Code := { maxStack := 0, maxLocals := 1, code := object_method_1_code, exceptionTable := #[], attributes := #[] }
def k0m0 : Method := { name := "<init>", desc := "()V", sig := { parameters := [], returnType := none }, accessFlags := 1, code := some k0c0 }
/-- java/lang/Object -/
def k0 : Class := { plain "java/lang/Object" none with
  accessFlags := 33
  interfaces := #[]
  cf := some (fileOf pool0 8 #[] #[{ accessFlags := 1, nameIndex := 5, descriptorIndex := 6, attributes := #[] }] 33 0 #[] #[])
  fields := #[]
  methods := #[k0m0]
  instanceTypes := #[]
  staticTypes := #[]
  resolved := Array.replicate 124 none
  statics := none }

def pool1 : Array CpInfo := pool [(2, .class_ 4), (1, u "java/lang/Object"), (0, u "<init>"), (0, u "()V"), (0, .class_ 8), (0, u "com/example/vestline/vestline/core/Quarter"), (0, .methodref 7 10), (0, .nameAndType 5 11), (0, u "(II)V"), (0, .methodref 7 13), (0, .nameAndType 14 15), (0, u "next"), (0, u "()Lcom/example/vestline/vestline/core/Quarter;"), (0, .long 4), (1, .methodref 7 19), (0, .nameAndType 20 21), (0, u "number"), (0, u "()I"), (0, .methodref 7 23), (0, .nameAndType 24 21), (0, u "year"), (0, .long 17179869183), (1, .class_ 28), (0, u "com/example/vestline/vestline/core/QuarterNextPinLaw"), (2, u "law"), (0, u "(II)Z")] 3

def k1m0 : Method := { name := "<init>", desc := "()V", sig := { parameters := [], returnType := none }, accessFlags := 2, code := none }
def k1c1 : Code := { maxStack := 4, maxLocals := 12, code := code, exceptionTable := #[], attributes := #[] }
def k1m1 : Method := { name := "law", desc := "(II)Z", sig := { parameters := [.int, .int], returnType := some .boolean }, accessFlags := 9, code := some k1c1 }
/-- com/example/vestline/vestline/core/QuarterNextPinLaw -/
def k1 : Class := { plain "com/example/vestline/vestline/core/QuarterNextPinLaw" (some 0) with
  accessFlags := 49
  interfaces := #[]
  cf := some (fileOf pool1 27 #[] #[{ accessFlags := 2, nameIndex := 5, descriptorIndex := 6, attributes := #[] }, { accessFlags := 9, nameIndex := 31, descriptorIndex := 32, attributes := #[] }] 49 2 #[] #[])
  fields := #[]
  methods := #[k1m0, k1m1]
  instanceTypes := #[]
  staticTypes := #[]
  resolved := Array.replicate 36 none
  statics := none }

def pool2 : Array CpInfo := pool [(1, .methodref 2 3), (0, .class_ 4), (0, .nameAndType 5 6), (0, u "java/lang/Object"), (0, u "<init>"), (0, u "()V"), (0, .class_ 8), (0, u "java/lang/Record")] 13

def k2c0 : Code := { maxStack := 1, maxLocals := 1, code := jdk_30_method_1_code, exceptionTable := #[], attributes := #[] }
def k2m0 : Method := { name := "<init>", desc := "()V", sig := { parameters := [], returnType := none }, accessFlags := 4, code := some k2c0 }
/-- java/lang/Record -/
def k2 : Class := { plain "java/lang/Record" (some 0) with
  accessFlags := 1057
  interfaces := #[]
  cf := some (fileOf pool2 7 #[] #[{ accessFlags := 4, nameIndex := 5, descriptorIndex := 6, attributes := #[] }] 1057 2 #[] #[])
  fields := #[]
  methods := #[k2m0]
  instanceTypes := #[]
  staticTypes := #[]
  resolved := Array.replicate 22 none
  statics := none }

def pool3 : Array CpInfo := pool [(1, .methodref 2 3), (0, .class_ 4), (0, .nameAndType 5 6), (0, u "java/lang/Record"), (0, u "<init>"), (0, u "()V"), (9, .fieldref 17 18), (0, .class_ 19), (0, .nameAndType 20 21), (0, u "com/example/vestline/vestline/core/Quarter"), (0, u "year"), (0, u "I"), (0, .fieldref 17 23), (0, .nameAndType 24 21), (0, u "number"), (5, u "()I"), (3, .methodref 17 35), (0, .nameAndType 5 36), (0, u "(II)V"), (9, u "next"), (0, u "()Lcom/example/vestline/vestline/core/Quarter;"), (30, u "MONTHS")] 42

def k3c0 : Code := { maxStack := 3, maxLocals := 3, code := prog_27_method_1_code, exceptionTable := #[], attributes := #[] }
def k3m0 : Method := { name := "<init>", desc := "(II)V", sig := { parameters := [.int, .int], returnType := none }, accessFlags := 1, code := some k3c0 }
def k3c1 : Code := { maxStack := 5, maxLocals := 1, code := prog_27_method_7_code, exceptionTable := #[], attributes := #[] }
def k3m1 : Method := { name := "next", desc := "()Lcom/example/vestline/vestline/core/Quarter;", sig := { parameters := [], returnType := some (.object "com/example/vestline/vestline/core/Quarter") }, accessFlags := 1, code := some k3c1 }
def k3c2 : Code := { maxStack := 1, maxLocals := 1, code := prog_27_method_11_code, exceptionTable := #[], attributes := #[] }
def k3m2 : Method := { name := "year", desc := "()I", sig := { parameters := [], returnType := some .int }, accessFlags := 1, code := some k3c2 }
def k3c3 : Code := { maxStack := 1, maxLocals := 1, code := prog_27_method_12_code, exceptionTable := #[], attributes := #[] }
def k3m3 : Method := { name := "number", desc := "()I", sig := { parameters := [], returnType := some .int }, accessFlags := 1, code := some k3c3 }
/-- com/example/vestline/vestline/core/Quarter -/
def k3 : Class := { plain "com/example/vestline/vestline/core/Quarter" (some 2) with
  accessFlags := 49
  interfaces := #[]
  cf := some (fileOf pool3 17 #[] #[{ accessFlags := 1, nameIndex := 5, descriptorIndex := 36, attributes := #[] }, { accessFlags := 1, nameIndex := 46, descriptorIndex := 47, attributes := #[] }, { accessFlags := 1, nameIndex := 20, descriptorIndex := 30, attributes := #[] }, { accessFlags := 1, nameIndex := 24, descriptorIndex := 30, attributes := #[] }] 49 2 #[] #[{ accessFlags := 18, nameIndex := 20, descriptorIndex := 21, attributes := #[] }, { accessFlags := 18, nameIndex := 24, descriptorIndex := 21, attributes := #[] }, { accessFlags := 26, nameIndex := 78, descriptorIndex := 21, attributes := #[] }])
  fields := #[{ name := "year", type := .int, accessFlags := 18, slot := 0, constantValue := 0 }, { name := "number", type := .int, accessFlags := 18, slot := 1, constantValue := 0 }, { name := "MONTHS", type := .int, accessFlags := 26, slot := 0, constantValue := 0 }]
  methods := #[k3m0, k3m1, k3m2, k3m3]
  instanceTypes := #[.int, .int]
  staticTypes := #[.int]
  resolved := Array.replicate 121 none
  statics := none }

def pool4 : Array CpInfo := pool [(1, u "java/lang/Cloneable"), (0, .class_ 1), (0, u "java/lang/Object"), (0, .class_ 3)] 3

/-- java/lang/Cloneable -/
def k4 : Class := { plain "java/lang/Cloneable" (some 0) with
  accessFlags := 1537
  interfaces := #[]
  cf := some (fileOf pool4 2 #[] #[] 1537 4 #[] #[])
  fields := #[]
  methods := #[]
  instanceTypes := #[]
  staticTypes := #[]
  resolved := Array.replicate 8 none
  statics := none }

def pool5 : Array CpInfo := pool [(1, u "java/io/Serializable"), (0, .class_ 1), (0, u "java/lang/Object"), (0, .class_ 3)] 3

/-- java/io/Serializable -/
def k5 : Class := { plain "java/io/Serializable" (some 0) with
  accessFlags := 1537
  interfaces := #[]
  cf := some (fileOf pool5 2 #[] #[] 1537 4 #[] #[])
  fields := #[]
  methods := #[]
  instanceTypes := #[]
  staticTypes := #[]
  resolved := Array.replicate 8 none
  statics := none }

/-- the primitive byte -/
def k6 : Class := { plain "byte" none with kind := .primitive 'B', accessFlags := 0x411 }
/-- [B -/
def k7 : Class := { plain "[B" (some 0) with kind := .array 6 .byte, interfaces := #[4, 5], accessFlags := 1041 }

/-- the primitive int -/
def k8 : Class := { plain "int" none with kind := .primitive 'I', accessFlags := 0x411 }
/-- [I -/
def k9 : Class := { plain "[I" (some 0) with kind := .array 8 .int, interfaces := #[4, 5], accessFlags := 1041 }

def heap : Heap := #[]
def classes : Array Class := #[k0, k1, k2, k3, k4, k5, k6, k7, k8, k9]
def interned : List (Array UInt16 × Addr) := []
def slotsUsed : Nat := 0
def theMethod : MethodId := ⟨1, 1⟩
def args0 : Array Value := #[.int 5, .int 5]
def aboutOver (below : List Frame) : State where
  vm := { classes := classes, interned := interned.toArray }
  heap := heap
  slotsUsed := slotsUsed
  threads := #[{ frames := .invoking theMethod args0 :: below }]
def below0 : List Frame := [.native { method := ⟨0, 0⟩, args := #[] }]
def about1 : State := aboutOver below0
def p0 : Program := .bare "" "" ""
def e0 : Env := launch0.env 0 0 0
theorem w_frames : about1.frames = Frame.invoking theMethod args0 :: below0 := rfl
set_option maxRecDepth 65536 in
theorem w_args : argsFit about1.vm theMethod args0 = true := by decide +kernel
set_option maxRecDepth 65536 in
theorem w_heap : heapFits about1 = true := by decide +kernel
set_option maxRecDepth 65536 in
theorem w_runnable : about1.curStatus? = some .runnable := by decide +kernel
set_option maxRecDepth 65536 in
theorem w_alone : about1.alone = true := by decide +kernel
set_option maxRecDepth 65536 in
theorem w_named : about1.methodNamed? x = some theMethod := by decide +kernel
set_option maxRecDepth 65536 in
theorem w_hears : about1.hears theMethod below0 = true := by decide +kernel
set_option maxRecDepth 65536 in
theorem w_ripe : about1.ripe theMethod args0 below0 = true := by decide +kernel
theorem w_running : about1.status = .running := rfl
set_option maxRecDepth 65536 in
theorem w_room : about1.hasRoom e0.platform room_1 = true :=
  launch0.hasRoom_least _ room_1 (by decide +kernel) (by decide +kernel) (by decide +kernel) (by decide +kernel) (by decide +kernel) (by decide +kernel)
theorem allAtoms_all (ts : List Jvm.Cond) (a : Array Jvm.Value) (st : Jvm.State) : (allAtoms ts).before a st = ts.all (fun c => c.before a st) := by
  induction ts with
  | nil => rfl
  | cons c t ih =>
    show (Jvm.Cond.and c (allAtoms t)).before a st = _
    rw [Jvm.Cond.before_and, ih, List.all_cons]
def words1 : List Jvm.Cond := Jvm.Cond.code x code maxLocals ret :: tables_1
/-- a 'code' word, met by the world's own term for the bytes: nothing is compared byte by byte -/
theorem code_word {y : MethodName} {bytes : ByteArray} {mx : Nat} {rt : Option FieldType} {a : Array Value} {s : State} {m : MethodId} {meth : Method} {c : Code} (h1 : s.methodNamed? y = some m) (h2 : s.vm.method? m = some meth) (h3 : meth.code = some c) (h4 : c.code = bytes)
    (h5 : (c.maxLocals == mx && c.exceptionTable.isEmpty && decide (c.maxStack ≤ mostOperands) && decide (meth.sig.returnType = rt) && !meth.locks && decide (parseMethodDescriptor y.desc = some meth.sig)) = true) : (Jvm.Cond.code y bytes mx rt).before a s = true := by
  simp only [Bool.and_eq_true, beq_iff_eq, Bool.not_eq_true', decide_eq_true_eq] at h5
  obtain ⟨⟨⟨⟨⟨g1, g2⟩, g3⟩, g4⟩, g5⟩, g6⟩ := h5
  simp [Cond.before, Cond.holds, Cond.value, h1, h2, h3, h4, g1, g2, g3, g4, g5, g6]
def isCode : Jvm.Cond → Bool
  | .code _ _ _ _ => true
  | _ => false
theorem all_split {L : List Jvm.Cond} {P : Jvm.Cond → Bool} (h1 : L.all (fun c => isCode c || P c) = true) (h2 : ∀ c ∈ L.filter isCode, P c = true) : L.all P = true := by
  refine List.all_eq_true.mpr fun c hc => ?_
  have h := List.all_eq_true.mp h1 c hc
  rcases Bool.eq_false_or_eq_true (isCode c) with hi | hi
  · exact h2 c (List.mem_filter.mpr ⟨hc, hi⟩)
  · simpa [hi] using h
set_option maxRecDepth 65536 in
theorem w_c0 : (Jvm.Cond.code x code maxLocals ret).before args0 about1 = true := code_word (m := ⟨1, 1⟩) (meth := k1m1) (c := k1c1) (by decide +kernel) rfl rfl rfl (by decide +kernel)
set_option maxRecDepth 65536 in
theorem w_c1 : (Jvm.Cond.code ({ cls := "com/example/vestline/vestline/core/Quarter", name := "<init>", desc := "(II)V" } : Jvm.MethodName) prog_27_method_1_code (3 : Nat) (Option.none : Option Jvm.ClassFile.FieldType)).before args0 about1 = true := code_word (m := ⟨3, 0⟩) (meth := k3m0) (c := k3c0) (by decide +kernel) rfl rfl rfl (by decide +kernel)
set_option maxRecDepth 65536 in
theorem w_c2 : (Jvm.Cond.code ({ cls := "java/lang/Record", name := "<init>", desc := "()V" } : Jvm.MethodName) jdk_30_method_1_code (1 : Nat) (Option.none : Option Jvm.ClassFile.FieldType)).before args0 about1 = true := code_word (m := ⟨2, 0⟩) (meth := k2m0) (c := k2c0) (by decide +kernel) rfl rfl rfl (by decide +kernel)
set_option maxRecDepth 65536 in
theorem w_c3 : (Jvm.Cond.code ({ cls := "java/lang/Object", name := "<init>", desc := "()V" } : Jvm.MethodName) object_method_1_code (1 : Nat) (Option.none : Option Jvm.ClassFile.FieldType)).before args0 about1 = true := code_word (m := ⟨0, 0⟩) (meth := k0m0) (c := k0c0) (by decide +kernel) rfl rfl rfl (by decide +kernel)
set_option maxRecDepth 65536 in
theorem w_c4 : (Jvm.Cond.code ({ cls := "com/example/vestline/vestline/core/Quarter", name := "next", desc := "()Lcom/example/vestline/vestline/core/Quarter;" } : Jvm.MethodName) prog_27_method_7_code (1 : Nat) (Option.some (Jvm.ClassFile.FieldType.object "com/example/vestline/vestline/core/Quarter"))).before args0 about1 = true := code_word (m := ⟨3, 1⟩) (meth := k3m1) (c := k3c1) (by decide +kernel) rfl rfl rfl (by decide +kernel)
set_option maxRecDepth 65536 in
theorem w_c5 : (Jvm.Cond.code ({ cls := "com/example/vestline/vestline/core/Quarter", name := "number", desc := "()I" } : Jvm.MethodName) prog_27_method_12_code (1 : Nat) (Option.some Jvm.ClassFile.FieldType.int)).before args0 about1 = true := code_word (m := ⟨3, 3⟩) (meth := k3m3) (c := k3c3) (by decide +kernel) rfl rfl rfl (by decide +kernel)
set_option maxRecDepth 65536 in
theorem w_c6 : (Jvm.Cond.code ({ cls := "com/example/vestline/vestline/core/Quarter", name := "year", desc := "()I" } : Jvm.MethodName) prog_27_method_11_code (1 : Nat) (Option.some Jvm.ClassFile.FieldType.int)).before args0 about1 = true := code_word (m := ⟨3, 2⟩) (meth := k3m2) (c := k3c2) (by decide +kernel) rfl rfl rfl (by decide +kernel)
def codes1 : List Jvm.Cond := [Jvm.Cond.code x code maxLocals ret, Jvm.Cond.code ({ cls := "com/example/vestline/vestline/core/Quarter", name := "<init>", desc := "(II)V" } : Jvm.MethodName) prog_27_method_1_code (3 : Nat) (Option.none : Option Jvm.ClassFile.FieldType), Jvm.Cond.code ({ cls := "java/lang/Record", name := "<init>", desc := "()V" } : Jvm.MethodName) jdk_30_method_1_code (1 : Nat) (Option.none : Option Jvm.ClassFile.FieldType), Jvm.Cond.code ({ cls := "java/lang/Object", name := "<init>", desc := "()V" } : Jvm.MethodName) object_method_1_code (1 : Nat) (Option.none : Option Jvm.ClassFile.FieldType), Jvm.Cond.code ({ cls := "com/example/vestline/vestline/core/Quarter", name := "next", desc := "()Lcom/example/vestline/vestline/core/Quarter;" } : Jvm.MethodName) prog_27_method_7_code (1 : Nat) (Option.some (Jvm.ClassFile.FieldType.object "com/example/vestline/vestline/core/Quarter")), Jvm.Cond.code ({ cls := "com/example/vestline/vestline/core/Quarter", name := "number", desc := "()I" } : Jvm.MethodName) prog_27_method_12_code (1 : Nat) (Option.some Jvm.ClassFile.FieldType.int), Jvm.Cond.code ({ cls := "com/example/vestline/vestline/core/Quarter", name := "year", desc := "()I" } : Jvm.MethodName) prog_27_method_11_code (1 : Nat) (Option.some Jvm.ClassFile.FieldType.int)]
set_option maxRecDepth 65536 in
theorem codes_eq : words1.filter isCode = codes1 := rfl
theorem w_codes : ∀ c ∈ words1.filter isCode, c.before args0 about1 = true := by
  rw [codes_eq]
  intro c hc
  simp only [codes1, List.mem_cons, List.not_mem_nil, or_false] at hc
  rcases hc with rfl | rfl | rfl | rfl | rfl | rfl | rfl
  · exact w_c0
  · exact w_c1
  · exact w_c2
  · exact w_c3
  · exact w_c4
  · exact w_c5
  · exact w_c6
set_option maxRecDepth 65536 in
theorem w_t1 : (words1.take 24).all (fun c => isCode c || c.before args0 about1) = true := by decide +kernel
set_option maxRecDepth 65536 in
theorem w_t2 : (words1.drop 24).all (fun c => isCode c || c.before args0 about1) = true := by decide +kernel
theorem w_tables : (allAtoms (Jvm.Cond.code x code maxLocals ret :: tables_1)).before args0 about1 = true := by
  rw [allAtoms_all]
  show words1.all (fun c => c.before args0 about1) = true
  refine all_split ?_ w_codes
  rw [← List.take_append_drop 24 words1, List.all_append, w_t1, w_t2]
  rfl
set_option maxRecDepth 65536 in
theorem w_case : (Jvm.Cond.and given_1 narrow_1).before args0 about1 = true := by decide +kernel
theorem w_applies : (headSpec (Jvm.Cond.code x code maxLocals ret :: tables_1) room_1).applies x e0.platform about1 = true :=
  (Spec.applies_iff w_frames).mpr ⟨w_running, w_runnable, w_alone, w_named, w_hears, w_ripe, w_room, w_tables⟩
theorem atStart : AtStart classFile x code maxLocals ret World_1 tables_1 room_1 Calls_1 rest_1 Pre_1 launch0 p0 e0 about1 theMethod args0 below0 :=
  ⟨lists_1, trivial, launch0.admits_env _ _ _, launch0.least_env, fairChoices_fair.cas, fairChoices_fair.clock, w_frames, w_args, w_heap, w_applies, trivial, trivial, w_case⟩
end start1
theorem witness_1 : WitnessClaimed_1 := ⟨start1.p0, start1.e0, start1.about1, start1.theMethod, start1.args0, start1.below0, start1.atStart⟩
end Jvm.Pilot.@@N@@

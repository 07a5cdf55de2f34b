import JvmDerived
import JvmDerived.Pilot.@@N@@Statement
import JvmDerived.Pilot.@@N@@Code
set_option linter.unusedVariables false
set_option linter.unusedSimpArgs false
namespace Jvm.RoadKit
open Sem ClassFile Op Lib Jvm.Stand Jvm.Free Jvm.LawKit
section New
variable {p : Program} {l : Launch} {e : Env} {R : Room} {s : State} {m : MethodId} {args : Array Value} {below : List Frame} {meth : Method} {c : Code} {T : State} {locs : List Loc} {cells slots : Nat}
theorem retI (X : Stand p l e R s m args below meth c T locs cells slots) (hx : p.tables.exec = Jvm.exec) {pc : Nat} {Ls : Array Slot} {z : Int32} {rest : List Value} (hret : meth.sig.returnType = some .int) (hd : decode c.code pc = .ok (.ireturn, 1)) {fs : List Frame}
    (hl : ∀ (f : JFrame) (acts : List Action), f.method = m → f.locked = none → f.entered = [] → (doReturn e (T.setTop f) acts (some (.int z))).1 = T.setFrames fs) : Steps p.tables e below (T.setTop (mkF m pc Ls (.int z :: rest))) (T.setFrames fs) := by
  have hm' : T.vm.method? m = some meth := X.method'
  have hn : narrow .int (.int z) = .int z := rfl
  show Steps p.tables e below (T.setTop { method := m, pc := pc, locals := Ls, stack := _ :: rest, locked := none }) _
  jvm_step X.here [X.here.top, hx, hd, hm', hret, hn]
  first | (intro acts; rw [hl _ acts rfl rfl rfl]) | rw [hl _ _ rfl rfl rfl]
  exact Steps.refl _
end New
end Jvm.RoadKit
namespace Jvm.Pilot.@@N@@
open Jvm Jvm.ClassFile Sem Op Lib Jvm.Free Jvm.Stand Jvm.LawKit Jvm.RoadKit Bundle Jvm.Pilot.@@N@@.Jvm.D
theorem pn_0 : plainName "com/example/libinterp/libinterp/PathParser$SelectorScan" = true := by first | (simp [plainName, overriddenIn]; done) | decide +kernel
theorem d1_0 : decode prog_39_method_1_code 0 = .ok (.aload_n 0, 1) := by decide +kernel
theorem d1_1 : decode prog_39_method_1_code 1 = .ok (.invokespecial 3, 3) := by decide +kernel
theorem d1_4 : decode prog_39_method_1_code 4 = .ok (.aload_n 0, 1) := by decide +kernel
theorem d1_5 : decode prog_39_method_1_code 5 = .ok (.iconst 0, 1) := by decide +kernel
theorem d1_6 : decode prog_39_method_1_code 6 = .ok (.putfield 11, 3) := by decide +kernel
theorem d1_9 : decode prog_39_method_1_code 9 = .ok (.return_, 1) := by decide +kernel
theorem ef_1 (m : MethodId) (x0 : Addr) : entryFrame m #[(.ref x0)] 1 = mkF m 0 #[.val (.ref x0)] [] := by first | (simp [entryFrame, mkF, argsToLocals, Value.category]; done) | rfl
def f1_quote (w_quote : Int32) (w_inSelector : Int32) (w_escaping : Int32) : Int32 := (0 : Int32)
def Q1 (Z : State) (a0t : Addr) (w_quote : Int32) (w_inSelector : Int32) (w_escaping : Int32) (h0 : Heap) (n0 : Nat) (v : Option Value) (h : Heap) (L : List Loc) : Prop := v = none ∧ Fr n0 L ∧ Keep h0 h [a0t] ∧ Exa Z h a0t "com/example/libinterp/libinterp/PathParser$SelectorScan" ∧ Fld Z h a0t "com/example/libinterp/libinterp/PathParser$SelectorScan" "quote" "C" (.int (f1_quote w_quote w_inSelector w_escaping)) ∧ Fld Z h a0t "com/example/libinterp/libinterp/PathParser$SelectorScan" "inSelector" "Z" (.int (w_inSelector)) ∧ Fld Z h a0t "com/example/libinterp/libinterp/PathParser$SelectorScan" "escaping" "Z" (.int (w_escaping))
set_option maxRecDepth 65536 in
set_option maxHeartbeats 40000000 in
theorem rm1 (l : Launch) (Z : State) (a0 : Array Value) (hw : ∀ d ∈ tables_1, d.before a0 Z = true) (ws : List Jvm.Cond) (a0t : Addr) (w_quote : Int32) (w_inSelector : Int32) (w_escaping : Int32) (h0 : Heap) (n0 : Nat) (Z0 : n0 ≤ h0.size) (E_this : Exa Z h0 a0t "com/example/libinterp/libinterp/PathParser$SelectorScan") (g_this : n0 ≤ a0t) (F_quote : Fld Z h0 a0t "com/example/libinterp/libinterp/PathParser$SelectorScan" "quote" "C" (.int w_quote)) (F_inSelector : Fld Z h0 a0t "com/example/libinterp/libinterp/PathParser$SelectorScan" "inSelector" "Z" (.int w_inSelector)) (F_escaping : Fld Z h0 a0t "com/example/libinterp/libinterp/PathParser$SelectorScan" "escaping" "Z" (.int w_escaping)) :
    MetFree l (⟨"com/example/libinterp/libinterp/PathParser$SelectorScan", "<init>", "()V"⟩ : MethodName) (head1 (Jvm.Cond.code (⟨"com/example/libinterp/libinterp/PathParser$SelectorScan", "<init>", "()V"⟩ : MethodName) prog_39_method_1_code 1 none :: ws) ({ frames := 1, cells := 0, slots := 0, locals := 12 } : Room)) (fun a U => a = #[(.ref a0t)] ∧ Z.Warmed39 U.vm ∧ U.heap = h0) (fun _ _ _ _ _ => True) (fun _ U o U' => ∃ v L, o = .returned v ∧ Q1 Z a0t w_quote w_inSelector w_escaping h0 n0 v U'.heap L ∧ FrameEnd U o U' L ({ frames := 1, cells := 0, slots := 0, locals := 12 } : Room).cells ({ frames := 1, cells := 0, slots := 0, locals := 12 } : Room).slots) := by
  refine MetFree.of_bodySF (plainFor_of_name pn_0) hisR ?_
  intro p e s m args below meth c s₁ Bd hml0 hP hK
  obtain ⟨rfl, hZ, hh⟩ := hP
  have hx := Bd.exec
  have hby := Bd.bytes
  have hml : c.maxLocals = 1 := hml0
  have hown : s.vm.findClass "com/example/libinterp/libinterp/PathParser$SelectorScan" = some m.cls := findClass_of_methodNamed Bd.named
  have hnm := (name_of_methodNamed Bd.named Bd.method).1
  have X0 : Stand p l e ({ frames := 1, cells := 0, slots := 0, locals := 12 } : Room) s m #[(.ref a0t)] below meth c s₁ [] 0 0 := Stand.of_body Bd
  have e0 : s₁.heap = h0 := by rw [← hh, Bd.state]; rfl
  have N0 := Fr.nil n0
  have K0 := Keep.refl h0 [a0t]
  have pre0 : ∀ t, Steps p.tables e below (s₁.setTop (mkF m 0 #[.val (.ref a0t)] [])) t → Steps p.tables e below (s₁.setTop (entryFrame m #[(.ref a0t)] 1)) t := fun t k => castTop (ef_1 m a0t) k
  obtain ⟨T1, X1, e1, st1⟩ := initO X0 hx hZ hown (hw _ (List.mem_of_getElem? (i := 7) rfl)) (hw _ (List.mem_of_getElem? (i := 8) rfl)) (hw _ (List.mem_of_getElem? (i := 9) rfl)) e0 (g := (mkF m 1 #[.val (.ref a0t)] [(.ref a0t)])) rfl (by rw [hml]; rfl) rfl (hb hby d1_1) (by decide) (W := 0) (by show 2 * 0 + _ ≤ _; exact Nat.le_of_eq rfl) (by decide)
  obtain ⟨T2, h2, X2, e2, W2, st2⟩ := putFN X1 hx hZ hown (hw _ (List.mem_of_getElem? (i := 10) rfl)) Via.refl e1 F_quote E_this (Or.inl (hw _ (List.mem_of_getElem? (i := 11) rfl))) (hw _ (List.mem_of_getElem? (i := 2) rfl)) (ty := .char) (v' := (.int (0 : Int32))) (by decide) rfl (by decide) (g := (mkF m 6 #[.val (.ref a0t)] [(.int (0 : Int32)), (.ref a0t)])) rfl rfl (hb hby d1_6)
  have F_quote_a0t_2 := F_quote.same W2
  have F_inSelector_a0t_2 := F_inSelector.other W2 (Or.inr (slot_ne (Or.inl (hw _ (List.mem_of_getElem? (i := 18) rfl))) (Or.inl (hw _ (List.mem_of_getElem? (i := 11) rfl))) (by decide) (t := .boolean) (t' := .char) (by decide) (by decide)))
  have F_escaping_a0t_2 := F_escaping.other W2 (Or.inr (slot_ne (Or.inl (hw _ (List.mem_of_getElem? (i := 33) rfl))) (Or.inl (hw _ (List.mem_of_getElem? (i := 11) rfl))) (by decide) (t := .boolean) (t' := .char) (by decide) (by decide)))
  have E_a0t_2 := E_this.wr W2
  have N2 := Fr.snoc X2 N0 g_this
  have Zz2 := Nat.le_trans Z0 (Keep.of_wr W2).1
  have K2 : Keep h0 h2 [a0t] := K0.wr W2 (Or.inl (by simp))
  obtain ⟨fs, hr, hrun, hended, hW, hsame⟩ := X2.leave (v := none) (fun _ => rfl)
  refine ⟨_, _, pre0 _ ?_, hrun, hended, _, _, rfl, ?_, ⟨_, rfl⟩, hW, hsame.mono (by decide) (by decide)⟩
  · show Steps p.tables e below (s₁.setTop (mkF m 0 #[.val (.ref a0t)] [])) _
    refine XS.aloadN X0.here hx rfl (hb hby d1_0) rfl rfl ?_
    show Steps p.tables e below (s₁.setTop (mkF m 1 #[.val (.ref a0t)] [(.ref a0t)])) _
    refine st1 _ ?_
    show Steps p.tables e below (T1.setTop (mkF m 4 #[.val (.ref a0t)] [])) _
    refine XS.aloadN X1.here hx rfl (hb hby d1_4) rfl rfl ?_
    show Steps p.tables e below (T1.setTop (mkF m 5 #[.val (.ref a0t)] [(.ref a0t)])) _
    refine XS.iconst X1.here hx rfl (hb hby d1_5) ?_
    show Steps p.tables e below (T1.setTop (mkF m 6 #[.val (.ref a0t)] [(.int (0 : Int32)), (.ref a0t)])) _
    refine st2 _ ?_
    show Steps p.tables e below (T2.setTop (mkF m 9 #[.val (.ref a0t)] [])) _
    exact X2.returnOut hx Bd.returns (hb hby d1_9) hr
  · show Q1 Z a0t w_quote w_inSelector w_escaping h0 n0 _ T2.heap _
    rw [e2]
    exact ⟨rfl, N2, K2, E_a0t_2, by rw [show f1_quote w_quote w_inSelector w_escaping = (0 : Int32) from by unfold f1_quote; rfl]; exact F_quote_a0t_2, F_inSelector_a0t_2, F_escaping_a0t_2⟩
theorem pn_1 : plainName "com/example/libinterp/libinterp/PathParser" = true := by first | (simp [plainName, overriddenIn]; done) | decide +kernel
theorem d5_0 : decode prog_38_method_19_code 0 = .ok (.iload_n 0, 1) := by decide +kernel
theorem d5_1 : decode prog_38_method_19_code 1 = .ok (.bipush 39, 2) := by decide +kernel
theorem d5_3 : decode prog_38_method_19_code 3 = .ok (.if_icmp .eq 9, 3) := by decide +kernel
theorem d5_6 : decode prog_38_method_19_code 6 = .ok (.iload_n 0, 1) := by decide +kernel
theorem d5_7 : decode prog_38_method_19_code 7 = .ok (.bipush 34, 2) := by decide +kernel
theorem d5_9 : decode prog_38_method_19_code 9 = .ok (.if_icmp .ne 7, 3) := by decide +kernel
theorem d5_12 : decode prog_38_method_19_code 12 = .ok (.iconst 1, 1) := by decide +kernel
theorem d5_13 : decode prog_38_method_19_code 13 = .ok (.goto 4, 3) := by decide +kernel
theorem d5_16 : decode prog_38_method_19_code 16 = .ok (.iconst 0, 1) := by decide +kernel
theorem d5_17 : decode prog_38_method_19_code 17 = .ok (.ireturn, 1) := by decide +kernel
theorem ef_5 (m : MethodId) (x0 : Int32) : entryFrame m #[(.int x0)] 1 = mkF m 0 #[.val (.int x0)] [] := by first | (simp [entryFrame, mkF, argsToLocals, Value.category]; done) | rfl
def f5 (p0 : Int32) : Int32 := (if p0 = (39 : Int32) then (1 : Int32) else (if p0 = (34 : Int32) then (1 : Int32) else (0 : Int32)))
def Q5 (Z : State) (p0 : Int32) (h0 : Heap) (n0 : Nat) (v : Option Value) (h : Heap) (L : List Loc) : Prop := v = some (.int (f5 p0)) ∧ Fr n0 L ∧ h = h0
set_option maxRecDepth 65536 in
set_option maxHeartbeats 40000000 in
theorem rm5 (l : Launch) (Z : State) (a0 : Array Value) (hw : ∀ d ∈ tables_1, d.before a0 Z = true) (ws : List Jvm.Cond) (p0 : Int32) (h0 : Heap) (n0 : Nat) (Z0 : n0 ≤ h0.size)  :
    MetFree l (⟨"com/example/libinterp/libinterp/PathParser", "isQuote", "(C)Z"⟩ : MethodName) (head1 (Jvm.Cond.code (⟨"com/example/libinterp/libinterp/PathParser", "isQuote", "(C)Z"⟩ : MethodName) prog_38_method_19_code 1 (some .boolean) :: ws) ({ frames := 0, cells := 0, slots := 0, locals := 0 } : Room)) (fun a U => a = #[(.int p0)] ∧ Z.Warmed39 U.vm ∧ U.heap = h0) (fun _ _ _ _ _ => True) (fun _ U o U' => ∃ v L, o = .returned v ∧ Q5 Z p0 h0 n0 v U'.heap L ∧ FrameEnd U o U' L ({ frames := 0, cells := 0, slots := 0, locals := 0 } : Room).cells ({ frames := 0, cells := 0, slots := 0, locals := 0 } : Room).slots) := by
  refine MetFree.of_bodySF (plainFor_of_name pn_1) hisR ?_
  intro p e s m args below meth c s₁ Bd hml0 hP hK
  obtain ⟨rfl, hZ, hh⟩ := hP
  have hx := Bd.exec
  have hby := Bd.bytes
  have hml : c.maxLocals = 1 := hml0
  have hown : s.vm.findClass "com/example/libinterp/libinterp/PathParser" = some m.cls := findClass_of_methodNamed Bd.named
  have hnm := (name_of_methodNamed Bd.named Bd.method).1
  have X0 : Stand p l e ({ frames := 0, cells := 0, slots := 0, locals := 0 } : Room) s m #[(.int p0)] below meth c s₁ [] 0 0 := Stand.of_body Bd
  have e0 : s₁.heap = h0 := by rw [← hh, Bd.state]; rfl
  have N0 := Fr.nil n0
  have K0 := Keep.refl h0 []
  have pre0 : ∀ t, Steps p.tables e below (s₁.setTop (mkF m 0 #[.val (.int p0)] [])) t → Steps p.tables e below (s₁.setTop (entryFrame m #[(.int p0)] 1)) t := fun t k => castTop (ef_5 m p0) k
  have pre1 : ∀ t, Steps p.tables e below (s₁.setTop (mkF m 3 #[.val (.int p0)] [(.int (39 : Int32)), (.int p0)])) t → Steps p.tables e below (s₁.setTop (entryFrame m #[(.int p0)] 1)) t := fun t kt => pre0 t (by
    show Steps p.tables e below (s₁.setTop (mkF m 0 #[.val (.int p0)] [])) _
    refine XS.iloadN X0.here hx rfl (hb hby d5_0) rfl ?_
    show Steps p.tables e below (s₁.setTop (mkF m 1 #[.val (.int p0)] [(.int p0)])) _
    refine XS.bipush X0.here hx rfl (hb hby d5_1) ?_
    exact kt)
  by_cases hc2 : p0 = (39 : Int32)
  · obtain ⟨fs, hr, hrun, hended, hW, hsame⟩ := X0.leave (v := some (.int (1 : Int32))) (fun h => by rw [Bd.returns] at h; cases h)
    refine ⟨_, _, pre1 _ ?_, hrun, hended, _, _, rfl, ?_, ⟨_, rfl⟩, hW, hsame.mono (by decide) (by decide)⟩
    · show Steps p.tables e below (s₁.setTop (mkF m 3 #[.val (.int p0)] [(.int (39 : Int32)), (.int p0)])) _
      refine XS.icmpYes X0.here hx rfl (pc0 := 3) (pc' := 12) rfl (hb hby d5_3) rfl (teq hc2).1 (by decide) (by decide) ?_
      show Steps p.tables e below (s₁.setTop (mkF m 12 #[.val (.int p0)] [])) _
      refine XS.iconst X0.here hx rfl (hb hby d5_12) ?_
      show Steps p.tables e below (s₁.setTop (mkF m 13 #[.val (.int p0)] [(.int (1 : Int32))])) _
      refine XS.goto X0.here hx rfl (pc0 := 13) (pc' := 17) rfl (hb hby d5_13) (by decide) (by decide) ?_
      show Steps p.tables e below (s₁.setTop (mkF m 17 #[.val (.int p0)] [(.int (1 : Int32))])) _
      exact retN X0 hx (t := .boolean) Bd.returns (by simp) (hb hby d5_17) hr
    · show Q5 Z p0 h0 n0 _ s₁.heap _
      rw [e0]
      exact ⟨by rw [show f5 p0 = (1 : Int32) from by unfold f5; rw [if_pos hc2]], N0, rfl⟩
  · have pre3 : ∀ t, Steps p.tables e below (s₁.setTop (mkF m 9 #[.val (.int p0)] [(.int (34 : Int32)), (.int p0)])) t → Steps p.tables e below (s₁.setTop (entryFrame m #[(.int p0)] 1)) t := fun t kt => pre1 t (by
      show Steps p.tables e below (s₁.setTop (mkF m 3 #[.val (.int p0)] [(.int (39 : Int32)), (.int p0)])) _
      refine XS.icmpNo X0.here hx rfl (hb hby d5_3) rfl (feq hc2).1 ?_
      show Steps p.tables e below (s₁.setTop (mkF m 6 #[.val (.int p0)] [])) _
      refine XS.iloadN X0.here hx rfl (hb hby d5_6) rfl ?_
      show Steps p.tables e below (s₁.setTop (mkF m 7 #[.val (.int p0)] [(.int p0)])) _
      refine XS.bipush X0.here hx rfl (hb hby d5_7) ?_
      exact kt)
    by_cases hc4 : p0 = (34 : Int32)
    · obtain ⟨fs, hr, hrun, hended, hW, hsame⟩ := X0.leave (v := some (.int (1 : Int32))) (fun h => by rw [Bd.returns] at h; cases h)
      refine ⟨_, _, pre3 _ ?_, hrun, hended, _, _, rfl, ?_, ⟨_, rfl⟩, hW, hsame.mono (by decide) (by decide)⟩
      · show Steps p.tables e below (s₁.setTop (mkF m 9 #[.val (.int p0)] [(.int (34 : Int32)), (.int p0)])) _
        refine XS.icmpNo X0.here hx rfl (hb hby d5_9) rfl (teq hc4).2 ?_
        show Steps p.tables e below (s₁.setTop (mkF m 12 #[.val (.int p0)] [])) _
        refine XS.iconst X0.here hx rfl (hb hby d5_12) ?_
        show Steps p.tables e below (s₁.setTop (mkF m 13 #[.val (.int p0)] [(.int (1 : Int32))])) _
        refine XS.goto X0.here hx rfl (pc0 := 13) (pc' := 17) rfl (hb hby d5_13) (by decide) (by decide) ?_
        show Steps p.tables e below (s₁.setTop (mkF m 17 #[.val (.int p0)] [(.int (1 : Int32))])) _
        exact retN X0 hx (t := .boolean) Bd.returns (by simp) (hb hby d5_17) hr
      · show Q5 Z p0 h0 n0 _ s₁.heap _
        rw [e0]
        exact ⟨by rw [show f5 p0 = (1 : Int32) from by unfold f5; rw [if_neg hc2, if_pos hc4]], N0, rfl⟩
    · obtain ⟨fs, hr, hrun, hended, hW, hsame⟩ := X0.leave (v := some (.int (0 : Int32))) (fun h => by rw [Bd.returns] at h; cases h)
      refine ⟨_, _, pre3 _ ?_, hrun, hended, _, _, rfl, ?_, ⟨_, rfl⟩, hW, hsame.mono (by decide) (by decide)⟩
      · show Steps p.tables e below (s₁.setTop (mkF m 9 #[.val (.int p0)] [(.int (34 : Int32)), (.int p0)])) _
        refine XS.icmpYes X0.here hx rfl (pc0 := 9) (pc' := 16) rfl (hb hby d5_9) rfl (feq hc4).2 (by decide) (by decide) ?_
        show Steps p.tables e below (s₁.setTop (mkF m 16 #[.val (.int p0)] [])) _
        refine XS.iconst X0.here hx rfl (hb hby d5_16) ?_
        show Steps p.tables e below (s₁.setTop (mkF m 17 #[.val (.int p0)] [(.int (0 : Int32))])) _
        exact retN X0 hx (t := .boolean) Bd.returns (by simp) (hb hby d5_17) hr
      · show Q5 Z p0 h0 n0 _ s₁.heap _
        rw [e0]
        exact ⟨by rw [show f5 p0 = (0 : Int32) from by unfold f5; rw [if_neg hc2, if_neg hc4]], N0, rfl⟩
theorem d6_0 : decode prog_39_method_3_code 0 = .ok (.aload_n 0, 1) := by decide +kernel
theorem d6_1 : decode prog_39_method_3_code 1 = .ok (.getfield 27, 3) := by decide +kernel
theorem d6_4 : decode prog_39_method_3_code 4 = .ok (.ifCond .eq 11, 3) := by decide +kernel
theorem d6_7 : decode prog_39_method_3_code 7 = .ok (.aload_n 0, 1) := by decide +kernel
theorem d6_8 : decode prog_39_method_3_code 8 = .ok (.iconst 0, 1) := by decide +kernel
theorem d6_9 : decode prog_39_method_3_code 9 = .ok (.putfield 27, 3) := by decide +kernel
theorem d6_12 : decode prog_39_method_3_code 12 = .ok (.goto 30, 3) := by decide +kernel
theorem d6_15 : decode prog_39_method_3_code 15 = .ok (.iload_n 1, 1) := by decide +kernel
theorem d6_16 : decode prog_39_method_3_code 16 = .ok (.bipush 92, 2) := by decide +kernel
theorem d6_18 : decode prog_39_method_3_code 18 = .ok (.if_icmp .ne 11, 3) := by decide +kernel
theorem d6_21 : decode prog_39_method_3_code 21 = .ok (.aload_n 0, 1) := by decide +kernel
theorem d6_22 : decode prog_39_method_3_code 22 = .ok (.iconst 1, 1) := by decide +kernel
theorem d6_23 : decode prog_39_method_3_code 23 = .ok (.putfield 27, 3) := by decide +kernel
theorem d6_26 : decode prog_39_method_3_code 26 = .ok (.goto 16, 3) := by decide +kernel
theorem d6_29 : decode prog_39_method_3_code 29 = .ok (.iload_n 1, 1) := by decide +kernel
theorem d6_30 : decode prog_39_method_3_code 30 = .ok (.aload_n 0, 1) := by decide +kernel
theorem d6_31 : decode prog_39_method_3_code 31 = .ok (.getfield 11, 3) := by decide +kernel
theorem d6_34 : decode prog_39_method_3_code 34 = .ok (.if_icmp .ne 8, 3) := by decide +kernel
theorem d6_37 : decode prog_39_method_3_code 37 = .ok (.aload_n 0, 1) := by decide +kernel
theorem d6_38 : decode prog_39_method_3_code 38 = .ok (.iconst 0, 1) := by decide +kernel
theorem d6_39 : decode prog_39_method_3_code 39 = .ok (.putfield 11, 3) := by decide +kernel
theorem d6_42 : decode prog_39_method_3_code 42 = .ok (.return_, 1) := by decide +kernel
theorem ef_6 (m : MethodId) (x0 : Addr) (x1 : Int32) : entryFrame m #[(.ref x0), (.int x1)] 2 = mkF m 0 #[.val (.ref x0), .val (.int x1)] [] := by first | (simp [entryFrame, mkF, argsToLocals, Value.category]; done) | rfl
def f6_quote (p0 : Int32) (w_quote : Int32) (w_inSelector : Int32) (w_escaping : Int32) : Int32 := (if w_escaping = (0 : Int32) then (if p0 = (92 : Int32) then w_quote else (if p0 = w_quote then (0 : Int32) else w_quote)) else w_quote)
def f6_escaping (p0 : Int32) (w_quote : Int32) (w_inSelector : Int32) (w_escaping : Int32) : Int32 := (if w_escaping = (0 : Int32) then (if p0 = (92 : Int32) then (1 : Int32) else (if p0 = w_quote then w_escaping else w_escaping)) else (0 : Int32))
def Q6 (Z : State) (a0t : Addr) (p0 : Int32) (w_quote : Int32) (w_inSelector : Int32) (w_escaping : Int32) (h0 : Heap) (n0 : Nat) (v : Option Value) (h : Heap) (L : List Loc) : Prop := v = none ∧ Fr n0 L ∧ Keep h0 h [a0t] ∧ Exa Z h a0t "com/example/libinterp/libinterp/PathParser$SelectorScan" ∧ Fld Z h a0t "com/example/libinterp/libinterp/PathParser$SelectorScan" "quote" "C" (.int (f6_quote p0 w_quote w_inSelector w_escaping)) ∧ Fld Z h a0t "com/example/libinterp/libinterp/PathParser$SelectorScan" "inSelector" "Z" (.int (w_inSelector)) ∧ Fld Z h a0t "com/example/libinterp/libinterp/PathParser$SelectorScan" "escaping" "Z" (.int (f6_escaping p0 w_quote w_inSelector w_escaping))
set_option maxRecDepth 65536 in
set_option maxHeartbeats 40000000 in
theorem rm6 (l : Launch) (Z : State) (a0 : Array Value) (hw : ∀ d ∈ tables_1, d.before a0 Z = true) (ws : List Jvm.Cond) (a0t : Addr) (p0 : Int32) (w_quote : Int32) (w_inSelector : Int32) (w_escaping : Int32) (h0 : Heap) (n0 : Nat) (Z0 : n0 ≤ h0.size) (E_this : Exa Z h0 a0t "com/example/libinterp/libinterp/PathParser$SelectorScan") (g_this : n0 ≤ a0t) (F_quote : Fld Z h0 a0t "com/example/libinterp/libinterp/PathParser$SelectorScan" "quote" "C" (.int w_quote)) (F_inSelector : Fld Z h0 a0t "com/example/libinterp/libinterp/PathParser$SelectorScan" "inSelector" "Z" (.int w_inSelector)) (F_escaping : Fld Z h0 a0t "com/example/libinterp/libinterp/PathParser$SelectorScan" "escaping" "Z" (.int w_escaping)) :
    MetFree l (⟨"com/example/libinterp/libinterp/PathParser$SelectorScan", "readQuoted", "(C)V"⟩ : MethodName) (head1 (Jvm.Cond.code (⟨"com/example/libinterp/libinterp/PathParser$SelectorScan", "readQuoted", "(C)V"⟩ : MethodName) prog_39_method_3_code 2 none :: ws) ({ frames := 0, cells := 0, slots := 0, locals := 0 } : Room)) (fun a U => a = #[(.ref a0t), (.int p0)] ∧ Z.Warmed39 U.vm ∧ U.heap = h0) (fun _ _ _ _ _ => True) (fun _ U o U' => ∃ v L, o = .returned v ∧ Q6 Z a0t p0 w_quote w_inSelector w_escaping h0 n0 v U'.heap L ∧ FrameEnd U o U' L ({ frames := 0, cells := 0, slots := 0, locals := 0 } : Room).cells ({ frames := 0, cells := 0, slots := 0, locals := 0 } : Room).slots) := by
  refine MetFree.of_bodySF (plainFor_of_name pn_0) hisR ?_
  intro p e s m args below meth c s₁ Bd hml0 hP hK
  obtain ⟨rfl, hZ, hh⟩ := hP
  have hx := Bd.exec
  have hby := Bd.bytes
  have hml : c.maxLocals = 2 := hml0
  have hown : s.vm.findClass "com/example/libinterp/libinterp/PathParser$SelectorScan" = some m.cls := findClass_of_methodNamed Bd.named
  have hnm := (name_of_methodNamed Bd.named Bd.method).1
  have X0 : Stand p l e ({ frames := 0, cells := 0, slots := 0, locals := 0 } : Room) s m #[(.ref a0t), (.int p0)] below meth c s₁ [] 0 0 := Stand.of_body Bd
  have e0 : s₁.heap = h0 := by rw [← hh, Bd.state]; rfl
  have N0 := Fr.nil n0
  have K0 := Keep.refl h0 [a0t]
  have pre0 : ∀ t, Steps p.tables e below (s₁.setTop (mkF m 0 #[.val (.ref a0t), .val (.int p0)] [])) t → Steps p.tables e below (s₁.setTop (entryFrame m #[(.ref a0t), (.int p0)] 2)) t := fun t k => castTop (ef_6 m a0t p0) k
  obtain ⟨T1, X1, e1, st1⟩ := getF X0 hx hZ hown (host := "") (Or.inl (hw _ (List.mem_of_getElem? (i := 32) rfl))) Via.refl e0 F_escaping (g := (mkF m 1 #[.val (.ref a0t), .val (.int p0)] [(.ref a0t)])) rfl rfl (hb hby d6_1)
  have pre2 : ∀ t, Steps p.tables e below (T1.setTop (mkF m 4 #[.val (.ref a0t), .val (.int p0)] [(.int w_escaping)])) t → Steps p.tables e below (s₁.setTop (entryFrame m #[(.ref a0t), (.int p0)] 2)) t := fun t kt => pre0 t (by
    show Steps p.tables e below (s₁.setTop (mkF m 0 #[.val (.ref a0t), .val (.int p0)] [])) _
    refine XS.aloadN X0.here hx rfl (hb hby d6_0) rfl rfl ?_
    show Steps p.tables e below (s₁.setTop (mkF m 1 #[.val (.ref a0t), .val (.int p0)] [(.ref a0t)])) _
    refine st1 _ ?_
    exact kt)
  by_cases hc3 : w_escaping = (0 : Int32)
  · have pre4 : ∀ t, Steps p.tables e below (T1.setTop (mkF m 18 #[.val (.ref a0t), .val (.int p0)] [(.int (92 : Int32)), (.int p0)])) t → Steps p.tables e below (s₁.setTop (entryFrame m #[(.ref a0t), (.int p0)] 2)) t := fun t kt => pre2 t (by
      show Steps p.tables e below (T1.setTop (mkF m 4 #[.val (.ref a0t), .val (.int p0)] [(.int w_escaping)])) _
      refine XS.ifYes X1.here hx rfl (pc0 := 4) (pc' := 15) rfl (hb hby d6_4) rfl ((if0 _ _).trans (teq hc3).1) (by decide) (by decide) ?_
      show Steps p.tables e below (T1.setTop (mkF m 15 #[.val (.ref a0t), .val (.int p0)] [])) _
      refine XS.iloadN X1.here hx rfl (hb hby d6_15) rfl ?_
      show Steps p.tables e below (T1.setTop (mkF m 16 #[.val (.ref a0t), .val (.int p0)] [(.int p0)])) _
      refine XS.bipush X1.here hx rfl (hb hby d6_16) ?_
      exact kt)
    by_cases hc5 : p0 = (92 : Int32)
    · obtain ⟨T6, h6, X6, e6, W6, st6⟩ := putFN X1 hx hZ hown (hw _ (List.mem_of_getElem? (i := 32) rfl)) Via.refl e1 F_escaping E_this (Or.inl (hw _ (List.mem_of_getElem? (i := 33) rfl))) (hw _ (List.mem_of_getElem? (i := 2) rfl)) (ty := .boolean) (v' := (.int (1 : Int32))) (by decide) rfl (by decide) (g := (mkF m 23 #[.val (.ref a0t), .val (.int p0)] [(.int (1 : Int32)), (.ref a0t)])) rfl rfl (hb hby d6_23)
      have F_quote_a0t_6 := F_quote.other W6 (Or.inr (slot_ne (Or.inl (hw _ (List.mem_of_getElem? (i := 11) rfl))) (Or.inl (hw _ (List.mem_of_getElem? (i := 33) rfl))) (by decide) (t := .char) (t' := .boolean) (by decide) (by decide)))
      have F_inSelector_a0t_6 := F_inSelector.other W6 (Or.inr (slot_ne (Or.inl (hw _ (List.mem_of_getElem? (i := 18) rfl))) (Or.inl (hw _ (List.mem_of_getElem? (i := 33) rfl))) (by decide) (t := .boolean) (t' := .boolean) (by decide) (by decide)))
      have F_escaping_a0t_6 := F_escaping.same W6
      have E_a0t_6 := E_this.wr W6
      have N6 := Fr.snoc X6 N0 g_this
      have Zz6 := Nat.le_trans Z0 (Keep.of_wr W6).1
      have K6 : Keep h0 h6 [a0t] := K0.wr W6 (Or.inl (by simp))
      obtain ⟨fs, hr, hrun, hended, hW, hsame⟩ := X6.leave (v := none) (fun _ => rfl)
      refine ⟨_, _, pre4 _ ?_, hrun, hended, _, _, rfl, ?_, ⟨_, rfl⟩, hW, hsame.mono (by decide) (by decide)⟩
      · show Steps p.tables e below (T1.setTop (mkF m 18 #[.val (.ref a0t), .val (.int p0)] [(.int (92 : Int32)), (.int p0)])) _
        refine XS.icmpNo X1.here hx rfl (hb hby d6_18) rfl (teq hc5).2 ?_
        show Steps p.tables e below (T1.setTop (mkF m 21 #[.val (.ref a0t), .val (.int p0)] [])) _
        refine XS.aloadN X1.here hx rfl (hb hby d6_21) rfl rfl ?_
        show Steps p.tables e below (T1.setTop (mkF m 22 #[.val (.ref a0t), .val (.int p0)] [(.ref a0t)])) _
        refine XS.iconst X1.here hx rfl (hb hby d6_22) ?_
        show Steps p.tables e below (T1.setTop (mkF m 23 #[.val (.ref a0t), .val (.int p0)] [(.int (1 : Int32)), (.ref a0t)])) _
        refine st6 _ ?_
        show Steps p.tables e below (T6.setTop (mkF m 26 #[.val (.ref a0t), .val (.int p0)] [])) _
        refine XS.goto X6.here hx rfl (pc0 := 26) (pc' := 42) rfl (hb hby d6_26) (by decide) (by decide) ?_
        show Steps p.tables e below (T6.setTop (mkF m 42 #[.val (.ref a0t), .val (.int p0)] [])) _
        exact X6.returnOut hx Bd.returns (hb hby d6_42) hr
      · show Q6 Z a0t p0 w_quote w_inSelector w_escaping h0 n0 _ T6.heap _
        rw [e6]
        exact ⟨rfl, N6, K6, E_a0t_6, by rw [show f6_quote p0 w_quote w_inSelector w_escaping = w_quote from by unfold f6_quote; rw [if_pos hc3, if_pos hc5]]; exact F_quote_a0t_6, F_inSelector_a0t_6, by rw [show f6_escaping p0 w_quote w_inSelector w_escaping = (1 : Int32) from by unfold f6_escaping; rw [if_pos hc3, if_pos hc5]]; exact F_escaping_a0t_6⟩
    · obtain ⟨T7, X7, e7, st7⟩ := getF X1 hx hZ hown (host := "") (Or.inl (hw _ (List.mem_of_getElem? (i := 10) rfl))) Via.refl e1 F_quote (g := (mkF m 31 #[.val (.ref a0t), .val (.int p0)] [(.ref a0t), (.int p0)])) rfl rfl (hb hby d6_31)
      have pre8 : ∀ t, Steps p.tables e below (T7.setTop (mkF m 34 #[.val (.ref a0t), .val (.int p0)] [(.int w_quote), (.int p0)])) t → Steps p.tables e below (s₁.setTop (entryFrame m #[(.ref a0t), (.int p0)] 2)) t := fun t kt => pre4 t (by
        show Steps p.tables e below (T1.setTop (mkF m 18 #[.val (.ref a0t), .val (.int p0)] [(.int (92 : Int32)), (.int p0)])) _
        refine XS.icmpYes X1.here hx rfl (pc0 := 18) (pc' := 29) rfl (hb hby d6_18) rfl (feq hc5).2 (by decide) (by decide) ?_
        show Steps p.tables e below (T1.setTop (mkF m 29 #[.val (.ref a0t), .val (.int p0)] [])) _
        refine XS.iloadN X1.here hx rfl (hb hby d6_29) rfl ?_
        show Steps p.tables e below (T1.setTop (mkF m 30 #[.val (.ref a0t), .val (.int p0)] [(.int p0)])) _
        refine XS.aloadN X1.here hx rfl (hb hby d6_30) rfl rfl ?_
        show Steps p.tables e below (T1.setTop (mkF m 31 #[.val (.ref a0t), .val (.int p0)] [(.ref a0t), (.int p0)])) _
        refine st7 _ ?_
        exact kt)
      by_cases hc9 : p0 = w_quote
      · obtain ⟨T10, h10, X10, e10, W10, st10⟩ := putFN X7 hx hZ hown (hw _ (List.mem_of_getElem? (i := 10) rfl)) Via.refl e7 F_quote E_this (Or.inl (hw _ (List.mem_of_getElem? (i := 11) rfl))) (hw _ (List.mem_of_getElem? (i := 2) rfl)) (ty := .char) (v' := (.int (0 : Int32))) (by decide) rfl (by decide) (g := (mkF m 39 #[.val (.ref a0t), .val (.int p0)] [(.int (0 : Int32)), (.ref a0t)])) rfl rfl (hb hby d6_39)
        have F_quote_a0t_10 := F_quote.same W10
        have F_inSelector_a0t_10 := F_inSelector.other W10 (Or.inr (slot_ne (Or.inl (hw _ (List.mem_of_getElem? (i := 18) rfl))) (Or.inl (hw _ (List.mem_of_getElem? (i := 11) rfl))) (by decide) (t := .boolean) (t' := .char) (by decide) (by decide)))
        have F_escaping_a0t_10 := F_escaping.other W10 (Or.inr (slot_ne (Or.inl (hw _ (List.mem_of_getElem? (i := 33) rfl))) (Or.inl (hw _ (List.mem_of_getElem? (i := 11) rfl))) (by decide) (t := .boolean) (t' := .char) (by decide) (by decide)))
        have E_a0t_10 := E_this.wr W10
        have N10 := Fr.snoc X10 N0 g_this
        have Zz10 := Nat.le_trans Z0 (Keep.of_wr W10).1
        have K10 : Keep h0 h10 [a0t] := K0.wr W10 (Or.inl (by simp))
        obtain ⟨fs, hr, hrun, hended, hW, hsame⟩ := X10.leave (v := none) (fun _ => rfl)
        refine ⟨_, _, pre8 _ ?_, hrun, hended, _, _, rfl, ?_, ⟨_, rfl⟩, hW, hsame.mono (by decide) (by decide)⟩
        · show Steps p.tables e below (T7.setTop (mkF m 34 #[.val (.ref a0t), .val (.int p0)] [(.int w_quote), (.int p0)])) _
          refine XS.icmpNo X7.here hx rfl (hb hby d6_34) rfl (teq hc9).2 ?_
          show Steps p.tables e below (T7.setTop (mkF m 37 #[.val (.ref a0t), .val (.int p0)] [])) _
          refine XS.aloadN X7.here hx rfl (hb hby d6_37) rfl rfl ?_
          show Steps p.tables e below (T7.setTop (mkF m 38 #[.val (.ref a0t), .val (.int p0)] [(.ref a0t)])) _
          refine XS.iconst X7.here hx rfl (hb hby d6_38) ?_
          show Steps p.tables e below (T7.setTop (mkF m 39 #[.val (.ref a0t), .val (.int p0)] [(.int (0 : Int32)), (.ref a0t)])) _
          refine st10 _ ?_
          show Steps p.tables e below (T10.setTop (mkF m 42 #[.val (.ref a0t), .val (.int p0)] [])) _
          exact X10.returnOut hx Bd.returns (hb hby d6_42) hr
        · show Q6 Z a0t p0 w_quote w_inSelector w_escaping h0 n0 _ T10.heap _
          rw [e10]
          exact ⟨rfl, N10, K10, E_a0t_10, by rw [show f6_quote p0 w_quote w_inSelector w_escaping = (0 : Int32) from by unfold f6_quote; rw [if_pos hc3, if_neg hc5, if_pos hc9]]; exact F_quote_a0t_10, F_inSelector_a0t_10, by rw [show f6_escaping p0 w_quote w_inSelector w_escaping = w_escaping from by unfold f6_escaping; rw [if_pos hc3, if_neg hc5, if_pos hc9]]; exact F_escaping_a0t_10⟩
      · obtain ⟨fs, hr, hrun, hended, hW, hsame⟩ := X7.leave (v := none) (fun _ => rfl)
        refine ⟨_, _, pre8 _ ?_, hrun, hended, _, _, rfl, ?_, ⟨_, rfl⟩, hW, hsame.mono (by decide) (by decide)⟩
        · show Steps p.tables e below (T7.setTop (mkF m 34 #[.val (.ref a0t), .val (.int p0)] [(.int w_quote), (.int p0)])) _
          refine XS.icmpYes X7.here hx rfl (pc0 := 34) (pc' := 42) rfl (hb hby d6_34) rfl (feq hc9).2 (by decide) (by decide) ?_
          show Steps p.tables e below (T7.setTop (mkF m 42 #[.val (.ref a0t), .val (.int p0)] [])) _
          exact X7.returnOut hx Bd.returns (hb hby d6_42) hr
        · show Q6 Z a0t p0 w_quote w_inSelector w_escaping h0 n0 _ T7.heap _
          rw [e7]
          exact ⟨rfl, N0, K0, E_this, by rw [show f6_quote p0 w_quote w_inSelector w_escaping = w_quote from by unfold f6_quote; rw [if_pos hc3, if_neg hc5, if_neg hc9]]; exact F_quote, F_inSelector, by rw [show f6_escaping p0 w_quote w_inSelector w_escaping = w_escaping from by unfold f6_escaping; rw [if_pos hc3, if_neg hc5, if_neg hc9]]; exact F_escaping⟩
  · obtain ⟨T11, h11, X11, e11, W11, st11⟩ := putFN X1 hx hZ hown (hw _ (List.mem_of_getElem? (i := 32) rfl)) Via.refl e1 F_escaping E_this (Or.inl (hw _ (List.mem_of_getElem? (i := 33) rfl))) (hw _ (List.mem_of_getElem? (i := 2) rfl)) (ty := .boolean) (v' := (.int (0 : Int32))) (by decide) rfl (by decide) (g := (mkF m 9 #[.val (.ref a0t), .val (.int p0)] [(.int (0 : Int32)), (.ref a0t)])) rfl rfl (hb hby d6_9)
    have F_quote_a0t_11 := F_quote.other W11 (Or.inr (slot_ne (Or.inl (hw _ (List.mem_of_getElem? (i := 11) rfl))) (Or.inl (hw _ (List.mem_of_getElem? (i := 33) rfl))) (by decide) (t := .char) (t' := .boolean) (by decide) (by decide)))
    have F_inSelector_a0t_11 := F_inSelector.other W11 (Or.inr (slot_ne (Or.inl (hw _ (List.mem_of_getElem? (i := 18) rfl))) (Or.inl (hw _ (List.mem_of_getElem? (i := 33) rfl))) (by decide) (t := .boolean) (t' := .boolean) (by decide) (by decide)))
    have F_escaping_a0t_11 := F_escaping.same W11
    have E_a0t_11 := E_this.wr W11
    have N11 := Fr.snoc X11 N0 g_this
    have Zz11 := Nat.le_trans Z0 (Keep.of_wr W11).1
    have K11 : Keep h0 h11 [a0t] := K0.wr W11 (Or.inl (by simp))
    obtain ⟨fs, hr, hrun, hended, hW, hsame⟩ := X11.leave (v := none) (fun _ => rfl)
    refine ⟨_, _, pre2 _ ?_, hrun, hended, _, _, rfl, ?_, ⟨_, rfl⟩, hW, hsame.mono (by decide) (by decide)⟩
    · show Steps p.tables e below (T1.setTop (mkF m 4 #[.val (.ref a0t), .val (.int p0)] [(.int w_escaping)])) _
      refine XS.ifNo X1.here hx rfl (hb hby d6_4) rfl ((if0 _ _).trans (feq hc3).1) ?_
      show Steps p.tables e below (T1.setTop (mkF m 7 #[.val (.ref a0t), .val (.int p0)] [])) _
      refine XS.aloadN X1.here hx rfl (hb hby d6_7) rfl rfl ?_
      show Steps p.tables e below (T1.setTop (mkF m 8 #[.val (.ref a0t), .val (.int p0)] [(.ref a0t)])) _
      refine XS.iconst X1.here hx rfl (hb hby d6_8) ?_
      show Steps p.tables e below (T1.setTop (mkF m 9 #[.val (.ref a0t), .val (.int p0)] [(.int (0 : Int32)), (.ref a0t)])) _
      refine st11 _ ?_
      show Steps p.tables e below (T11.setTop (mkF m 12 #[.val (.ref a0t), .val (.int p0)] [])) _
      refine XS.goto X11.here hx rfl (pc0 := 12) (pc' := 42) rfl (hb hby d6_12) (by decide) (by decide) ?_
      show Steps p.tables e below (T11.setTop (mkF m 42 #[.val (.ref a0t), .val (.int p0)] [])) _
      exact X11.returnOut hx Bd.returns (hb hby d6_42) hr
    · show Q6 Z a0t p0 w_quote w_inSelector w_escaping h0 n0 _ T11.heap _
      rw [e11]
      exact ⟨rfl, N11, K11, E_a0t_11, by rw [show f6_quote p0 w_quote w_inSelector w_escaping = w_quote from by unfold f6_quote; rw [if_neg hc3]]; exact F_quote_a0t_11, F_inSelector_a0t_11, by rw [show f6_escaping p0 w_quote w_inSelector w_escaping = (0 : Int32) from by unfold f6_escaping; rw [if_neg hc3]]; exact F_escaping_a0t_11⟩
theorem pd_0 : parseMethodDescriptor "(C)Z" = some ⟨[.char], some .boolean⟩ := by decide +kernel
theorem pd_1 : parseMethodDescriptor "(C)V" = some ⟨[.char], none⟩ := by decide +kernel
theorem own_sel {s : State} {args : Array Value} {y y' : MethodName} (hc : y.cls = y'.cls) (h : NotFace s y') (hi' : (Jvm.Cond.instanceMethod y').before args s = true) (hp : s.PrivateAt y) (hi : (Jvm.Cond.instanceMethod y).before args s = true) (hy : y.cls ≠ "java/lang/invoke/MethodHandle" ∧ y.cls ≠ "java/lang/invoke/VarHandle") : (Jvm.Cond.selects y.cls y y).before args s = true := by
  obtain ⟨mk, methM, hnamed, -⟩ := Cond.instanceMethod_spec hi'
  obtain ⟨k, hk, hki⟩ := h mk hnamed
  exact selects_self_of_private (by rw [hc]; exact findClass_of_methodNamed hnamed) hk hki hp hi hy
theorem d3_0 : decode prog_39_method_2_code 0 = .ok (.aload_n 0, 1) := by decide +kernel
theorem d3_1 : decode prog_39_method_2_code 1 = .ok (.getfield 11, 3) := by decide +kernel
theorem d3_4 : decode prog_39_method_2_code 4 = .ok (.ifCond .eq 11, 3) := by decide +kernel
theorem d3_7 : decode prog_39_method_2_code 7 = .ok (.aload_n 0, 1) := by decide +kernel
theorem d3_8 : decode prog_39_method_2_code 8 = .ok (.iload_n 1, 1) := by decide +kernel
theorem d3_9 : decode prog_39_method_2_code 9 = .ok (.invokevirtual 15, 3) := by decide +kernel
theorem d3_12 : decode prog_39_method_2_code 12 = .ok (.goto 54, 3) := by decide +kernel
theorem d3_15 : decode prog_39_method_2_code 15 = .ok (.aload_n 0, 1) := by decide +kernel
theorem d3_16 : decode prog_39_method_2_code 16 = .ok (.getfield 19, 3) := by decide +kernel
theorem d3_19 : decode prog_39_method_2_code 19 = .ok (.ifCond .ne 21, 3) := by decide +kernel
theorem d3_22 : decode prog_39_method_2_code 22 = .ok (.aload_n 0, 1) := by decide +kernel
theorem d3_23 : decode prog_39_method_2_code 23 = .ok (.iload_n 1, 1) := by decide +kernel
theorem d3_24 : decode prog_39_method_2_code 24 = .ok (.bipush 91, 2) := by decide +kernel
theorem d3_26 : decode prog_39_method_2_code 26 = .ok (.if_icmp .ne 7, 3) := by decide +kernel
theorem d3_29 : decode prog_39_method_2_code 29 = .ok (.iconst 1, 1) := by decide +kernel
theorem d3_30 : decode prog_39_method_2_code 30 = .ok (.goto 4, 3) := by decide +kernel
theorem d3_33 : decode prog_39_method_2_code 33 = .ok (.iconst 0, 1) := by decide +kernel
theorem d3_34 : decode prog_39_method_2_code 34 = .ok (.putfield 19, 3) := by decide +kernel
theorem d3_37 : decode prog_39_method_2_code 37 = .ok (.goto 29, 3) := by decide +kernel
theorem d3_40 : decode prog_39_method_2_code 40 = .ok (.iload_n 1, 1) := by decide +kernel
theorem d3_41 : decode prog_39_method_2_code 41 = .ok (.invokestatic 23, 3) := by decide +kernel
theorem d3_44 : decode prog_39_method_2_code 44 = .ok (.ifCond .eq 11, 3) := by decide +kernel
theorem d3_47 : decode prog_39_method_2_code 47 = .ok (.aload_n 0, 1) := by decide +kernel
theorem d3_48 : decode prog_39_method_2_code 48 = .ok (.iload_n 1, 1) := by decide +kernel
theorem d3_49 : decode prog_39_method_2_code 49 = .ok (.putfield 11, 3) := by decide +kernel
theorem d3_52 : decode prog_39_method_2_code 52 = .ok (.goto 14, 3) := by decide +kernel
theorem d3_55 : decode prog_39_method_2_code 55 = .ok (.iload_n 1, 1) := by decide +kernel
theorem d3_56 : decode prog_39_method_2_code 56 = .ok (.bipush 93, 2) := by decide +kernel
theorem d3_58 : decode prog_39_method_2_code 58 = .ok (.if_icmp .ne 8, 3) := by decide +kernel
theorem d3_61 : decode prog_39_method_2_code 61 = .ok (.aload_n 0, 1) := by decide +kernel
theorem d3_62 : decode prog_39_method_2_code 62 = .ok (.iconst 0, 1) := by decide +kernel
theorem d3_63 : decode prog_39_method_2_code 63 = .ok (.putfield 19, 3) := by decide +kernel
theorem d3_66 : decode prog_39_method_2_code 66 = .ok (.return_, 1) := by decide +kernel
theorem ef_3 (m : MethodId) (x0 : Addr) (x1 : Int32) : entryFrame m #[(.ref x0), (.int x1)] 2 = mkF m 0 #[.val (.ref x0), .val (.int x1)] [] := by first | (simp [entryFrame, mkF, argsToLocals, Value.category]; done) | rfl
def f3_s0_34001 (p0 : Int32) : Int32 := (if p0 = (91 : Int32) then (1 : Int32) else (0 : Int32))
def f3_quote (p0 : Int32) (w_quote : Int32) (w_inSelector : Int32) (w_escaping : Int32) : Int32 := (if w_quote = (0 : Int32) then (if w_inSelector = (0 : Int32) then w_quote else (if (f5 p0) = (0 : Int32) then (if p0 = (93 : Int32) then w_quote else w_quote) else (p0.toUInt32.toUInt16.toUInt32.toInt32))) else (f6_quote p0 w_quote w_inSelector w_escaping))
def f3_inSelector (p0 : Int32) (w_quote : Int32) (w_inSelector : Int32) (w_escaping : Int32) : Int32 := (if w_quote = (0 : Int32) then (if w_inSelector = (0 : Int32) then ((f3_s0_34001 p0) &&& 1) else (if (f5 p0) = (0 : Int32) then (if p0 = (93 : Int32) then (0 : Int32) else w_inSelector) else w_inSelector)) else w_inSelector)
def f3_escaping (p0 : Int32) (w_quote : Int32) (w_inSelector : Int32) (w_escaping : Int32) : Int32 := (if w_quote = (0 : Int32) then (if w_inSelector = (0 : Int32) then w_escaping else (if (f5 p0) = (0 : Int32) then (if p0 = (93 : Int32) then w_escaping else w_escaping) else w_escaping)) else (f6_escaping p0 w_quote w_inSelector w_escaping))
def Q3 (Z : State) (a0t : Addr) (p0 : Int32) (w_quote : Int32) (w_inSelector : Int32) (w_escaping : Int32) (h0 : Heap) (n0 : Nat) (v : Option Value) (h : Heap) (L : List Loc) : Prop := v = none ∧ Fr n0 L ∧ Keep h0 h [a0t] ∧ Exa Z h a0t "com/example/libinterp/libinterp/PathParser$SelectorScan" ∧ Fld Z h a0t "com/example/libinterp/libinterp/PathParser$SelectorScan" "quote" "C" (.int (f3_quote p0 w_quote w_inSelector w_escaping)) ∧ Fld Z h a0t "com/example/libinterp/libinterp/PathParser$SelectorScan" "inSelector" "Z" (.int (f3_inSelector p0 w_quote w_inSelector w_escaping)) ∧ Fld Z h a0t "com/example/libinterp/libinterp/PathParser$SelectorScan" "escaping" "Z" (.int (f3_escaping p0 w_quote w_inSelector w_escaping))
set_option maxRecDepth 65536 in
set_option maxHeartbeats 40000000 in
theorem rm3 (l : Launch) (Z : State) (a0 : Array Value) (hw : ∀ d ∈ tables_1, d.before a0 Z = true) (ws : List Jvm.Cond) (a0t : Addr) (p0 : Int32) (w_quote : Int32) (w_inSelector : Int32) (w_escaping : Int32) (h0 : Heap) (n0 : Nat) (Z0 : n0 ≤ h0.size) (E_this : Exa Z h0 a0t "com/example/libinterp/libinterp/PathParser$SelectorScan") (g_this : n0 ≤ a0t) (F_quote : Fld Z h0 a0t "com/example/libinterp/libinterp/PathParser$SelectorScan" "quote" "C" (.int w_quote)) (F_inSelector : Fld Z h0 a0t "com/example/libinterp/libinterp/PathParser$SelectorScan" "inSelector" "Z" (.int w_inSelector)) (F_escaping : Fld Z h0 a0t "com/example/libinterp/libinterp/PathParser$SelectorScan" "escaping" "Z" (.int w_escaping)) :
    MetFree l (⟨"com/example/libinterp/libinterp/PathParser$SelectorScan", "read", "(C)V"⟩ : MethodName) (head1 (Jvm.Cond.code (⟨"com/example/libinterp/libinterp/PathParser$SelectorScan", "read", "(C)V"⟩ : MethodName) prog_39_method_2_code 2 none :: ws) ({ frames := 1, cells := 0, slots := 0, locals := 13 } : Room)) (fun a U => a = #[(.ref a0t), (.int p0)] ∧ Z.Warmed39 U.vm ∧ U.heap = h0) (fun _ _ _ _ _ => True) (fun _ U o U' => ∃ v L, o = .returned v ∧ Q3 Z a0t p0 w_quote w_inSelector w_escaping h0 n0 v U'.heap L ∧ FrameEnd U o U' L ({ frames := 1, cells := 0, slots := 0, locals := 13 } : Room).cells ({ frames := 1, cells := 0, slots := 0, locals := 13 } : Room).slots) := by
  refine MetFree.of_bodySF (plainFor_of_name pn_0) hisR ?_
  intro p e s m args below meth c s₁ Bd hml0 hP hK
  obtain ⟨rfl, hZ, hh⟩ := hP
  have hx := Bd.exec
  have hby := Bd.bytes
  have hml : c.maxLocals = 2 := hml0
  have hown : s.vm.findClass "com/example/libinterp/libinterp/PathParser$SelectorScan" = some m.cls := findClass_of_methodNamed Bd.named
  have hnm := (name_of_methodNamed Bd.named Bd.method).1
  have X0 : Stand p l e ({ frames := 1, cells := 0, slots := 0, locals := 13 } : Room) s m #[(.ref a0t), (.int p0)] below meth c s₁ [] 0 0 := Stand.of_body Bd
  have e0 : s₁.heap = h0 := by rw [← hh, Bd.state]; rfl
  have N0 := Fr.nil n0
  have K0 := Keep.refl h0 [a0t]
  have pre0 : ∀ t, Steps p.tables e below (s₁.setTop (mkF m 0 #[.val (.ref a0t), .val (.int p0)] [])) t → Steps p.tables e below (s₁.setTop (entryFrame m #[(.ref a0t), (.int p0)] 2)) t := fun t k => castTop (ef_3 m a0t p0) k
  obtain ⟨T1, X1, e1, st1⟩ := getF X0 hx hZ hown (host := "") (Or.inl (hw _ (List.mem_of_getElem? (i := 10) rfl))) Via.refl e0 F_quote (g := (mkF m 1 #[.val (.ref a0t), .val (.int p0)] [(.ref a0t)])) rfl rfl (hb hby d3_1)
  have pre2 : ∀ t, Steps p.tables e below (T1.setTop (mkF m 4 #[.val (.ref a0t), .val (.int p0)] [(.int w_quote)])) t → Steps p.tables e below (s₁.setTop (entryFrame m #[(.ref a0t), (.int p0)] 2)) t := fun t kt => pre0 t (by
    show Steps p.tables e below (s₁.setTop (mkF m 0 #[.val (.ref a0t), .val (.int p0)] [])) _
    refine XS.aloadN X0.here hx rfl (hb hby d3_0) rfl rfl ?_
    show Steps p.tables e below (s₁.setTop (mkF m 1 #[.val (.ref a0t), .val (.int p0)] [(.ref a0t)])) _
    refine st1 _ ?_
    exact kt)
  by_cases hc3 : w_quote = (0 : Int32)
  · obtain ⟨T4, X4, e4, st4⟩ := getF X1 hx hZ hown (host := "") (Or.inl (hw _ (List.mem_of_getElem? (i := 17) rfl))) Via.refl e1 F_inSelector (g := (mkF m 16 #[.val (.ref a0t), .val (.int p0)] [(.ref a0t)])) rfl rfl (hb hby d3_16)
    have pre5 : ∀ t, Steps p.tables e below (T4.setTop (mkF m 19 #[.val (.ref a0t), .val (.int p0)] [(.int w_inSelector)])) t → Steps p.tables e below (s₁.setTop (entryFrame m #[(.ref a0t), (.int p0)] 2)) t := fun t kt => pre2 t (by
      show Steps p.tables e below (T1.setTop (mkF m 4 #[.val (.ref a0t), .val (.int p0)] [(.int w_quote)])) _
      refine XS.ifYes X1.here hx rfl (pc0 := 4) (pc' := 15) rfl (hb hby d3_4) rfl ((if0 _ _).trans (teq hc3).1) (by decide) (by decide) ?_
      show Steps p.tables e below (T1.setTop (mkF m 15 #[.val (.ref a0t), .val (.int p0)] [])) _
      refine XS.aloadN X1.here hx rfl (hb hby d3_15) rfl rfl ?_
      show Steps p.tables e below (T1.setTop (mkF m 16 #[.val (.ref a0t), .val (.int p0)] [(.ref a0t)])) _
      refine st4 _ ?_
      exact kt)
    by_cases hc6 : w_inSelector = (0 : Int32)
    · have pre7 : ∀ t, Steps p.tables e below (T4.setTop (mkF m 26 #[.val (.ref a0t), .val (.int p0)] [(.int (91 : Int32)), (.int p0), (.ref a0t)])) t → Steps p.tables e below (s₁.setTop (entryFrame m #[(.ref a0t), (.int p0)] 2)) t := fun t kt => pre5 t (by
        show Steps p.tables e below (T4.setTop (mkF m 19 #[.val (.ref a0t), .val (.int p0)] [(.int w_inSelector)])) _
        refine XS.ifNo X4.here hx rfl (hb hby d3_19) rfl ((if0 _ _).trans (teq hc6).2) ?_
        show Steps p.tables e below (T4.setTop (mkF m 22 #[.val (.ref a0t), .val (.int p0)] [])) _
        refine XS.aloadN X4.here hx rfl (hb hby d3_22) rfl rfl ?_
        show Steps p.tables e below (T4.setTop (mkF m 23 #[.val (.ref a0t), .val (.int p0)] [(.ref a0t)])) _
        refine XS.iloadN X4.here hx rfl (hb hby d3_23) rfl ?_
        show Steps p.tables e below (T4.setTop (mkF m 24 #[.val (.ref a0t), .val (.int p0)] [(.int p0), (.ref a0t)])) _
        refine XS.bipush X4.here hx rfl (hb hby d3_24) ?_
        exact kt)
      have pre9 : ∀ t, Steps p.tables e below (T4.setTop (mkF m 34 #[.val (.ref a0t), .val (.int p0)] [(.int (f3_s0_34001 p0)), (.ref a0t)])) t → Steps p.tables e below (s₁.setTop (entryFrame m #[(.ref a0t), (.int p0)] 2)) t := by
        intro t kt
        by_cases hc8 : p0 = (91 : Int32)
        · have hj : (f3_s0_34001 p0) = (1 : Int32) := by unfold f3_s0_34001; rw [if_pos hc8]
          rw [hj] at kt
          refine pre7 t ?_
          show Steps p.tables e below (T4.setTop (mkF m 26 #[.val (.ref a0t), .val (.int p0)] [(.int (91 : Int32)), (.int p0), (.ref a0t)])) _
          refine XS.icmpNo X4.here hx rfl (hb hby d3_26) rfl (teq hc8).2 ?_
          show Steps p.tables e below (T4.setTop (mkF m 29 #[.val (.ref a0t), .val (.int p0)] [(.ref a0t)])) _
          refine XS.iconst X4.here hx rfl (hb hby d3_29) ?_
          show Steps p.tables e below (T4.setTop (mkF m 30 #[.val (.ref a0t), .val (.int p0)] [(.int (1 : Int32)), (.ref a0t)])) _
          refine XS.goto X4.here hx rfl (pc0 := 30) (pc' := 34) rfl (hb hby d3_30) (by decide) (by decide) ?_
          exact kt
        · have hj : (f3_s0_34001 p0) = (0 : Int32) := by unfold f3_s0_34001; rw [if_neg hc8]
          rw [hj] at kt
          refine pre7 t ?_
          show Steps p.tables e below (T4.setTop (mkF m 26 #[.val (.ref a0t), .val (.int p0)] [(.int (91 : Int32)), (.int p0), (.ref a0t)])) _
          refine XS.icmpYes X4.here hx rfl (pc0 := 26) (pc' := 33) rfl (hb hby d3_26) rfl (feq hc8).2 (by decide) (by decide) ?_
          show Steps p.tables e below (T4.setTop (mkF m 33 #[.val (.ref a0t), .val (.int p0)] [(.ref a0t)])) _
          refine XS.iconst X4.here hx rfl (hb hby d3_33) ?_
          exact kt
      obtain ⟨T10, h10, X10, e10, W10, st10⟩ := putFN X4 hx hZ hown (hw _ (List.mem_of_getElem? (i := 17) rfl)) Via.refl e4 F_inSelector E_this (Or.inl (hw _ (List.mem_of_getElem? (i := 18) rfl))) (hw _ (List.mem_of_getElem? (i := 2) rfl)) (ty := .boolean) (v' := (.int ((f3_s0_34001 p0) &&& 1))) (by decide) rfl (fits_nar_bool _) (g := (mkF m 34 #[.val (.ref a0t), .val (.int p0)] [(.int (f3_s0_34001 p0)), (.ref a0t)])) rfl rfl (hb hby d3_34)
      have F_quote_a0t_10 := F_quote.other W10 (Or.inr (slot_ne (Or.inl (hw _ (List.mem_of_getElem? (i := 11) rfl))) (Or.inl (hw _ (List.mem_of_getElem? (i := 18) rfl))) (by decide) (t := .char) (t' := .boolean) (by decide) (by decide)))
      have F_inSelector_a0t_10 := F_inSelector.same W10
      have F_escaping_a0t_10 := F_escaping.other W10 (Or.inr (slot_ne (Or.inl (hw _ (List.mem_of_getElem? (i := 33) rfl))) (Or.inl (hw _ (List.mem_of_getElem? (i := 18) rfl))) (by decide) (t := .boolean) (t' := .boolean) (by decide) (by decide)))
      have E_a0t_10 := E_this.wr W10
      have N10 := Fr.snoc X10 N0 g_this
      have Zz10 := Nat.le_trans Z0 (Keep.of_wr W10).1
      have K10 : Keep h0 h10 [a0t] := K0.wr W10 (Or.inl (by simp))
      obtain ⟨fs, hr, hrun, hended, hW, hsame⟩ := X10.leave (v := none) (fun _ => rfl)
      refine ⟨_, _, pre9 _ ?_, hrun, hended, _, _, rfl, ?_, ⟨_, rfl⟩, hW, hsame.mono (by decide) (by decide)⟩
      · show Steps p.tables e below (T4.setTop (mkF m 34 #[.val (.ref a0t), .val (.int p0)] [(.int (f3_s0_34001 p0)), (.ref a0t)])) _
        refine st10 _ ?_
        show Steps p.tables e below (T10.setTop (mkF m 37 #[.val (.ref a0t), .val (.int p0)] [])) _
        refine XS.goto X10.here hx rfl (pc0 := 37) (pc' := 66) rfl (hb hby d3_37) (by decide) (by decide) ?_
        show Steps p.tables e below (T10.setTop (mkF m 66 #[.val (.ref a0t), .val (.int p0)] [])) _
        exact X10.returnOut hx Bd.returns (hb hby d3_66) hr
      · show Q3 Z a0t p0 w_quote w_inSelector w_escaping h0 n0 _ T10.heap _
        rw [e10]
        exact ⟨rfl, N10, K10, E_a0t_10, by rw [show f3_quote p0 w_quote w_inSelector w_escaping = w_quote from by unfold f3_quote; rw [if_pos hc3, if_pos hc6]]; exact F_quote_a0t_10, by rw [show f3_inSelector p0 w_quote w_inSelector w_escaping = ((f3_s0_34001 p0) &&& 1) from by unfold f3_inSelector; rw [if_pos hc3, if_pos hc6]]; exact F_inSelector_a0t_10, by rw [show f3_escaping p0 w_quote w_inSelector w_escaping = w_escaping from by unfold f3_escaping; rw [if_pos hc3, if_pos hc6]]; exact F_escaping_a0t_10⟩
    · obtain ⟨_, _, ⟨T11, L11, k11, n11⟩, -, X11, ⟨Lc11, hQ11, l11, y11, z11⟩, st11⟩ := Jvm.LawKit.callS X4 hx (y := (⟨"com/example/libinterp/libinterp/PathParser", "isQuote", "(C)Z"⟩ : MethodName)) hown (mvT hZ (hw _ (List.mem_of_getElem? (i := 24) rfl))) (mvT hZ (hw _ (List.mem_of_getElem? (i := 25) rfl))) (mvT hZ (hw _ (List.mem_of_getElem? (i := 26) rfl))) (mvT hZ (hw _ (List.mem_of_getElem? (i := 27) rfl))) (by decide) (backOf (W := 0) (rm5 l Z a0 hw [] p0 h0 n0 Z0) hZ (hw _ (List.mem_of_getElem? (i := 27) rfl)) (hw _ (List.mem_of_getElem? (i := 26) rfl)) (by decide) (by decide)) (g := (mkF m 41 #[.val (.ref a0t), .val (.int p0)] [(.int p0)])) rfl (by rw [hml]; rfl) (argsL := [(.int p0)]) (rest := []) (lenOf pd_0 rfl) rfl (by show 2 * 0 + _ ≤ _; exact Nat.le_of_eq rfl) (hb hby d3_41) (fun _ _ => ⟨rfl, e4, (by decide : 0 + 0 ≤ _), (by decide : 0 + 0 ≤ _)⟩)
      dsimp only [Pt.U, Pt.locs, Pt.cells, Pt.slots] at X11 l11 y11 z11 st11 hQ11
      subst l11 y11 z11
      obtain ⟨rfl, N11q, e11⟩ := hQ11
      have N11 := Fr.app N0 N11q
      have pre12 : ∀ t, Steps p.tables e below (T11.setTop (mkF m 44 #[.val (.ref a0t), .val (.int p0)] [(.int (f5 p0))])) t → Steps p.tables e below (s₁.setTop (entryFrame m #[(.ref a0t), (.int p0)] 2)) t := fun t kt => pre5 t (by
        show Steps p.tables e below (T4.setTop (mkF m 19 #[.val (.ref a0t), .val (.int p0)] [(.int w_inSelector)])) _
        refine XS.ifYes X4.here hx rfl (pc0 := 19) (pc' := 40) rfl (hb hby d3_19) rfl ((if0 _ _).trans (feq hc6).2) (by decide) (by decide) ?_
        show Steps p.tables e below (T4.setTop (mkF m 40 #[.val (.ref a0t), .val (.int p0)] [])) _
        refine XS.iloadN X4.here hx rfl (hb hby d3_40) rfl ?_
        show Steps p.tables e below (T4.setTop (mkF m 41 #[.val (.ref a0t), .val (.int p0)] [(.int p0)])) _
        refine st11 _ ?_
        exact kt)
      by_cases hc13 : (f5 p0) = (0 : Int32)
      · have pre14 : ∀ t, Steps p.tables e below (T11.setTop (mkF m 58 #[.val (.ref a0t), .val (.int p0)] [(.int (93 : Int32)), (.int p0)])) t → Steps p.tables e below (s₁.setTop (entryFrame m #[(.ref a0t), (.int p0)] 2)) t := fun t kt => pre12 t (by
          show Steps p.tables e below (T11.setTop (mkF m 44 #[.val (.ref a0t), .val (.int p0)] [(.int (f5 p0))])) _
          refine XS.ifYes X11.here hx rfl (pc0 := 44) (pc' := 55) rfl (hb hby d3_44) rfl ((if0 _ _).trans (teq hc13).1) (by decide) (by decide) ?_
          show Steps p.tables e below (T11.setTop (mkF m 55 #[.val (.ref a0t), .val (.int p0)] [])) _
          refine XS.iloadN X11.here hx rfl (hb hby d3_55) rfl ?_
          show Steps p.tables e below (T11.setTop (mkF m 56 #[.val (.ref a0t), .val (.int p0)] [(.int p0)])) _
          refine XS.bipush X11.here hx rfl (hb hby d3_56) ?_
          exact kt)
        by_cases hc15 : p0 = (93 : Int32)
        · obtain ⟨T16, h16, X16, e16, W16, st16⟩ := putFN X11 hx hZ hown (hw _ (List.mem_of_getElem? (i := 17) rfl)) Via.refl e11 F_inSelector E_this (Or.inl (hw _ (List.mem_of_getElem? (i := 18) rfl))) (hw _ (List.mem_of_getElem? (i := 2) rfl)) (ty := .boolean) (v' := (.int (0 : Int32))) (by decide) rfl (by decide) (g := (mkF m 63 #[.val (.ref a0t), .val (.int p0)] [(.int (0 : Int32)), (.ref a0t)])) rfl rfl (hb hby d3_63)
          have F_quote_a0t_16 := F_quote.other W16 (Or.inr (slot_ne (Or.inl (hw _ (List.mem_of_getElem? (i := 11) rfl))) (Or.inl (hw _ (List.mem_of_getElem? (i := 18) rfl))) (by decide) (t := .char) (t' := .boolean) (by decide) (by decide)))
          have F_inSelector_a0t_16 := F_inSelector.same W16
          have F_escaping_a0t_16 := F_escaping.other W16 (Or.inr (slot_ne (Or.inl (hw _ (List.mem_of_getElem? (i := 33) rfl))) (Or.inl (hw _ (List.mem_of_getElem? (i := 18) rfl))) (by decide) (t := .boolean) (t' := .boolean) (by decide) (by decide)))
          have E_a0t_16 := E_this.wr W16
          have N16 := Fr.snoc X16 N11 g_this
          have Zz16 := Nat.le_trans Z0 (Keep.of_wr W16).1
          have K16 : Keep h0 h16 [a0t] := K0.wr W16 (Or.inl (by simp))
          obtain ⟨fs, hr, hrun, hended, hW, hsame⟩ := X16.leave (v := none) (fun _ => rfl)
          refine ⟨_, _, pre14 _ ?_, hrun, hended, _, _, rfl, ?_, ⟨_, rfl⟩, hW, hsame.mono (by decide) (by decide)⟩
          · show Steps p.tables e below (T11.setTop (mkF m 58 #[.val (.ref a0t), .val (.int p0)] [(.int (93 : Int32)), (.int p0)])) _
            refine XS.icmpNo X11.here hx rfl (hb hby d3_58) rfl (teq hc15).2 ?_
            show Steps p.tables e below (T11.setTop (mkF m 61 #[.val (.ref a0t), .val (.int p0)] [])) _
            refine XS.aloadN X11.here hx rfl (hb hby d3_61) rfl rfl ?_
            show Steps p.tables e below (T11.setTop (mkF m 62 #[.val (.ref a0t), .val (.int p0)] [(.ref a0t)])) _
            refine XS.iconst X11.here hx rfl (hb hby d3_62) ?_
            show Steps p.tables e below (T11.setTop (mkF m 63 #[.val (.ref a0t), .val (.int p0)] [(.int (0 : Int32)), (.ref a0t)])) _
            refine st16 _ ?_
            show Steps p.tables e below (T16.setTop (mkF m 66 #[.val (.ref a0t), .val (.int p0)] [])) _
            exact X16.returnOut hx Bd.returns (hb hby d3_66) hr
          · show Q3 Z a0t p0 w_quote w_inSelector w_escaping h0 n0 _ T16.heap _
            rw [e16]
            exact ⟨rfl, N16, K16, E_a0t_16, by rw [show f3_quote p0 w_quote w_inSelector w_escaping = w_quote from by unfold f3_quote; rw [if_pos hc3, if_neg hc6, if_pos hc13, if_pos hc15]]; exact F_quote_a0t_16, by rw [show f3_inSelector p0 w_quote w_inSelector w_escaping = (0 : Int32) from by unfold f3_inSelector; rw [if_pos hc3, if_neg hc6, if_pos hc13, if_pos hc15]]; exact F_inSelector_a0t_16, by rw [show f3_escaping p0 w_quote w_inSelector w_escaping = w_escaping from by unfold f3_escaping; rw [if_pos hc3, if_neg hc6, if_pos hc13, if_pos hc15]]; exact F_escaping_a0t_16⟩
        · obtain ⟨fs, hr, hrun, hended, hW, hsame⟩ := X11.leave (v := none) (fun _ => rfl)
          refine ⟨_, _, pre14 _ ?_, hrun, hended, _, _, rfl, ?_, ⟨_, rfl⟩, hW, hsame.mono (by decide) (by decide)⟩
          · show Steps p.tables e below (T11.setTop (mkF m 58 #[.val (.ref a0t), .val (.int p0)] [(.int (93 : Int32)), (.int p0)])) _
            refine XS.icmpYes X11.here hx rfl (pc0 := 58) (pc' := 66) rfl (hb hby d3_58) rfl (feq hc15).2 (by decide) (by decide) ?_
            show Steps p.tables e below (T11.setTop (mkF m 66 #[.val (.ref a0t), .val (.int p0)] [])) _
            exact X11.returnOut hx Bd.returns (hb hby d3_66) hr
          · show Q3 Z a0t p0 w_quote w_inSelector w_escaping h0 n0 _ T11.heap _
            rw [e11]
            exact ⟨rfl, N11, K0, E_this, by rw [show f3_quote p0 w_quote w_inSelector w_escaping = w_quote from by unfold f3_quote; rw [if_pos hc3, if_neg hc6, if_pos hc13, if_neg hc15]]; exact F_quote, by rw [show f3_inSelector p0 w_quote w_inSelector w_escaping = w_inSelector from by unfold f3_inSelector; rw [if_pos hc3, if_neg hc6, if_pos hc13, if_neg hc15]]; exact F_inSelector, by rw [show f3_escaping p0 w_quote w_inSelector w_escaping = w_escaping from by unfold f3_escaping; rw [if_pos hc3, if_neg hc6, if_pos hc13, if_neg hc15]]; exact F_escaping⟩
      · obtain ⟨T17, h17, X17, e17, W17, st17⟩ := putFN X11 hx hZ hown (hw _ (List.mem_of_getElem? (i := 10) rfl)) Via.refl e11 F_quote E_this (Or.inl (hw _ (List.mem_of_getElem? (i := 11) rfl))) (hw _ (List.mem_of_getElem? (i := 2) rfl)) (ty := .char) (v' := (.int (p0.toUInt32.toUInt16.toUInt32.toInt32))) (by decide) rfl (fits_nar_char _) (g := (mkF m 49 #[.val (.ref a0t), .val (.int p0)] [(.int p0), (.ref a0t)])) rfl rfl (hb hby d3_49)
        have F_quote_a0t_17 := F_quote.same W17
        have F_inSelector_a0t_17 := F_inSelector.other W17 (Or.inr (slot_ne (Or.inl (hw _ (List.mem_of_getElem? (i := 18) rfl))) (Or.inl (hw _ (List.mem_of_getElem? (i := 11) rfl))) (by decide) (t := .boolean) (t' := .char) (by decide) (by decide)))
        have F_escaping_a0t_17 := F_escaping.other W17 (Or.inr (slot_ne (Or.inl (hw _ (List.mem_of_getElem? (i := 33) rfl))) (Or.inl (hw _ (List.mem_of_getElem? (i := 11) rfl))) (by decide) (t := .boolean) (t' := .char) (by decide) (by decide)))
        have E_a0t_17 := E_this.wr W17
        have N17 := Fr.snoc X17 N11 g_this
        have Zz17 := Nat.le_trans Z0 (Keep.of_wr W17).1
        have K17 : Keep h0 h17 [a0t] := K0.wr W17 (Or.inl (by simp))
        obtain ⟨fs, hr, hrun, hended, hW, hsame⟩ := X17.leave (v := none) (fun _ => rfl)
        refine ⟨_, _, pre12 _ ?_, hrun, hended, _, _, rfl, ?_, ⟨_, rfl⟩, hW, hsame.mono (by decide) (by decide)⟩
        · show Steps p.tables e below (T11.setTop (mkF m 44 #[.val (.ref a0t), .val (.int p0)] [(.int (f5 p0))])) _
          refine XS.ifNo X11.here hx rfl (hb hby d3_44) rfl ((if0 _ _).trans (feq hc13).1) ?_
          show Steps p.tables e below (T11.setTop (mkF m 47 #[.val (.ref a0t), .val (.int p0)] [])) _
          refine XS.aloadN X11.here hx rfl (hb hby d3_47) rfl rfl ?_
          show Steps p.tables e below (T11.setTop (mkF m 48 #[.val (.ref a0t), .val (.int p0)] [(.ref a0t)])) _
          refine XS.iloadN X11.here hx rfl (hb hby d3_48) rfl ?_
          show Steps p.tables e below (T11.setTop (mkF m 49 #[.val (.ref a0t), .val (.int p0)] [(.int p0), (.ref a0t)])) _
          refine st17 _ ?_
          show Steps p.tables e below (T17.setTop (mkF m 52 #[.val (.ref a0t), .val (.int p0)] [])) _
          refine XS.goto X17.here hx rfl (pc0 := 52) (pc' := 66) rfl (hb hby d3_52) (by decide) (by decide) ?_
          show Steps p.tables e below (T17.setTop (mkF m 66 #[.val (.ref a0t), .val (.int p0)] [])) _
          exact X17.returnOut hx Bd.returns (hb hby d3_66) hr
        · show Q3 Z a0t p0 w_quote w_inSelector w_escaping h0 n0 _ T17.heap _
          rw [e17]
          exact ⟨rfl, N17, K17, E_a0t_17, by rw [show f3_quote p0 w_quote w_inSelector w_escaping = (p0.toUInt32.toUInt16.toUInt32.toInt32) from by unfold f3_quote; rw [if_pos hc3, if_neg hc6, if_neg hc13]]; exact F_quote_a0t_17, by rw [show f3_inSelector p0 w_quote w_inSelector w_escaping = w_inSelector from by unfold f3_inSelector; rw [if_pos hc3, if_neg hc6, if_neg hc13]]; exact F_inSelector_a0t_17, by rw [show f3_escaping p0 w_quote w_inSelector w_escaping = w_escaping from by unfold f3_escaping; rw [if_pos hc3, if_neg hc6, if_neg hc13]]; exact F_escaping_a0t_17⟩
  · obtain ⟨cq18, q18, q18'⟩ := E_this.cell
    obtain ⟨_, _, ⟨T18, L18, k18, n18⟩, -, X18, ⟨Lc18, hQ18, l18, y18, z18⟩, st18⟩ := X1.privateBack hx (y := (⟨"com/example/libinterp/libinterp/PathParser$SelectorScan", "readQuoted", "(C)V"⟩ : MethodName)) hown (mvT hZ (hw _ (List.mem_of_getElem? (i := 28) rfl))) (mvT hZ (hw _ (List.mem_of_getElem? (i := 29) rfl))) (own_sel (y' := (⟨"com/example/libinterp/libinterp/PathParser$SelectorScan", "read", "(C)V"⟩ : MethodName)) rfl (notFace_of_selects (args := #[]) (mvT hZ (hw _ (List.mem_of_getElem? (i := 15) rfl)))) (mvT hZ (hw _ (List.mem_of_getElem? (i := 14) rfl))) (Cond.privateMethod_at (mvP hZ (hw _ (List.mem_of_getElem? (i := 30) rfl)) (args := #[]))) (mvT hZ (hw _ (List.mem_of_getElem? (i := 29) rfl))) (by decide)) (Cond.privateMethod_at (mvP hZ (hw _ (List.mem_of_getElem? (i := 30) rfl)) (args := #[]))) (mvT hZ (hw _ (List.mem_of_getElem? (i := 31) rfl))) (by decide) (backOf (W := 0) (rm6 l Z a0 hw [] a0t p0 w_quote w_inSelector w_escaping h0 n0 Z0 E_this g_this F_quote F_inSelector F_escaping) hZ (hw _ (List.mem_of_getElem? (i := 31) rfl)) (hw _ (List.mem_of_getElem? (i := 3) rfl)) (by decide) (by decide)) (g := (mkF m 9 #[.val (.ref a0t), .val (.int p0)] [(.int p0), (.ref a0t)])) rfl (by rw [hml]; rfl) (Steps.refl _) (a := a0t) (by rw [e1]; exact q18) q18' (argsL := [(.int p0)]) (rest := []) (lenOf pd_1 rfl) rfl (by show 2 * 0 + _ ≤ _; exact Nat.le_of_eq rfl) (hb hby d3_9) (fun _ _ => ⟨rfl, e1, (by decide : 0 + 0 ≤ _), (by decide : 0 + 0 ≤ _)⟩)
    dsimp only [Pt.U, Pt.locs, Pt.cells, Pt.slots] at X18 l18 y18 z18 st18 hQ18
    subst l18 y18 z18
    obtain ⟨rfl, N18q, K18q, E18q, F18q_quote, F18q_inSelector, F18q_escaping⟩ := hQ18
    have Zz18 := Nat.le_trans Z0 K18q.1
    have K18 : Keep h0 T18.heap [a0t] := K0.trans K18q (allS (Or.inl (by simp)) all0)
    have N18 := Fr.app N0 N18q
    obtain ⟨fs, hr, hrun, hended, hW, hsame⟩ := X18.leave (v := none) (fun _ => rfl)
    refine ⟨_, _, pre2 _ ?_, hrun, hended, _, _, rfl, ?_, ⟨_, rfl⟩, hW, hsame.mono (by decide) (by decide)⟩
    · show Steps p.tables e below (T1.setTop (mkF m 4 #[.val (.ref a0t), .val (.int p0)] [(.int w_quote)])) _
      refine XS.ifNo X1.here hx rfl (hb hby d3_4) rfl ((if0 _ _).trans (feq hc3).1) ?_
      show Steps p.tables e below (T1.setTop (mkF m 7 #[.val (.ref a0t), .val (.int p0)] [])) _
      refine XS.aloadN X1.here hx rfl (hb hby d3_7) rfl rfl ?_
      show Steps p.tables e below (T1.setTop (mkF m 8 #[.val (.ref a0t), .val (.int p0)] [(.ref a0t)])) _
      refine XS.iloadN X1.here hx rfl (hb hby d3_8) rfl ?_
      show Steps p.tables e below (T1.setTop (mkF m 9 #[.val (.ref a0t), .val (.int p0)] [(.int p0), (.ref a0t)])) _
      refine st18.trans ?_
      show Steps p.tables e below (T18.setTop (mkF m 12 #[.val (.ref a0t), .val (.int p0)] [])) _
      refine XS.goto X18.here hx rfl (pc0 := 12) (pc' := 66) rfl (hb hby d3_12) (by decide) (by decide) ?_
      show Steps p.tables e below (T18.setTop (mkF m 66 #[.val (.ref a0t), .val (.int p0)] [])) _
      exact X18.returnOut hx Bd.returns (hb hby d3_66) hr
    · show Q3 Z a0t p0 w_quote w_inSelector w_escaping h0 n0 _ T18.heap _
      exact ⟨rfl, N18, K18, E18q, by rw [show f3_quote p0 w_quote w_inSelector w_escaping = (f6_quote p0 w_quote w_inSelector w_escaping) from by unfold f3_quote; rw [if_neg hc3]]; exact F18q_quote, by rw [show f3_inSelector p0 w_quote w_inSelector w_escaping = w_inSelector from by unfold f3_inSelector; rw [if_neg hc3]]; exact F18q_inSelector, by rw [show f3_escaping p0 w_quote w_inSelector w_escaping = (f6_escaping p0 w_quote w_inSelector w_escaping) from by unfold f3_escaping; rw [if_neg hc3]]; exact F18q_escaping⟩
theorem d4_0 : decode prog_39_method_4_code 0 = .ok (.aload_n 0, 1) := by decide +kernel
theorem d4_1 : decode prog_39_method_4_code 1 = .ok (.getfield 19, 3) := by decide +kernel
theorem d4_4 : decode prog_39_method_4_code 4 = .ok (.ifCond .ne 7, 3) := by decide +kernel
theorem d4_7 : decode prog_39_method_4_code 7 = .ok (.iconst 1, 1) := by decide +kernel
theorem d4_8 : decode prog_39_method_4_code 8 = .ok (.goto 4, 3) := by decide +kernel
theorem d4_11 : decode prog_39_method_4_code 11 = .ok (.iconst 0, 1) := by decide +kernel
theorem d4_12 : decode prog_39_method_4_code 12 = .ok (.ireturn, 1) := by decide +kernel
theorem ef_4 (m : MethodId) (x0 : Addr) : entryFrame m #[(.ref x0)] 1 = mkF m 0 #[.val (.ref x0)] [] := by first | (simp [entryFrame, mkF, argsToLocals, Value.category]; done) | rfl
def f4 (w_quote : Int32) (w_inSelector : Int32) (w_escaping : Int32) : Int32 := (if w_inSelector = (0 : Int32) then (1 : Int32) else (0 : Int32))
def Q4 (Z : State) (a0t : Addr) (w_quote : Int32) (w_inSelector : Int32) (w_escaping : Int32) (h0 : Heap) (n0 : Nat) (v : Option Value) (h : Heap) (L : List Loc) : Prop := v = some (.int (f4 w_quote w_inSelector w_escaping)) ∧ Fr n0 L ∧ h = h0
set_option maxRecDepth 65536 in
set_option maxHeartbeats 40000000 in
theorem rm4 (l : Launch) (Z : State) (a0 : Array Value) (hw : ∀ d ∈ tables_1, d.before a0 Z = true) (ws : List Jvm.Cond) (a0t : Addr) (w_quote : Int32) (w_inSelector : Int32) (w_escaping : Int32) (h0 : Heap) (n0 : Nat) (Z0 : n0 ≤ h0.size) (E_this : Exa Z h0 a0t "com/example/libinterp/libinterp/PathParser$SelectorScan") (g_this : n0 ≤ a0t) (F_quote : Fld Z h0 a0t "com/example/libinterp/libinterp/PathParser$SelectorScan" "quote" "C" (.int w_quote)) (F_inSelector : Fld Z h0 a0t "com/example/libinterp/libinterp/PathParser$SelectorScan" "inSelector" "Z" (.int w_inSelector)) (F_escaping : Fld Z h0 a0t "com/example/libinterp/libinterp/PathParser$SelectorScan" "escaping" "Z" (.int w_escaping)) :
    MetFree l (⟨"com/example/libinterp/libinterp/PathParser$SelectorScan", "isOutside", "()Z"⟩ : MethodName) (head1 (Jvm.Cond.code (⟨"com/example/libinterp/libinterp/PathParser$SelectorScan", "isOutside", "()Z"⟩ : MethodName) prog_39_method_4_code 1 (some .boolean) :: ws) ({ frames := 0, cells := 0, slots := 0, locals := 0 } : Room)) (fun a U => a = #[(.ref a0t)] ∧ Z.Warmed39 U.vm ∧ U.heap = h0) (fun _ _ _ _ _ => True) (fun _ U o U' => ∃ v L, o = .returned v ∧ Q4 Z a0t w_quote w_inSelector w_escaping h0 n0 v U'.heap L ∧ FrameEnd U o U' L ({ frames := 0, cells := 0, slots := 0, locals := 0 } : Room).cells ({ frames := 0, cells := 0, slots := 0, locals := 0 } : Room).slots) := by
  refine MetFree.of_bodySF (plainFor_of_name pn_0) hisR ?_
  intro p e s m args below meth c s₁ Bd hml0 hP hK
  obtain ⟨rfl, hZ, hh⟩ := hP
  have hx := Bd.exec
  have hby := Bd.bytes
  have hml : c.maxLocals = 1 := hml0
  have hown : s.vm.findClass "com/example/libinterp/libinterp/PathParser$SelectorScan" = some m.cls := findClass_of_methodNamed Bd.named
  have hnm := (name_of_methodNamed Bd.named Bd.method).1
  have X0 : Stand p l e ({ frames := 0, cells := 0, slots := 0, locals := 0 } : Room) s m #[(.ref a0t)] below meth c s₁ [] 0 0 := Stand.of_body Bd
  have e0 : s₁.heap = h0 := by rw [← hh, Bd.state]; rfl
  have N0 := Fr.nil n0
  have K0 := Keep.refl h0 [a0t]
  have pre0 : ∀ t, Steps p.tables e below (s₁.setTop (mkF m 0 #[.val (.ref a0t)] [])) t → Steps p.tables e below (s₁.setTop (entryFrame m #[(.ref a0t)] 1)) t := fun t k => castTop (ef_4 m a0t) k
  obtain ⟨T1, X1, e1, st1⟩ := getF X0 hx hZ hown (host := "") (Or.inl (hw _ (List.mem_of_getElem? (i := 17) rfl))) Via.refl e0 F_inSelector (g := (mkF m 1 #[.val (.ref a0t)] [(.ref a0t)])) rfl rfl (hb hby d4_1)
  have pre2 : ∀ t, Steps p.tables e below (T1.setTop (mkF m 4 #[.val (.ref a0t)] [(.int w_inSelector)])) t → Steps p.tables e below (s₁.setTop (entryFrame m #[(.ref a0t)] 1)) t := fun t kt => pre0 t (by
    show Steps p.tables e below (s₁.setTop (mkF m 0 #[.val (.ref a0t)] [])) _
    refine XS.aloadN X0.here hx rfl (hb hby d4_0) rfl rfl ?_
    show Steps p.tables e below (s₁.setTop (mkF m 1 #[.val (.ref a0t)] [(.ref a0t)])) _
    refine st1 _ ?_
    exact kt)
  by_cases hc3 : w_inSelector = (0 : Int32)
  · obtain ⟨fs, hr, hrun, hended, hW, hsame⟩ := X1.leave (v := some (.int (1 : Int32))) (fun h => by rw [Bd.returns] at h; cases h)
    refine ⟨_, _, pre2 _ ?_, hrun, hended, _, _, rfl, ?_, ⟨_, rfl⟩, hW, hsame.mono (by decide) (by decide)⟩
    · show Steps p.tables e below (T1.setTop (mkF m 4 #[.val (.ref a0t)] [(.int w_inSelector)])) _
      refine XS.ifNo X1.here hx rfl (hb hby d4_4) rfl ((if0 _ _).trans (teq hc3).2) ?_
      show Steps p.tables e below (T1.setTop (mkF m 7 #[.val (.ref a0t)] [])) _
      refine XS.iconst X1.here hx rfl (hb hby d4_7) ?_
      show Steps p.tables e below (T1.setTop (mkF m 8 #[.val (.ref a0t)] [(.int (1 : Int32))])) _
      refine XS.goto X1.here hx rfl (pc0 := 8) (pc' := 12) rfl (hb hby d4_8) (by decide) (by decide) ?_
      show Steps p.tables e below (T1.setTop (mkF m 12 #[.val (.ref a0t)] [(.int (1 : Int32))])) _
      exact retN X1 hx (t := .boolean) Bd.returns (by simp) (hb hby d4_12) hr
    · show Q4 Z a0t w_quote w_inSelector w_escaping h0 n0 _ T1.heap _
      rw [e1]
      exact ⟨by rw [show f4 w_quote w_inSelector w_escaping = (1 : Int32) from by unfold f4; rw [if_pos hc3]], N0, rfl⟩
  · obtain ⟨fs, hr, hrun, hended, hW, hsame⟩ := X1.leave (v := some (.int (0 : Int32))) (fun h => by rw [Bd.returns] at h; cases h)
    refine ⟨_, _, pre2 _ ?_, hrun, hended, _, _, rfl, ?_, ⟨_, rfl⟩, hW, hsame.mono (by decide) (by decide)⟩
    · show Steps p.tables e below (T1.setTop (mkF m 4 #[.val (.ref a0t)] [(.int w_inSelector)])) _
      refine XS.ifYes X1.here hx rfl (pc0 := 4) (pc' := 11) rfl (hb hby d4_4) rfl ((if0 _ _).trans (feq hc3).2) (by decide) (by decide) ?_
      show Steps p.tables e below (T1.setTop (mkF m 11 #[.val (.ref a0t)] [])) _
      refine XS.iconst X1.here hx rfl (hb hby d4_11) ?_
      show Steps p.tables e below (T1.setTop (mkF m 12 #[.val (.ref a0t)] [(.int (0 : Int32))])) _
      exact retN X1 hx (t := .boolean) Bd.returns (by simp) (hb hby d4_12) hr
    · show Q4 Z a0t w_quote w_inSelector w_escaping h0 n0 _ T1.heap _
      rw [e1]
      exact ⟨by rw [show f4 w_quote w_inSelector w_escaping = (0 : Int32) from by unfold f4; rw [if_neg hc3]], N0, rfl⟩
theorem pd_2 : parseMethodDescriptor "()V" = some ⟨[], none⟩ := by decide +kernel
theorem pd_3 : parseMethodDescriptor "()Z" = some ⟨[], some .boolean⟩ := by decide +kernel
theorem pn_2 : plainName "com/example/libinterp/libinterp/SelectorScanIsOutsidePinLaw" = true := by first | (simp [plainName, overriddenIn]; done) | decide +kernel
theorem ef_0 (m : MethodId) (x0 : Int32) (x1 : Int32) (x2 : Int32) (x3 : Int32) : entryFrame m #[(.int x0), (.int x1), (.int x2), (.int x3)] maxLocals = mkF m 0 #[.val (.int x0), .val (.int x1), .val (.int x2), .val (.int x3), .unset, .unset, .unset, .unset, .unset, .unset, .unset] [] := by first | (simp [entryFrame, mkF, argsToLocals, Value.category, maxLocals]; done) | rfl
def f0_s0_18001 (p3 : Int32) : Int32 := (if (p3 &&& (1 : Int32)) = (0 : Int32) then (0 : Int32) else (1 : Int32))
def f0_s0_33002 (p3 : Int32) : Int32 := (if (p3 &&& (2 : Int32)) = (0 : Int32) then (34 : Int32) else (39 : Int32))
def f0_e1 (p0 : Int32) : Int32 := (f3_quote ((p0 &&& (65535 : Int32)).toUInt32.toUInt16.toUInt32.toInt32) (f1_quote (0 : Int32) (0 : Int32) (0 : Int32)) (0 : Int32) (0 : Int32))
def f0_e2 (p0 : Int32) : Int32 := (f3_inSelector ((p0 &&& (65535 : Int32)).toUInt32.toUInt16.toUInt32.toInt32) (f1_quote (0 : Int32) (0 : Int32) (0 : Int32)) (0 : Int32) (0 : Int32))
def f0_e3 (p0 : Int32) : Int32 := (f3_escaping ((p0 &&& (65535 : Int32)).toUInt32.toUInt16.toUInt32.toInt32) (f1_quote (0 : Int32) (0 : Int32) (0 : Int32)) (0 : Int32) (0 : Int32))
def f0_s0_68003 (p0 : Int32) : Int32 := (if ((p0 &&& (65535 : Int32)).toUInt32.toUInt16.toUInt32.toInt32) = (91 : Int32) then (0 : Int32) else (1 : Int32))
def f0_s0_76004 (p0 : Int32) : Int32 := (if (f4 (f0_e1 p0) (f0_e2 p0) (f0_e3 p0)) = (f0_s0_68003 p0) then (1 : Int32) else (0 : Int32))
def f0_l9_115005 (p1 : Int32) : Int32 := (if ((p1 &&& (65535 : Int32)).toUInt32.toUInt16.toUInt32.toInt32) = (39 : Int32) then (58 : Int32) else (if ((p1 &&& (65535 : Int32)).toUInt32.toUInt16.toUInt32.toInt32) = (34 : Int32) then (58 : Int32) else ((p1 &&& (65535 : Int32)).toUInt32.toUInt16.toUInt32.toInt32)))
def f0_e4 (p0 : Int32) (p1 : Int32) : Int32 := (f3_quote (f0_l9_115005 p1) (f3_quote (91 : Int32) (f0_e1 p0) (f0_e2 p0) (f0_e3 p0)) (f3_inSelector (91 : Int32) (f0_e1 p0) (f0_e2 p0) (f0_e3 p0)) (f3_escaping (91 : Int32) (f0_e1 p0) (f0_e2 p0) (f0_e3 p0)))
def f0_e5 (p0 : Int32) (p1 : Int32) : Int32 := (f3_inSelector (f0_l9_115005 p1) (f3_quote (91 : Int32) (f0_e1 p0) (f0_e2 p0) (f0_e3 p0)) (f3_inSelector (91 : Int32) (f0_e1 p0) (f0_e2 p0) (f0_e3 p0)) (f3_escaping (91 : Int32) (f0_e1 p0) (f0_e2 p0) (f0_e3 p0)))
def f0_e6 (p0 : Int32) (p1 : Int32) : Int32 := (f3_escaping (f0_l9_115005 p1) (f3_quote (91 : Int32) (f0_e1 p0) (f0_e2 p0) (f0_e3 p0)) (f3_inSelector (91 : Int32) (f0_e1 p0) (f0_e2 p0) (f0_e3 p0)) (f3_escaping (91 : Int32) (f0_e1 p0) (f0_e2 p0) (f0_e3 p0)))
def f0_s0_144006 (p1 : Int32) : Int32 := (if (f0_l9_115005 p1) = (93 : Int32) then (1 : Int32) else (0 : Int32))
def f0_s0_152007 (p0 : Int32) (p1 : Int32) : Int32 := (if (f4 (f0_e4 p0 p1) (f0_e5 p0 p1) (f0_e6 p0 p1)) = (f0_s0_144006 p1) then (1 : Int32) else (0 : Int32))
def f0_s0_152008 (p0 : Int32) (p1 : Int32) : Int32 := (if (f0_s0_76004 p0) = (0 : Int32) then (0 : Int32) else (f0_s0_152007 p0 p1))
def f0_e7 (p0 : Int32) (p1 : Int32) : Int32 := (f4 (f3_quote (93 : Int32) (f0_e4 p0 p1) (f0_e5 p0 p1) (f0_e6 p0 p1)) (f3_inSelector (93 : Int32) (f0_e4 p0 p1) (f0_e5 p0 p1) (f0_e6 p0 p1)) (f3_escaping (93 : Int32) (f0_e4 p0 p1) (f0_e5 p0 p1) (f0_e6 p0 p1)))
def f0_s0_179009 (p0 : Int32) (p1 : Int32) : Int32 := (if (f0_e7 p0 p1) = (0 : Int32) then (0 : Int32) else (1 : Int32))
def f0_s0_179010 (p0 : Int32) (p1 : Int32) : Int32 := (if (f0_s0_152008 p0 p1) = (0 : Int32) then (0 : Int32) else (f0_s0_179009 p0 p1))
def f0_l9_202011 (p1 : Int32) (p3 : Int32) : Int32 := (if ((p1 &&& (65535 : Int32)).toUInt32.toUInt16.toUInt32.toInt32) = (f0_s0_33002 p3) then (92 : Int32) else ((p1 &&& (65535 : Int32)).toUInt32.toUInt16.toUInt32.toInt32))
def f0_l10_234012 (p1 : Int32) (p2 : Int32) (p3 : Int32) : Int32 := (if (f0_l9_202011 p1 p3) = (92 : Int32) then ((p2 &&& (65535 : Int32)).toUInt32.toUInt16.toUInt32.toInt32) else (if ((p2 &&& (65535 : Int32)).toUInt32.toUInt16.toUInt32.toInt32) = (f0_s0_33002 p3) then (121 : Int32) else (if ((p2 &&& (65535 : Int32)).toUInt32.toUInt16.toUInt32.toInt32) = (92 : Int32) then (121 : Int32) else ((p2 &&& (65535 : Int32)).toUInt32.toUInt16.toUInt32.toInt32))))
def f0_e8 (p0 : Int32) (p3 : Int32) : Int32 := (f3_quote (f0_s0_33002 p3) (f3_quote (91 : Int32) (f0_e1 p0) (f0_e2 p0) (f0_e3 p0)) (f3_inSelector (91 : Int32) (f0_e1 p0) (f0_e2 p0) (f0_e3 p0)) (f3_escaping (91 : Int32) (f0_e1 p0) (f0_e2 p0) (f0_e3 p0)))
def f0_e9 (p0 : Int32) (p3 : Int32) : Int32 := (f3_inSelector (f0_s0_33002 p3) (f3_quote (91 : Int32) (f0_e1 p0) (f0_e2 p0) (f0_e3 p0)) (f3_inSelector (91 : Int32) (f0_e1 p0) (f0_e2 p0) (f0_e3 p0)) (f3_escaping (91 : Int32) (f0_e1 p0) (f0_e2 p0) (f0_e3 p0)))
def f0_e10 (p0 : Int32) (p3 : Int32) : Int32 := (f3_escaping (f0_s0_33002 p3) (f3_quote (91 : Int32) (f0_e1 p0) (f0_e2 p0) (f0_e3 p0)) (f3_inSelector (91 : Int32) (f0_e1 p0) (f0_e2 p0) (f0_e3 p0)) (f3_escaping (91 : Int32) (f0_e1 p0) (f0_e2 p0) (f0_e3 p0)))
def f0_e11 (p0 : Int32) (p1 : Int32) (p3 : Int32) : Int32 := (f3_quote (f0_l9_202011 p1 p3) (f0_e8 p0 p3) (f0_e9 p0 p3) (f0_e10 p0 p3))
def f0_e12 (p0 : Int32) (p1 : Int32) (p3 : Int32) : Int32 := (f3_inSelector (f0_l9_202011 p1 p3) (f0_e8 p0 p3) (f0_e9 p0 p3) (f0_e10 p0 p3))
def f0_e13 (p0 : Int32) (p1 : Int32) (p3 : Int32) : Int32 := (f3_escaping (f0_l9_202011 p1 p3) (f0_e8 p0 p3) (f0_e9 p0 p3) (f0_e10 p0 p3))
def f0_e14 (p0 : Int32) (p1 : Int32) (p2 : Int32) (p3 : Int32) : Int32 := (f3_quote (f0_l10_234012 p1 p2 p3) (f0_e11 p0 p1 p3) (f0_e12 p0 p1 p3) (f0_e13 p0 p1 p3))
def f0_e15 (p0 : Int32) (p1 : Int32) (p2 : Int32) (p3 : Int32) : Int32 := (f3_inSelector (f0_l10_234012 p1 p2 p3) (f0_e11 p0 p1 p3) (f0_e12 p0 p1 p3) (f0_e13 p0 p1 p3))
def f0_e16 (p0 : Int32) (p1 : Int32) (p2 : Int32) (p3 : Int32) : Int32 := (f3_escaping (f0_l10_234012 p1 p2 p3) (f0_e11 p0 p1 p3) (f0_e12 p0 p1 p3) (f0_e13 p0 p1 p3))
def f0_s0_273013 (p0 : Int32) (p1 : Int32) (p2 : Int32) (p3 : Int32) : Int32 := (if (f4 (f0_e14 p0 p1 p2 p3) (f0_e15 p0 p1 p2 p3) (f0_e16 p0 p1 p2 p3)) = (0 : Int32) then (1 : Int32) else (0 : Int32))
def f0_s0_273014 (p0 : Int32) (p1 : Int32) (p2 : Int32) (p3 : Int32) : Int32 := (if (f0_s0_76004 p0) = (0 : Int32) then (0 : Int32) else (f0_s0_273013 p0 p1 p2 p3))
def f0_e17 (p0 : Int32) (p1 : Int32) (p2 : Int32) (p3 : Int32) : Int32 := (f3_quote (f0_s0_33002 p3) (f0_e14 p0 p1 p2 p3) (f0_e15 p0 p1 p2 p3) (f0_e16 p0 p1 p2 p3))
def f0_e18 (p0 : Int32) (p1 : Int32) (p2 : Int32) (p3 : Int32) : Int32 := (f3_inSelector (f0_s0_33002 p3) (f0_e14 p0 p1 p2 p3) (f0_e15 p0 p1 p2 p3) (f0_e16 p0 p1 p2 p3))
def f0_e19 (p0 : Int32) (p1 : Int32) (p2 : Int32) (p3 : Int32) : Int32 := (f3_escaping (f0_s0_33002 p3) (f0_e14 p0 p1 p2 p3) (f0_e15 p0 p1 p2 p3) (f0_e16 p0 p1 p2 p3))
def f0_e20 (p0 : Int32) (p1 : Int32) (p2 : Int32) (p3 : Int32) : Int32 := (f3_quote (93 : Int32) (f0_e17 p0 p1 p2 p3) (f0_e18 p0 p1 p2 p3) (f0_e19 p0 p1 p2 p3))
def f0_e21 (p0 : Int32) (p1 : Int32) (p2 : Int32) (p3 : Int32) : Int32 := (f3_inSelector (93 : Int32) (f0_e17 p0 p1 p2 p3) (f0_e18 p0 p1 p2 p3) (f0_e19 p0 p1 p2 p3))
def f0_e22 (p0 : Int32) (p1 : Int32) (p2 : Int32) (p3 : Int32) : Int32 := (f3_escaping (93 : Int32) (f0_e17 p0 p1 p2 p3) (f0_e18 p0 p1 p2 p3) (f0_e19 p0 p1 p2 p3))
def f0_s0_307015 (p0 : Int32) (p1 : Int32) (p2 : Int32) (p3 : Int32) : Int32 := (if (f4 (f0_e20 p0 p1 p2 p3) (f0_e21 p0 p1 p2 p3) (f0_e22 p0 p1 p2 p3)) = (0 : Int32) then (0 : Int32) else (1 : Int32))
def f0_s0_307016 (p0 : Int32) (p1 : Int32) (p2 : Int32) (p3 : Int32) : Int32 := (if (f0_s0_273014 p0 p1 p2 p3) = (0 : Int32) then (0 : Int32) else (f0_s0_307015 p0 p1 p2 p3))
def f0 (p0 : Int32) (p1 : Int32) (p2 : Int32) (p3 : Int32) : Int32 := (if (f0_s0_18001 p3) = (0 : Int32) then ((f0_s0_179010 p0 p1) &&& 1) else ((f0_s0_307016 p0 p1 p2 p3) &&& 1))
def Q0 (Z : State) (p0 : Int32) (p1 : Int32) (p2 : Int32) (p3 : Int32) (h0 : Heap) (n0 : Nat) (v : Option Value) (h : Heap) (L : List Loc) : Prop := v = some (.int (f0 p0 p1 p2 p3)) ∧ Fr n0 L
set_option maxRecDepth 65536 in
set_option maxHeartbeats 40000000 in
theorem rm0 (l : Launch) (Z : State) (a0 : Array Value) (hw : ∀ d ∈ tables_1, d.before a0 Z = true) (ws : List Jvm.Cond) (p0 : Int32) (p1 : Int32) (p2 : Int32) (p3 : Int32) (h0 : Heap) (n0 : Nat) (Z0 : n0 ≤ h0.size)  :
    MetFree l x (head1 (Jvm.Cond.code x code maxLocals ret :: ws) room_1) (fun a U => a = #[(.int p0), (.int p1), (.int p2), (.int p3)] ∧ Z.Warmed39 U.vm ∧ U.heap = h0) (fun _ _ _ _ _ => True) (fun _ U o U' => ∃ v L, o = .returned v ∧ Q0 Z p0 p1 p2 p3 h0 n0 v U'.heap L ∧ FrameEnd U o U' L room_1.cells room_1.slots) := by
  refine MetFree.of_bodySF (plainFor_of_name pn_2) hisR ?_
  intro p e s m args below meth c s₁ Bd hml0 hP hK
  obtain ⟨rfl, hZ, hh⟩ := hP
  have hx := Bd.exec
  have hby := Bd.bytes
  have hml : c.maxLocals = 11 := hml0
  have hown : s.vm.findClass "com/example/libinterp/libinterp/SelectorScanIsOutsidePinLaw" = some m.cls := findClass_of_methodNamed Bd.named
  have hnm := (name_of_methodNamed Bd.named Bd.method).1
  have X0 : Stand p l e room_1 s m #[(.int p0), (.int p1), (.int p2), (.int p3)] below meth c s₁ [] 0 0 := Stand.of_body Bd
  have e0 : s₁.heap = h0 := by rw [← hh, Bd.state]; rfl
  have N0 := Fr.nil n0
  have K0 := Keep.refl h0 []
  have pre0 : ∀ t, Steps p.tables e below (s₁.setTop (mkF m 0 #[.val (.int p0), .val (.int p1), .val (.int p2), .val (.int p3), .unset, .unset, .unset, .unset, .unset, .unset, .unset] [])) t → Steps p.tables e below (s₁.setTop (entryFrame m #[(.int p0), (.int p1), (.int p2), (.int p3)] maxLocals)) t := fun t k => castTop (ef_0 m p0 p1 p2 p3) k
  have pre1 : ∀ t, Steps p.tables e below (s₁.setTop (mkF m 10 #[.val (.int p0), .val (.int p1), .val (.int p2), .val (.int p3), .val (.int ((p0 &&& (65535 : Int32)).toUInt32.toUInt16.toUInt32.toInt32)), .unset, .unset, .unset, .unset, .unset, .unset] [(.int (p3 &&& (1 : Int32)))])) t → Steps p.tables e below (s₁.setTop (entryFrame m #[(.int p0), (.int p1), (.int p2), (.int p3)] maxLocals)) t := fun t kt => pre0 t (by
    show Steps p.tables e below (s₁.setTop (mkF m 0 #[.val (.int p0), .val (.int p1), .val (.int p2), .val (.int p3), .unset, .unset, .unset, .unset, .unset, .unset, .unset] [])) _
    refine XS.iloadN X0.here hx rfl (hb hby at_0) rfl ?_
    show Steps p.tables e below (s₁.setTop (mkF m 1 #[.val (.int p0), .val (.int p1), .val (.int p2), .val (.int p3), .unset, .unset, .unset, .unset, .unset, .unset, .unset] [(.int p0)])) _
    refine X0.ldcInt hx hown (mvT hZ (hw _ (List.mem_of_getElem? (i := 0) rfl))) (g := (mkF m 1 #[.val (.int p0), .val (.int p1), .val (.int p2), .val (.int p3), .unset, .unset, .unset, .unset, .unset, .unset, .unset] [(.int p0)])) rfl (hb hby at_1) _ ?_
    show Steps p.tables e below (s₁.setTop (mkF m 3 #[.val (.int p0), .val (.int p1), .val (.int p2), .val (.int p3), .unset, .unset, .unset, .unset, .unset, .unset, .unset] [(.int (65535 : Int32)), (.int p0)])) _
    refine XS.iand X0.here hx rfl (hb hby at_3) rfl ?_
    show Steps p.tables e below (s₁.setTop (mkF m 4 #[.val (.int p0), .val (.int p1), .val (.int p2), .val (.int p3), .unset, .unset, .unset, .unset, .unset, .unset, .unset] [(.int (p0 &&& (65535 : Int32)))])) _
    refine XS.i2c X0.here hx rfl (hb hby at_4) rfl ?_
    show Steps p.tables e below (s₁.setTop (mkF m 5 #[.val (.int p0), .val (.int p1), .val (.int p2), .val (.int p3), .unset, .unset, .unset, .unset, .unset, .unset, .unset] [(.int ((p0 &&& (65535 : Int32)).toUInt32.toUInt16.toUInt32.toInt32))])) _
    refine XS.istore X0.here hx rfl (hb hby at_5) rfl (l' := #[.val (.int p0), .val (.int p1), .val (.int p2), .val (.int p3), .val (.int ((p0 &&& (65535 : Int32)).toUInt32.toUInt16.toUInt32.toInt32)), .unset, .unset, .unset, .unset, .unset, .unset]) rfl ?_
    show Steps p.tables e below (s₁.setTop (mkF m 7 #[.val (.int p0), .val (.int p1), .val (.int p2), .val (.int p3), .val (.int ((p0 &&& (65535 : Int32)).toUInt32.toUInt16.toUInt32.toInt32)), .unset, .unset, .unset, .unset, .unset, .unset] [])) _
    refine XS.iloadN X0.here hx rfl (hb hby at_7) rfl ?_
    show Steps p.tables e below (s₁.setTop (mkF m 8 #[.val (.int p0), .val (.int p1), .val (.int p2), .val (.int p3), .val (.int ((p0 &&& (65535 : Int32)).toUInt32.toUInt16.toUInt32.toInt32)), .unset, .unset, .unset, .unset, .unset, .unset] [(.int p3)])) _
    refine XS.iconst X0.here hx rfl (hb hby at_8) ?_
    show Steps p.tables e below (s₁.setTop (mkF m 9 #[.val (.int p0), .val (.int p1), .val (.int p2), .val (.int p3), .val (.int ((p0 &&& (65535 : Int32)).toUInt32.toUInt16.toUInt32.toInt32)), .unset, .unset, .unset, .unset, .unset, .unset] [(.int (1 : Int32)), (.int p3)])) _
    refine XS.iand X0.here hx rfl (hb hby at_9) rfl ?_
    exact kt)
  have pre3 : ∀ t, Steps p.tables e below (s₁.setTop (mkF m 18 #[.val (.int p0), .val (.int p1), .val (.int p2), .val (.int p3), .val (.int ((p0 &&& (65535 : Int32)).toUInt32.toUInt16.toUInt32.toInt32)), .unset, .unset, .unset, .unset, .unset, .unset] [(.int (f0_s0_18001 p3))])) t → Steps p.tables e below (s₁.setTop (entryFrame m #[(.int p0), (.int p1), (.int p2), (.int p3)] maxLocals)) t := by
    intro t kt
    by_cases hc2 : (p3 &&& (1 : Int32)) = (0 : Int32)
    · have hj : (f0_s0_18001 p3) = (0 : Int32) := by unfold f0_s0_18001; rw [if_pos hc2]
      rw [hj] at kt
      refine pre1 t ?_
      show Steps p.tables e below (s₁.setTop (mkF m 10 #[.val (.int p0), .val (.int p1), .val (.int p2), .val (.int p3), .val (.int ((p0 &&& (65535 : Int32)).toUInt32.toUInt16.toUInt32.toInt32)), .unset, .unset, .unset, .unset, .unset, .unset] [(.int (p3 &&& (1 : Int32)))])) _
      refine XS.ifYes X0.here hx rfl (pc0 := 10) (pc' := 17) rfl (hb hby at_10) rfl ((if0 _ _).trans (teq hc2).1) (by decide) (by decide) ?_
      show Steps p.tables e below (s₁.setTop (mkF m 17 #[.val (.int p0), .val (.int p1), .val (.int p2), .val (.int p3), .val (.int ((p0 &&& (65535 : Int32)).toUInt32.toUInt16.toUInt32.toInt32)), .unset, .unset, .unset, .unset, .unset, .unset] [])) _
      refine XS.iconst X0.here hx rfl (hb hby at_17) ?_
      exact kt
    · have hj : (f0_s0_18001 p3) = (1 : Int32) := by unfold f0_s0_18001; rw [if_neg hc2]
      rw [hj] at kt
      refine pre1 t ?_
      show Steps p.tables e below (s₁.setTop (mkF m 10 #[.val (.int p0), .val (.int p1), .val (.int p2), .val (.int p3), .val (.int ((p0 &&& (65535 : Int32)).toUInt32.toUInt16.toUInt32.toInt32)), .unset, .unset, .unset, .unset, .unset, .unset] [(.int (p3 &&& (1 : Int32)))])) _
      refine XS.ifNo X0.here hx rfl (hb hby at_10) rfl ((if0 _ _).trans (feq hc2).1) ?_
      show Steps p.tables e below (s₁.setTop (mkF m 13 #[.val (.int p0), .val (.int p1), .val (.int p2), .val (.int p3), .val (.int ((p0 &&& (65535 : Int32)).toUInt32.toUInt16.toUInt32.toInt32)), .unset, .unset, .unset, .unset, .unset, .unset] [])) _
      refine XS.iconst X0.here hx rfl (hb hby at_13) ?_
      show Steps p.tables e below (s₁.setTop (mkF m 14 #[.val (.int p0), .val (.int p1), .val (.int p2), .val (.int p3), .val (.int ((p0 &&& (65535 : Int32)).toUInt32.toUInt16.toUInt32.toInt32)), .unset, .unset, .unset, .unset, .unset, .unset] [(.int (1 : Int32))])) _
      refine XS.goto X0.here hx rfl (pc0 := 14) (pc' := 18) rfl (hb hby at_14) (by decide) (by decide) ?_
      exact kt
  have pre4 : ∀ t, Steps p.tables e below (s₁.setTop (mkF m 23 #[.val (.int p0), .val (.int p1), .val (.int p2), .val (.int p3), .val (.int ((p0 &&& (65535 : Int32)).toUInt32.toUInt16.toUInt32.toInt32)), .val (.int (f0_s0_18001 p3)), .unset, .unset, .unset, .unset, .unset] [(.int (p3 &&& (2 : Int32)))])) t → Steps p.tables e below (s₁.setTop (entryFrame m #[(.int p0), (.int p1), (.int p2), (.int p3)] maxLocals)) t := fun t kt => pre3 t (by
    show Steps p.tables e below (s₁.setTop (mkF m 18 #[.val (.int p0), .val (.int p1), .val (.int p2), .val (.int p3), .val (.int ((p0 &&& (65535 : Int32)).toUInt32.toUInt16.toUInt32.toInt32)), .unset, .unset, .unset, .unset, .unset, .unset] [(.int (f0_s0_18001 p3))])) _
    refine XS.istore X0.here hx rfl (hb hby at_18) rfl (l' := #[.val (.int p0), .val (.int p1), .val (.int p2), .val (.int p3), .val (.int ((p0 &&& (65535 : Int32)).toUInt32.toUInt16.toUInt32.toInt32)), .val (.int (f0_s0_18001 p3)), .unset, .unset, .unset, .unset, .unset]) rfl ?_
    show Steps p.tables e below (s₁.setTop (mkF m 20 #[.val (.int p0), .val (.int p1), .val (.int p2), .val (.int p3), .val (.int ((p0 &&& (65535 : Int32)).toUInt32.toUInt16.toUInt32.toInt32)), .val (.int (f0_s0_18001 p3)), .unset, .unset, .unset, .unset, .unset] [])) _
    refine XS.iloadN X0.here hx rfl (hb hby at_20) rfl ?_
    show Steps p.tables e below (s₁.setTop (mkF m 21 #[.val (.int p0), .val (.int p1), .val (.int p2), .val (.int p3), .val (.int ((p0 &&& (65535 : Int32)).toUInt32.toUInt16.toUInt32.toInt32)), .val (.int (f0_s0_18001 p3)), .unset, .unset, .unset, .unset, .unset] [(.int p3)])) _
    refine XS.iconst X0.here hx rfl (hb hby at_21) ?_
    show Steps p.tables e below (s₁.setTop (mkF m 22 #[.val (.int p0), .val (.int p1), .val (.int p2), .val (.int p3), .val (.int ((p0 &&& (65535 : Int32)).toUInt32.toUInt16.toUInt32.toInt32)), .val (.int (f0_s0_18001 p3)), .unset, .unset, .unset, .unset, .unset] [(.int (2 : Int32)), (.int p3)])) _
    refine XS.iand X0.here hx rfl (hb hby at_22) rfl ?_
    exact kt)
  have pre6 : ∀ t, Steps p.tables e below (s₁.setTop (mkF m 33 #[.val (.int p0), .val (.int p1), .val (.int p2), .val (.int p3), .val (.int ((p0 &&& (65535 : Int32)).toUInt32.toUInt16.toUInt32.toInt32)), .val (.int (f0_s0_18001 p3)), .unset, .unset, .unset, .unset, .unset] [(.int (f0_s0_33002 p3))])) t → Steps p.tables e below (s₁.setTop (entryFrame m #[(.int p0), (.int p1), (.int p2), (.int p3)] maxLocals)) t := by
    intro t kt
    by_cases hc5 : (p3 &&& (2 : Int32)) = (0 : Int32)
    · have hj : (f0_s0_33002 p3) = (34 : Int32) := by unfold f0_s0_33002; rw [if_pos hc5]
      rw [hj] at kt
      refine pre4 t ?_
      show Steps p.tables e below (s₁.setTop (mkF m 23 #[.val (.int p0), .val (.int p1), .val (.int p2), .val (.int p3), .val (.int ((p0 &&& (65535 : Int32)).toUInt32.toUInt16.toUInt32.toInt32)), .val (.int (f0_s0_18001 p3)), .unset, .unset, .unset, .unset, .unset] [(.int (p3 &&& (2 : Int32)))])) _
      refine XS.ifYes X0.here hx rfl (pc0 := 23) (pc' := 31) rfl (hb hby at_23) rfl ((if0 _ _).trans (teq hc5).1) (by decide) (by decide) ?_
      show Steps p.tables e below (s₁.setTop (mkF m 31 #[.val (.int p0), .val (.int p1), .val (.int p2), .val (.int p3), .val (.int ((p0 &&& (65535 : Int32)).toUInt32.toUInt16.toUInt32.toInt32)), .val (.int (f0_s0_18001 p3)), .unset, .unset, .unset, .unset, .unset] [])) _
      refine XS.bipush X0.here hx rfl (hb hby at_31) ?_
      exact kt
    · have hj : (f0_s0_33002 p3) = (39 : Int32) := by unfold f0_s0_33002; rw [if_neg hc5]
      rw [hj] at kt
      refine pre4 t ?_
      show Steps p.tables e below (s₁.setTop (mkF m 23 #[.val (.int p0), .val (.int p1), .val (.int p2), .val (.int p3), .val (.int ((p0 &&& (65535 : Int32)).toUInt32.toUInt16.toUInt32.toInt32)), .val (.int (f0_s0_18001 p3)), .unset, .unset, .unset, .unset, .unset] [(.int (p3 &&& (2 : Int32)))])) _
      refine XS.ifNo X0.here hx rfl (hb hby at_23) rfl ((if0 _ _).trans (feq hc5).1) ?_
      show Steps p.tables e below (s₁.setTop (mkF m 26 #[.val (.int p0), .val (.int p1), .val (.int p2), .val (.int p3), .val (.int ((p0 &&& (65535 : Int32)).toUInt32.toUInt16.toUInt32.toInt32)), .val (.int (f0_s0_18001 p3)), .unset, .unset, .unset, .unset, .unset] [])) _
      refine XS.bipush X0.here hx rfl (hb hby at_26) ?_
      show Steps p.tables e below (s₁.setTop (mkF m 28 #[.val (.int p0), .val (.int p1), .val (.int p2), .val (.int p3), .val (.int ((p0 &&& (65535 : Int32)).toUInt32.toUInt16.toUInt32.toInt32)), .val (.int (f0_s0_18001 p3)), .unset, .unset, .unset, .unset, .unset] [(.int (39 : Int32))])) _
      refine XS.goto X0.here hx rfl (pc0 := 28) (pc' := 33) rfl (hb hby at_28) (by decide) (by decide) ?_
      exact kt
  obtain ⟨T7, h7, X7, e7, E7, A7, D7, -, st7⟩ := newO X0 hx hZ hown (hw _ (List.mem_of_getElem? (i := 1) rfl)) (hw _ (List.mem_of_getElem? (i := 2) rfl)) (hw _ (List.mem_of_getElem? (i := 3) rfl)) e0 (g := (mkF m 35 #[.val (.int p0), .val (.int p1), .val (.int p2), .val (.int p3), .val (.int ((p0 &&& (65535 : Int32)).toUInt32.toUInt16.toUInt32.toInt32)), .val (.int (f0_s0_18001 p3)), .val (.int (f0_s0_33002 p3)), .unset, .unset, .unset, .unset] [])) rfl (hb hby at_35) (by decide) (by decide)
  obtain ⟨b7, g7⟩ : ∃ z, z = h0.size := ⟨_, rfl⟩
  rw [← g7] at A7 D7 st7
  have gn_b7 : n0 ≤ b7 := Nat.le_trans Z0 (Nat.le_of_eq g7.symm)
  have sz_b7 : h0.size ≤ b7 := Nat.le_trans K0.1 (Nat.le_of_eq g7.symm)
  have Zz7 := Nat.le_trans Z0 E7.1
  have K7 := K0.ext E7
  have F_quote_b7 : Fld Z h7 b7 "com/example/libinterp/libinterp/PathParser$SelectorScan" "quote" "C" (.int (0 : Int32)) := D7 (Or.inl (hw _ (List.mem_of_getElem? (i := 11) rfl))) (ty := .char) (by decide)
  have F_inSelector_b7 : Fld Z h7 b7 "com/example/libinterp/libinterp/PathParser$SelectorScan" "inSelector" "Z" (.int (0 : Int32)) := D7 (Or.inl (hw _ (List.mem_of_getElem? (i := 18) rfl))) (ty := .boolean) (by decide)
  have F_escaping_b7 : Fld Z h7 b7 "com/example/libinterp/libinterp/PathParser$SelectorScan" "escaping" "Z" (.int (0 : Int32)) := D7 (Or.inl (hw _ (List.mem_of_getElem? (i := 33) rfl))) (ty := .boolean) (by decide)
  obtain ⟨_, _, ⟨T8, L8, k8, n8⟩, -, X8, ⟨Lc8, hQ8, l8, y8, z8⟩, st8⟩ := X7.specialBack hx (y := (⟨"com/example/libinterp/libinterp/PathParser$SelectorScan", "<init>", "()V"⟩ : MethodName)) rfl hown (mvT hZ (hw _ (List.mem_of_getElem? (i := 4) rfl))) (mvT hZ (hw _ (List.mem_of_getElem? (i := 5) rfl))) (mvT hZ (hw _ (List.mem_of_getElem? (i := 6) rfl))) (by decide) (backOf (W := 1) (rm1 l Z a0 hw [] b7 (0 : Int32) (0 : Int32) (0 : Int32) h7 n0 Zz7 A7 gn_b7 F_quote_b7 F_inSelector_b7 F_escaping_b7) hZ (hw _ (List.mem_of_getElem? (i := 6) rfl)) (hw _ (List.mem_of_getElem? (i := 3) rfl)) (by decide) (by decide)) (g := (mkF m 39 #[.val (.int p0), .val (.int p1), .val (.int p2), .val (.int p3), .val (.int ((p0 &&& (65535 : Int32)).toUInt32.toUInt16.toUInt32.toInt32)), .val (.int (f0_s0_18001 p3)), .val (.int (f0_s0_33002 p3)), .unset, .unset, .unset, .unset] [(.ref b7), (.ref b7)])) rfl (by rw [hml]; rfl) (Steps.refl _) (a := b7) (argsL := []) (rest := [(.ref b7)]) (lenOf pd_2 rfl) rfl (by show 2 * 0 + _ ≤ _; exact Nat.le_of_eq rfl) (hb hby at_39) (fun _ _ => ⟨rfl, e7, (by decide : 1 + 0 ≤ _), (by decide : 3 + 0 ≤ _)⟩)
  dsimp only [Pt.U, Pt.locs, Pt.cells, Pt.slots] at X8 l8 y8 z8 st8 hQ8
  subst l8 y8 z8
  obtain ⟨rfl, N8q, K8q, E8q, F8q_quote, F8q_inSelector, F8q_escaping⟩ := hQ8
  have Zz8 := Nat.le_trans Zz7 K8q.1
  have K8 : Keep h0 T8.heap [] := K7.trans K8q (allS (Or.inr sz_b7) all0)
  have N8 := Fr.app N0 N8q
  obtain ⟨cq9, kq9, q9a, q9b, q9c⟩ := isOf hZ rfl E8q
  obtain ⟨_, _, ⟨T9, L9, k9, n9⟩, -, X9, ⟨Lc9, hQ9, l9, y9, z9⟩, st9⟩ := X8.virtualBack hx (y := (⟨"com/example/libinterp/libinterp/PathParser$SelectorScan", "read", "(C)V"⟩ : MethodName)) (z := (⟨"com/example/libinterp/libinterp/PathParser$SelectorScan", "read", "(C)V"⟩ : MethodName)) hown (mvT hZ (hw _ (List.mem_of_getElem? (i := 12) rfl))) (mvT hZ (hw _ (List.mem_of_getElem? (i := 13) rfl))) (notFace_of_selects (args := #[]) (mvT hZ (hw _ (List.mem_of_getElem? (i := 15) rfl)))) (mvT hZ (hw _ (List.mem_of_getElem? (i := 15) rfl))) (mvT hZ (hw _ (List.mem_of_getElem? (i := 14) rfl))) (by decide) (backOf (W := 0) (rm3 l Z a0 hw [] b7 ((p0 &&& (65535 : Int32)).toUInt32.toUInt16.toUInt32.toInt32) (f1_quote (0 : Int32) (0 : Int32) (0 : Int32)) (0 : Int32) (0 : Int32) T8.heap n0 Zz8 E8q gn_b7 F8q_quote F8q_inSelector F8q_escaping) hZ (hw _ (List.mem_of_getElem? (i := 16) rfl)) (hw _ (List.mem_of_getElem? (i := 3) rfl)) (by decide) (by decide)) q9a q9c (g := (mkF m 48 #[.val (.int p0), .val (.int p1), .val (.int p2), .val (.int p3), .val (.int ((p0 &&& (65535 : Int32)).toUInt32.toUInt16.toUInt32.toInt32)), .val (.int (f0_s0_18001 p3)), .val (.int (f0_s0_33002 p3)), .val (.ref b7), .unset, .unset, .unset] [(.int ((p0 &&& (65535 : Int32)).toUInt32.toUInt16.toUInt32.toInt32)), (.ref b7)])) rfl (by rw [hml]; rfl) (Steps.refl _) (argsL := [(.int ((p0 &&& (65535 : Int32)).toUInt32.toUInt16.toUInt32.toInt32))]) (rest := []) (lenOf pd_1 rfl) rfl (by show 2 * 0 + _ ≤ _; exact Nat.le_of_eq rfl) (hb hby at_48) (fun _ _ => ⟨rfl, rfl, (by decide : 1 + 0 ≤ _), (by decide : 3 + 0 ≤ _)⟩)
  dsimp only [Pt.U, Pt.locs, Pt.cells, Pt.slots] at X9 l9 y9 z9 st9 hQ9
  subst l9 y9 z9
  obtain ⟨rfl, N9q, K9q, E9q, F9q_quote, F9q_inSelector, F9q_escaping⟩ := hQ9
  have F9n_quote : Fld Z T9.heap b7 "com/example/libinterp/libinterp/PathParser$SelectorScan" "quote" "C" (.int (f0_e1 p0)) := F9q_quote
  have F9n_inSelector : Fld Z T9.heap b7 "com/example/libinterp/libinterp/PathParser$SelectorScan" "inSelector" "Z" (.int (f0_e2 p0)) := F9q_inSelector
  have F9n_escaping : Fld Z T9.heap b7 "com/example/libinterp/libinterp/PathParser$SelectorScan" "escaping" "Z" (.int (f0_e3 p0)) := F9q_escaping
  have Zz9 := Nat.le_trans Zz8 K9q.1
  have K9 : Keep h0 T9.heap [] := K8.trans K9q (allS (Or.inr sz_b7) all0)
  have N9 := Fr.app N8 N9q
  obtain ⟨cq10, kq10, q10a, q10b, q10c⟩ := isOf hZ rfl E9q
  obtain ⟨_, _, ⟨T10, L10, k10, n10⟩, -, X10, ⟨Lc10, hQ10, l10, y10, z10⟩, st10⟩ := X9.virtualBack hx (y := (⟨"com/example/libinterp/libinterp/PathParser$SelectorScan", "isOutside", "()Z"⟩ : MethodName)) (z := (⟨"com/example/libinterp/libinterp/PathParser$SelectorScan", "isOutside", "()Z"⟩ : MethodName)) hown (mvT hZ (hw _ (List.mem_of_getElem? (i := 19) rfl))) (mvT hZ (hw _ (List.mem_of_getElem? (i := 20) rfl))) (notFace_of_selects (args := #[]) (mvT hZ (hw _ (List.mem_of_getElem? (i := 22) rfl)))) (mvT hZ (hw _ (List.mem_of_getElem? (i := 22) rfl))) (mvT hZ (hw _ (List.mem_of_getElem? (i := 21) rfl))) (by decide) (backOf (W := 0) (rm4 l Z a0 hw [] b7 (f0_e1 p0) (f0_e2 p0) (f0_e3 p0) T9.heap n0 Zz9 E9q gn_b7 F9n_quote F9n_inSelector F9n_escaping) hZ (hw _ (List.mem_of_getElem? (i := 23) rfl)) (hw _ (List.mem_of_getElem? (i := 3) rfl)) (by decide) (by decide)) q10a q10c (g := (mkF m 53 #[.val (.int p0), .val (.int p1), .val (.int p2), .val (.int p3), .val (.int ((p0 &&& (65535 : Int32)).toUInt32.toUInt16.toUInt32.toInt32)), .val (.int (f0_s0_18001 p3)), .val (.int (f0_s0_33002 p3)), .val (.ref b7), .unset, .unset, .unset] [(.ref b7)])) rfl (by rw [hml]; rfl) (Steps.refl _) (argsL := []) (rest := []) (lenOf pd_3 rfl) rfl (by show 2 * 0 + _ ≤ _; exact Nat.le_of_eq rfl) (hb hby at_53) (fun _ _ => ⟨rfl, rfl, (by decide : 1 + 0 ≤ _), (by decide : 3 + 0 ≤ _)⟩)
  dsimp only [Pt.U, Pt.locs, Pt.cells, Pt.slots] at X10 l10 y10 z10 st10 hQ10
  subst l10 y10 z10
  obtain ⟨rfl, N10q, e10⟩ := hQ10
  have N10 := Fr.app N9 N10q
  have pre11 : ∀ t, Steps p.tables e below (T10.setTop (mkF m 60 #[.val (.int p0), .val (.int p1), .val (.int p2), .val (.int p3), .val (.int ((p0 &&& (65535 : Int32)).toUInt32.toUInt16.toUInt32.toInt32)), .val (.int (f0_s0_18001 p3)), .val (.int (f0_s0_33002 p3)), .val (.ref b7), .unset, .unset, .unset] [(.int (91 : Int32)), (.int ((p0 &&& (65535 : Int32)).toUInt32.toUInt16.toUInt32.toInt32)), (.int (f4 (f0_e1 p0) (f0_e2 p0) (f0_e3 p0)))])) t → Steps p.tables e below (s₁.setTop (entryFrame m #[(.int p0), (.int p1), (.int p2), (.int p3)] maxLocals)) t := fun t kt => pre6 t (by
    show Steps p.tables e below (s₁.setTop (mkF m 33 #[.val (.int p0), .val (.int p1), .val (.int p2), .val (.int p3), .val (.int ((p0 &&& (65535 : Int32)).toUInt32.toUInt16.toUInt32.toInt32)), .val (.int (f0_s0_18001 p3)), .unset, .unset, .unset, .unset, .unset] [(.int (f0_s0_33002 p3))])) _
    refine XS.istore X0.here hx rfl (hb hby at_33) rfl (l' := #[.val (.int p0), .val (.int p1), .val (.int p2), .val (.int p3), .val (.int ((p0 &&& (65535 : Int32)).toUInt32.toUInt16.toUInt32.toInt32)), .val (.int (f0_s0_18001 p3)), .val (.int (f0_s0_33002 p3)), .unset, .unset, .unset, .unset]) rfl ?_
    show Steps p.tables e below (s₁.setTop (mkF m 35 #[.val (.int p0), .val (.int p1), .val (.int p2), .val (.int p3), .val (.int ((p0 &&& (65535 : Int32)).toUInt32.toUInt16.toUInt32.toInt32)), .val (.int (f0_s0_18001 p3)), .val (.int (f0_s0_33002 p3)), .unset, .unset, .unset, .unset] [])) _
    refine st7 _ ?_
    show Steps p.tables e below (T7.setTop (mkF m 38 #[.val (.int p0), .val (.int p1), .val (.int p2), .val (.int p3), .val (.int ((p0 &&& (65535 : Int32)).toUInt32.toUInt16.toUInt32.toInt32)), .val (.int (f0_s0_18001 p3)), .val (.int (f0_s0_33002 p3)), .unset, .unset, .unset, .unset] [(.ref b7)])) _
    refine XS.dup X7.here hx rfl (hb hby at_38) rfl rfl ?_
    show Steps p.tables e below (T7.setTop (mkF m 39 #[.val (.int p0), .val (.int p1), .val (.int p2), .val (.int p3), .val (.int ((p0 &&& (65535 : Int32)).toUInt32.toUInt16.toUInt32.toInt32)), .val (.int (f0_s0_18001 p3)), .val (.int (f0_s0_33002 p3)), .unset, .unset, .unset, .unset] [(.ref b7), (.ref b7)])) _
    refine st8.trans ?_
    show Steps p.tables e below (T8.setTop (mkF m 42 #[.val (.int p0), .val (.int p1), .val (.int p2), .val (.int p3), .val (.int ((p0 &&& (65535 : Int32)).toUInt32.toUInt16.toUInt32.toInt32)), .val (.int (f0_s0_18001 p3)), .val (.int (f0_s0_33002 p3)), .unset, .unset, .unset, .unset] [(.ref b7)])) _
    refine XS.astore X8.here hx rfl (hb hby at_42) rfl rfl (l' := #[.val (.int p0), .val (.int p1), .val (.int p2), .val (.int p3), .val (.int ((p0 &&& (65535 : Int32)).toUInt32.toUInt16.toUInt32.toInt32)), .val (.int (f0_s0_18001 p3)), .val (.int (f0_s0_33002 p3)), .val (.ref b7), .unset, .unset, .unset]) rfl ?_
    show Steps p.tables e below (T8.setTop (mkF m 44 #[.val (.int p0), .val (.int p1), .val (.int p2), .val (.int p3), .val (.int ((p0 &&& (65535 : Int32)).toUInt32.toUInt16.toUInt32.toInt32)), .val (.int (f0_s0_18001 p3)), .val (.int (f0_s0_33002 p3)), .val (.ref b7), .unset, .unset, .unset] [])) _
    refine XS.aload X8.here hx rfl (hb hby at_44) rfl rfl ?_
    show Steps p.tables e below (T8.setTop (mkF m 46 #[.val (.int p0), .val (.int p1), .val (.int p2), .val (.int p3), .val (.int ((p0 &&& (65535 : Int32)).toUInt32.toUInt16.toUInt32.toInt32)), .val (.int (f0_s0_18001 p3)), .val (.int (f0_s0_33002 p3)), .val (.ref b7), .unset, .unset, .unset] [(.ref b7)])) _
    refine XS.iload X8.here hx rfl (hb hby at_46) rfl ?_
    show Steps p.tables e below (T8.setTop (mkF m 48 #[.val (.int p0), .val (.int p1), .val (.int p2), .val (.int p3), .val (.int ((p0 &&& (65535 : Int32)).toUInt32.toUInt16.toUInt32.toInt32)), .val (.int (f0_s0_18001 p3)), .val (.int (f0_s0_33002 p3)), .val (.ref b7), .unset, .unset, .unset] [(.int ((p0 &&& (65535 : Int32)).toUInt32.toUInt16.toUInt32.toInt32)), (.ref b7)])) _
    refine st9.trans ?_
    show Steps p.tables e below (T9.setTop (mkF m 51 #[.val (.int p0), .val (.int p1), .val (.int p2), .val (.int p3), .val (.int ((p0 &&& (65535 : Int32)).toUInt32.toUInt16.toUInt32.toInt32)), .val (.int (f0_s0_18001 p3)), .val (.int (f0_s0_33002 p3)), .val (.ref b7), .unset, .unset, .unset] [])) _
    refine XS.aload X9.here hx rfl (hb hby at_51) rfl rfl ?_
    show Steps p.tables e below (T9.setTop (mkF m 53 #[.val (.int p0), .val (.int p1), .val (.int p2), .val (.int p3), .val (.int ((p0 &&& (65535 : Int32)).toUInt32.toUInt16.toUInt32.toInt32)), .val (.int (f0_s0_18001 p3)), .val (.int (f0_s0_33002 p3)), .val (.ref b7), .unset, .unset, .unset] [(.ref b7)])) _
    refine st10.trans ?_
    show Steps p.tables e below (T10.setTop (mkF m 56 #[.val (.int p0), .val (.int p1), .val (.int p2), .val (.int p3), .val (.int ((p0 &&& (65535 : Int32)).toUInt32.toUInt16.toUInt32.toInt32)), .val (.int (f0_s0_18001 p3)), .val (.int (f0_s0_33002 p3)), .val (.ref b7), .unset, .unset, .unset] [(.int (f4 (f0_e1 p0) (f0_e2 p0) (f0_e3 p0)))])) _
    refine XS.iload X10.here hx rfl (hb hby at_56) rfl ?_
    show Steps p.tables e below (T10.setTop (mkF m 58 #[.val (.int p0), .val (.int p1), .val (.int p2), .val (.int p3), .val (.int ((p0 &&& (65535 : Int32)).toUInt32.toUInt16.toUInt32.toInt32)), .val (.int (f0_s0_18001 p3)), .val (.int (f0_s0_33002 p3)), .val (.ref b7), .unset, .unset, .unset] [(.int ((p0 &&& (65535 : Int32)).toUInt32.toUInt16.toUInt32.toInt32)), (.int (f4 (f0_e1 p0) (f0_e2 p0) (f0_e3 p0)))])) _
    refine XS.bipush X10.here hx rfl (hb hby at_58) ?_
    exact kt)
  have pre13 : ∀ t, Steps p.tables e below (T10.setTop (mkF m 68 #[.val (.int p0), .val (.int p1), .val (.int p2), .val (.int p3), .val (.int ((p0 &&& (65535 : Int32)).toUInt32.toUInt16.toUInt32.toInt32)), .val (.int (f0_s0_18001 p3)), .val (.int (f0_s0_33002 p3)), .val (.ref b7), .unset, .unset, .unset] [(.int (f0_s0_68003 p0)), (.int (f4 (f0_e1 p0) (f0_e2 p0) (f0_e3 p0)))])) t → Steps p.tables e below (s₁.setTop (entryFrame m #[(.int p0), (.int p1), (.int p2), (.int p3)] maxLocals)) t := by
    intro t kt
    by_cases hc12 : ((p0 &&& (65535 : Int32)).toUInt32.toUInt16.toUInt32.toInt32) = (91 : Int32)
    · have hj : (f0_s0_68003 p0) = (0 : Int32) := by unfold f0_s0_68003; rw [if_pos hc12]
      rw [hj] at kt
      refine pre11 t ?_
      show Steps p.tables e below (T10.setTop (mkF m 60 #[.val (.int p0), .val (.int p1), .val (.int p2), .val (.int p3), .val (.int ((p0 &&& (65535 : Int32)).toUInt32.toUInt16.toUInt32.toInt32)), .val (.int (f0_s0_18001 p3)), .val (.int (f0_s0_33002 p3)), .val (.ref b7), .unset, .unset, .unset] [(.int (91 : Int32)), (.int ((p0 &&& (65535 : Int32)).toUInt32.toUInt16.toUInt32.toInt32)), (.int (f4 (f0_e1 p0) (f0_e2 p0) (f0_e3 p0)))])) _
      refine XS.icmpYes X10.here hx rfl (pc0 := 60) (pc' := 67) rfl (hb hby at_60) rfl (teq hc12).1 (by decide) (by decide) ?_
      show Steps p.tables e below (T10.setTop (mkF m 67 #[.val (.int p0), .val (.int p1), .val (.int p2), .val (.int p3), .val (.int ((p0 &&& (65535 : Int32)).toUInt32.toUInt16.toUInt32.toInt32)), .val (.int (f0_s0_18001 p3)), .val (.int (f0_s0_33002 p3)), .val (.ref b7), .unset, .unset, .unset] [(.int (f4 (f0_e1 p0) (f0_e2 p0) (f0_e3 p0)))])) _
      refine XS.iconst X10.here hx rfl (hb hby at_67) ?_
      exact kt
    · have hj : (f0_s0_68003 p0) = (1 : Int32) := by unfold f0_s0_68003; rw [if_neg hc12]
      rw [hj] at kt
      refine pre11 t ?_
      show Steps p.tables e below (T10.setTop (mkF m 60 #[.val (.int p0), .val (.int p1), .val (.int p2), .val (.int p3), .val (.int ((p0 &&& (65535 : Int32)).toUInt32.toUInt16.toUInt32.toInt32)), .val (.int (f0_s0_18001 p3)), .val (.int (f0_s0_33002 p3)), .val (.ref b7), .unset, .unset, .unset] [(.int (91 : Int32)), (.int ((p0 &&& (65535 : Int32)).toUInt32.toUInt16.toUInt32.toInt32)), (.int (f4 (f0_e1 p0) (f0_e2 p0) (f0_e3 p0)))])) _
      refine XS.icmpNo X10.here hx rfl (hb hby at_60) rfl (feq hc12).1 ?_
      show Steps p.tables e below (T10.setTop (mkF m 63 #[.val (.int p0), .val (.int p1), .val (.int p2), .val (.int p3), .val (.int ((p0 &&& (65535 : Int32)).toUInt32.toUInt16.toUInt32.toInt32)), .val (.int (f0_s0_18001 p3)), .val (.int (f0_s0_33002 p3)), .val (.ref b7), .unset, .unset, .unset] [(.int (f4 (f0_e1 p0) (f0_e2 p0) (f0_e3 p0)))])) _
      refine XS.iconst X10.here hx rfl (hb hby at_63) ?_
      show Steps p.tables e below (T10.setTop (mkF m 64 #[.val (.int p0), .val (.int p1), .val (.int p2), .val (.int p3), .val (.int ((p0 &&& (65535 : Int32)).toUInt32.toUInt16.toUInt32.toInt32)), .val (.int (f0_s0_18001 p3)), .val (.int (f0_s0_33002 p3)), .val (.ref b7), .unset, .unset, .unset] [(.int (1 : Int32)), (.int (f4 (f0_e1 p0) (f0_e2 p0) (f0_e3 p0)))])) _
      refine XS.goto X10.here hx rfl (pc0 := 64) (pc' := 68) rfl (hb hby at_64) (by decide) (by decide) ?_
      exact kt
  have pre15 : ∀ t, Steps p.tables e below (T10.setTop (mkF m 76 #[.val (.int p0), .val (.int p1), .val (.int p2), .val (.int p3), .val (.int ((p0 &&& (65535 : Int32)).toUInt32.toUInt16.toUInt32.toInt32)), .val (.int (f0_s0_18001 p3)), .val (.int (f0_s0_33002 p3)), .val (.ref b7), .unset, .unset, .unset] [(.int (f0_s0_76004 p0))])) t → Steps p.tables e below (s₁.setTop (entryFrame m #[(.int p0), (.int p1), (.int p2), (.int p3)] maxLocals)) t := by
    intro t kt
    by_cases hc14 : (f4 (f0_e1 p0) (f0_e2 p0) (f0_e3 p0)) = (f0_s0_68003 p0)
    · have hj : (f0_s0_76004 p0) = (1 : Int32) := by unfold f0_s0_76004; rw [if_pos hc14]
      rw [hj] at kt
      refine pre13 t ?_
      show Steps p.tables e below (T10.setTop (mkF m 68 #[.val (.int p0), .val (.int p1), .val (.int p2), .val (.int p3), .val (.int ((p0 &&& (65535 : Int32)).toUInt32.toUInt16.toUInt32.toInt32)), .val (.int (f0_s0_18001 p3)), .val (.int (f0_s0_33002 p3)), .val (.ref b7), .unset, .unset, .unset] [(.int (f0_s0_68003 p0)), (.int (f4 (f0_e1 p0) (f0_e2 p0) (f0_e3 p0)))])) _
      refine XS.icmpNo X10.here hx rfl (hb hby at_68) rfl (teq hc14).2 ?_
      show Steps p.tables e below (T10.setTop (mkF m 71 #[.val (.int p0), .val (.int p1), .val (.int p2), .val (.int p3), .val (.int ((p0 &&& (65535 : Int32)).toUInt32.toUInt16.toUInt32.toInt32)), .val (.int (f0_s0_18001 p3)), .val (.int (f0_s0_33002 p3)), .val (.ref b7), .unset, .unset, .unset] [])) _
      refine XS.iconst X10.here hx rfl (hb hby at_71) ?_
      show Steps p.tables e below (T10.setTop (mkF m 72 #[.val (.int p0), .val (.int p1), .val (.int p2), .val (.int p3), .val (.int ((p0 &&& (65535 : Int32)).toUInt32.toUInt16.toUInt32.toInt32)), .val (.int (f0_s0_18001 p3)), .val (.int (f0_s0_33002 p3)), .val (.ref b7), .unset, .unset, .unset] [(.int (1 : Int32))])) _
      refine XS.goto X10.here hx rfl (pc0 := 72) (pc' := 76) rfl (hb hby at_72) (by decide) (by decide) ?_
      exact kt
    · have hj : (f0_s0_76004 p0) = (0 : Int32) := by unfold f0_s0_76004; rw [if_neg hc14]
      rw [hj] at kt
      refine pre13 t ?_
      show Steps p.tables e below (T10.setTop (mkF m 68 #[.val (.int p0), .val (.int p1), .val (.int p2), .val (.int p3), .val (.int ((p0 &&& (65535 : Int32)).toUInt32.toUInt16.toUInt32.toInt32)), .val (.int (f0_s0_18001 p3)), .val (.int (f0_s0_33002 p3)), .val (.ref b7), .unset, .unset, .unset] [(.int (f0_s0_68003 p0)), (.int (f4 (f0_e1 p0) (f0_e2 p0) (f0_e3 p0)))])) _
      refine XS.icmpYes X10.here hx rfl (pc0 := 68) (pc' := 75) rfl (hb hby at_68) rfl (feq hc14).2 (by decide) (by decide) ?_
      show Steps p.tables e below (T10.setTop (mkF m 75 #[.val (.int p0), .val (.int p1), .val (.int p2), .val (.int p3), .val (.int ((p0 &&& (65535 : Int32)).toUInt32.toUInt16.toUInt32.toInt32)), .val (.int (f0_s0_18001 p3)), .val (.int (f0_s0_33002 p3)), .val (.ref b7), .unset, .unset, .unset] [])) _
      refine XS.iconst X10.here hx rfl (hb hby at_75) ?_
      exact kt
  obtain ⟨cq16, kq16, q16a, q16b, q16c⟩ := isOf hZ e10 E9q
  obtain ⟨_, _, ⟨T16, L16, k16, n16⟩, -, X16, ⟨Lc16, hQ16, l16, y16, z16⟩, st16⟩ := X10.virtualBack hx (y := (⟨"com/example/libinterp/libinterp/PathParser$SelectorScan", "read", "(C)V"⟩ : MethodName)) (z := (⟨"com/example/libinterp/libinterp/PathParser$SelectorScan", "read", "(C)V"⟩ : MethodName)) hown (mvT hZ (hw _ (List.mem_of_getElem? (i := 12) rfl))) (mvT hZ (hw _ (List.mem_of_getElem? (i := 13) rfl))) (notFace_of_selects (args := #[]) (mvT hZ (hw _ (List.mem_of_getElem? (i := 15) rfl)))) (mvT hZ (hw _ (List.mem_of_getElem? (i := 15) rfl))) (mvT hZ (hw _ (List.mem_of_getElem? (i := 14) rfl))) (by decide) (backOf (W := 0) (rm3 l Z a0 hw [] b7 (91 : Int32) (f0_e1 p0) (f0_e2 p0) (f0_e3 p0) T9.heap n0 Zz9 E9q gn_b7 F9n_quote F9n_inSelector F9n_escaping) hZ (hw _ (List.mem_of_getElem? (i := 16) rfl)) (hw _ (List.mem_of_getElem? (i := 3) rfl)) (by decide) (by decide)) q16a q16c (g := (mkF m 82 #[.val (.int p0), .val (.int p1), .val (.int p2), .val (.int p3), .val (.int ((p0 &&& (65535 : Int32)).toUInt32.toUInt16.toUInt32.toInt32)), .val (.int (f0_s0_18001 p3)), .val (.int (f0_s0_33002 p3)), .val (.ref b7), .val (.int (f0_s0_76004 p0)), .unset, .unset] [(.int (91 : Int32)), (.ref b7)])) rfl (by rw [hml]; rfl) (Steps.refl _) (argsL := [(.int (91 : Int32))]) (rest := []) (lenOf pd_1 rfl) rfl (by show 2 * 0 + _ ≤ _; exact Nat.le_of_eq rfl) (hb hby at_82) (fun _ _ => ⟨rfl, e10, (by decide : 1 + 0 ≤ _), (by decide : 3 + 0 ≤ _)⟩)
  dsimp only [Pt.U, Pt.locs, Pt.cells, Pt.slots] at X16 l16 y16 z16 st16 hQ16
  subst l16 y16 z16
  obtain ⟨rfl, N16q, K16q, E16q, F16q_quote, F16q_inSelector, F16q_escaping⟩ := hQ16
  have Zz16 := Nat.le_trans Zz9 K16q.1
  have K16 : Keep h0 T16.heap [] := K9.trans K16q (allS (Or.inr sz_b7) all0)
  have N16 := Fr.app N10 N16q
  have pre17 : ∀ t, Steps p.tables e below (T16.setTop (mkF m 87 #[.val (.int p0), .val (.int p1), .val (.int p2), .val (.int p3), .val (.int ((p0 &&& (65535 : Int32)).toUInt32.toUInt16.toUInt32.toInt32)), .val (.int (f0_s0_18001 p3)), .val (.int (f0_s0_33002 p3)), .val (.ref b7), .val (.int (f0_s0_76004 p0)), .unset, .unset] [(.int (f0_s0_18001 p3))])) t → Steps p.tables e below (s₁.setTop (entryFrame m #[(.int p0), (.int p1), (.int p2), (.int p3)] maxLocals)) t := fun t kt => pre15 t (by
    show Steps p.tables e below (T10.setTop (mkF m 76 #[.val (.int p0), .val (.int p1), .val (.int p2), .val (.int p3), .val (.int ((p0 &&& (65535 : Int32)).toUInt32.toUInt16.toUInt32.toInt32)), .val (.int (f0_s0_18001 p3)), .val (.int (f0_s0_33002 p3)), .val (.ref b7), .unset, .unset, .unset] [(.int (f0_s0_76004 p0))])) _
    refine XS.istore X10.here hx rfl (hb hby at_76) rfl (l' := #[.val (.int p0), .val (.int p1), .val (.int p2), .val (.int p3), .val (.int ((p0 &&& (65535 : Int32)).toUInt32.toUInt16.toUInt32.toInt32)), .val (.int (f0_s0_18001 p3)), .val (.int (f0_s0_33002 p3)), .val (.ref b7), .val (.int (f0_s0_76004 p0)), .unset, .unset]) rfl ?_
    show Steps p.tables e below (T10.setTop (mkF m 78 #[.val (.int p0), .val (.int p1), .val (.int p2), .val (.int p3), .val (.int ((p0 &&& (65535 : Int32)).toUInt32.toUInt16.toUInt32.toInt32)), .val (.int (f0_s0_18001 p3)), .val (.int (f0_s0_33002 p3)), .val (.ref b7), .val (.int (f0_s0_76004 p0)), .unset, .unset] [])) _
    refine XS.aload X10.here hx rfl (hb hby at_78) rfl rfl ?_
    show Steps p.tables e below (T10.setTop (mkF m 80 #[.val (.int p0), .val (.int p1), .val (.int p2), .val (.int p3), .val (.int ((p0 &&& (65535 : Int32)).toUInt32.toUInt16.toUInt32.toInt32)), .val (.int (f0_s0_18001 p3)), .val (.int (f0_s0_33002 p3)), .val (.ref b7), .val (.int (f0_s0_76004 p0)), .unset, .unset] [(.ref b7)])) _
    refine XS.bipush X10.here hx rfl (hb hby at_80) ?_
    show Steps p.tables e below (T10.setTop (mkF m 82 #[.val (.int p0), .val (.int p1), .val (.int p2), .val (.int p3), .val (.int ((p0 &&& (65535 : Int32)).toUInt32.toUInt16.toUInt32.toInt32)), .val (.int (f0_s0_18001 p3)), .val (.int (f0_s0_33002 p3)), .val (.ref b7), .val (.int (f0_s0_76004 p0)), .unset, .unset] [(.int (91 : Int32)), (.ref b7)])) _
    refine st16.trans ?_
    show Steps p.tables e below (T16.setTop (mkF m 85 #[.val (.int p0), .val (.int p1), .val (.int p2), .val (.int p3), .val (.int ((p0 &&& (65535 : Int32)).toUInt32.toUInt16.toUInt32.toInt32)), .val (.int (f0_s0_18001 p3)), .val (.int (f0_s0_33002 p3)), .val (.ref b7), .val (.int (f0_s0_76004 p0)), .unset, .unset] [])) _
    refine XS.iload X16.here hx rfl (hb hby at_85) rfl ?_
    exact kt)
  by_cases hc18 : (f0_s0_18001 p3) = (0 : Int32)
  · have pre19 : ∀ t, Steps p.tables e below (T16.setTop (mkF m 101 #[.val (.int p0), .val (.int p1), .val (.int p2), .val (.int p3), .val (.int ((p0 &&& (65535 : Int32)).toUInt32.toUInt16.toUInt32.toInt32)), .val (.int (f0_s0_18001 p3)), .val (.int (f0_s0_33002 p3)), .val (.ref b7), .val (.int (f0_s0_76004 p0)), .val (.int ((p1 &&& (65535 : Int32)).toUInt32.toUInt16.toUInt32.toInt32)), .unset] [(.int (39 : Int32)), (.int ((p1 &&& (65535 : Int32)).toUInt32.toUInt16.toUInt32.toInt32))])) t → Steps p.tables e below (s₁.setTop (entryFrame m #[(.int p0), (.int p1), (.int p2), (.int p3)] maxLocals)) t := fun t kt => pre17 t (by
      show Steps p.tables e below (T16.setTop (mkF m 87 #[.val (.int p0), .val (.int p1), .val (.int p2), .val (.int p3), .val (.int ((p0 &&& (65535 : Int32)).toUInt32.toUInt16.toUInt32.toInt32)), .val (.int (f0_s0_18001 p3)), .val (.int (f0_s0_33002 p3)), .val (.ref b7), .val (.int (f0_s0_76004 p0)), .unset, .unset] [(.int (f0_s0_18001 p3))])) _
      refine XS.ifNo X16.here hx rfl (hb hby at_87) rfl ((if0 _ _).trans (teq hc18).2) ?_
      show Steps p.tables e below (T16.setTop (mkF m 90 #[.val (.int p0), .val (.int p1), .val (.int p2), .val (.int p3), .val (.int ((p0 &&& (65535 : Int32)).toUInt32.toUInt16.toUInt32.toInt32)), .val (.int (f0_s0_18001 p3)), .val (.int (f0_s0_33002 p3)), .val (.ref b7), .val (.int (f0_s0_76004 p0)), .unset, .unset] [])) _
      refine XS.iloadN X16.here hx rfl (hb hby at_90) rfl ?_
      show Steps p.tables e below (T16.setTop (mkF m 91 #[.val (.int p0), .val (.int p1), .val (.int p2), .val (.int p3), .val (.int ((p0 &&& (65535 : Int32)).toUInt32.toUInt16.toUInt32.toInt32)), .val (.int (f0_s0_18001 p3)), .val (.int (f0_s0_33002 p3)), .val (.ref b7), .val (.int (f0_s0_76004 p0)), .unset, .unset] [(.int p1)])) _
      refine X16.ldcInt hx hown (mvT hZ (hw _ (List.mem_of_getElem? (i := 0) rfl))) (g := (mkF m 91 #[.val (.int p0), .val (.int p1), .val (.int p2), .val (.int p3), .val (.int ((p0 &&& (65535 : Int32)).toUInt32.toUInt16.toUInt32.toInt32)), .val (.int (f0_s0_18001 p3)), .val (.int (f0_s0_33002 p3)), .val (.ref b7), .val (.int (f0_s0_76004 p0)), .unset, .unset] [(.int p1)])) rfl (hb hby at_91) _ ?_
      show Steps p.tables e below (T16.setTop (mkF m 93 #[.val (.int p0), .val (.int p1), .val (.int p2), .val (.int p3), .val (.int ((p0 &&& (65535 : Int32)).toUInt32.toUInt16.toUInt32.toInt32)), .val (.int (f0_s0_18001 p3)), .val (.int (f0_s0_33002 p3)), .val (.ref b7), .val (.int (f0_s0_76004 p0)), .unset, .unset] [(.int (65535 : Int32)), (.int p1)])) _
      refine XS.iand X16.here hx rfl (hb hby at_93) rfl ?_
      show Steps p.tables e below (T16.setTop (mkF m 94 #[.val (.int p0), .val (.int p1), .val (.int p2), .val (.int p3), .val (.int ((p0 &&& (65535 : Int32)).toUInt32.toUInt16.toUInt32.toInt32)), .val (.int (f0_s0_18001 p3)), .val (.int (f0_s0_33002 p3)), .val (.ref b7), .val (.int (f0_s0_76004 p0)), .unset, .unset] [(.int (p1 &&& (65535 : Int32)))])) _
      refine XS.i2c X16.here hx rfl (hb hby at_94) rfl ?_
      show Steps p.tables e below (T16.setTop (mkF m 95 #[.val (.int p0), .val (.int p1), .val (.int p2), .val (.int p3), .val (.int ((p0 &&& (65535 : Int32)).toUInt32.toUInt16.toUInt32.toInt32)), .val (.int (f0_s0_18001 p3)), .val (.int (f0_s0_33002 p3)), .val (.ref b7), .val (.int (f0_s0_76004 p0)), .unset, .unset] [(.int ((p1 &&& (65535 : Int32)).toUInt32.toUInt16.toUInt32.toInt32))])) _
      refine XS.istore X16.here hx rfl (hb hby at_95) rfl (l' := #[.val (.int p0), .val (.int p1), .val (.int p2), .val (.int p3), .val (.int ((p0 &&& (65535 : Int32)).toUInt32.toUInt16.toUInt32.toInt32)), .val (.int (f0_s0_18001 p3)), .val (.int (f0_s0_33002 p3)), .val (.ref b7), .val (.int (f0_s0_76004 p0)), .val (.int ((p1 &&& (65535 : Int32)).toUInt32.toUInt16.toUInt32.toInt32)), .unset]) rfl ?_
      show Steps p.tables e below (T16.setTop (mkF m 97 #[.val (.int p0), .val (.int p1), .val (.int p2), .val (.int p3), .val (.int ((p0 &&& (65535 : Int32)).toUInt32.toUInt16.toUInt32.toInt32)), .val (.int (f0_s0_18001 p3)), .val (.int (f0_s0_33002 p3)), .val (.ref b7), .val (.int (f0_s0_76004 p0)), .val (.int ((p1 &&& (65535 : Int32)).toUInt32.toUInt16.toUInt32.toInt32)), .unset] [])) _
      refine XS.iload X16.here hx rfl (hb hby at_97) rfl ?_
      show Steps p.tables e below (T16.setTop (mkF m 99 #[.val (.int p0), .val (.int p1), .val (.int p2), .val (.int p3), .val (.int ((p0 &&& (65535 : Int32)).toUInt32.toUInt16.toUInt32.toInt32)), .val (.int (f0_s0_18001 p3)), .val (.int (f0_s0_33002 p3)), .val (.ref b7), .val (.int (f0_s0_76004 p0)), .val (.int ((p1 &&& (65535 : Int32)).toUInt32.toUInt16.toUInt32.toInt32)), .unset] [(.int ((p1 &&& (65535 : Int32)).toUInt32.toUInt16.toUInt32.toInt32))])) _
      refine XS.bipush X16.here hx rfl (hb hby at_99) ?_
      exact kt)
    have pre22 : ∀ t, Steps p.tables e below (T16.setTop (mkF m 115 #[.val (.int p0), .val (.int p1), .val (.int p2), .val (.int p3), .val (.int ((p0 &&& (65535 : Int32)).toUInt32.toUInt16.toUInt32.toInt32)), .val (.int (f0_s0_18001 p3)), .val (.int (f0_s0_33002 p3)), .val (.ref b7), .val (.int (f0_s0_76004 p0)), .val (.int (f0_l9_115005 p1)), .unset] [])) t → Steps p.tables e below (s₁.setTop (entryFrame m #[(.int p0), (.int p1), (.int p2), (.int p3)] maxLocals)) t := by
      intro t kt
      by_cases hc20 : ((p1 &&& (65535 : Int32)).toUInt32.toUInt16.toUInt32.toInt32) = (39 : Int32)
      · have hj : (f0_l9_115005 p1) = (58 : Int32) := by unfold f0_l9_115005; rw [if_pos hc20]
        rw [hj] at kt
        refine pre19 t ?_
        show Steps p.tables e below (T16.setTop (mkF m 101 #[.val (.int p0), .val (.int p1), .val (.int p2), .val (.int p3), .val (.int ((p0 &&& (65535 : Int32)).toUInt32.toUInt16.toUInt32.toInt32)), .val (.int (f0_s0_18001 p3)), .val (.int (f0_s0_33002 p3)), .val (.ref b7), .val (.int (f0_s0_76004 p0)), .val (.int ((p1 &&& (65535 : Int32)).toUInt32.toUInt16.toUInt32.toInt32)), .unset] [(.int (39 : Int32)), (.int ((p1 &&& (65535 : Int32)).toUInt32.toUInt16.toUInt32.toInt32))])) _
        refine XS.icmpYes X16.here hx rfl (pc0 := 101) (pc' := 111) rfl (hb hby at_101) rfl (teq hc20).1 (by decide) (by decide) ?_
        show Steps p.tables e below (T16.setTop (mkF m 111 #[.val (.int p0), .val (.int p1), .val (.int p2), .val (.int p3), .val (.int ((p0 &&& (65535 : Int32)).toUInt32.toUInt16.toUInt32.toInt32)), .val (.int (f0_s0_18001 p3)), .val (.int (f0_s0_33002 p3)), .val (.ref b7), .val (.int (f0_s0_76004 p0)), .val (.int ((p1 &&& (65535 : Int32)).toUInt32.toUInt16.toUInt32.toInt32)), .unset] [])) _
        refine XS.bipush X16.here hx rfl (hb hby at_111) ?_
        show Steps p.tables e below (T16.setTop (mkF m 113 #[.val (.int p0), .val (.int p1), .val (.int p2), .val (.int p3), .val (.int ((p0 &&& (65535 : Int32)).toUInt32.toUInt16.toUInt32.toInt32)), .val (.int (f0_s0_18001 p3)), .val (.int (f0_s0_33002 p3)), .val (.ref b7), .val (.int (f0_s0_76004 p0)), .val (.int ((p1 &&& (65535 : Int32)).toUInt32.toUInt16.toUInt32.toInt32)), .unset] [(.int (58 : Int32))])) _
        refine XS.istore X16.here hx rfl (hb hby at_113) rfl (l' := #[.val (.int p0), .val (.int p1), .val (.int p2), .val (.int p3), .val (.int ((p0 &&& (65535 : Int32)).toUInt32.toUInt16.toUInt32.toInt32)), .val (.int (f0_s0_18001 p3)), .val (.int (f0_s0_33002 p3)), .val (.ref b7), .val (.int (f0_s0_76004 p0)), .val (.int (58 : Int32)), .unset]) rfl ?_
        exact kt
      · by_cases hc21 : ((p1 &&& (65535 : Int32)).toUInt32.toUInt16.toUInt32.toInt32) = (34 : Int32)
        · have hj : (f0_l9_115005 p1) = (58 : Int32) := by unfold f0_l9_115005; rw [if_neg hc20, if_pos hc21]
          rw [hj] at kt
          refine pre19 t ?_
          show Steps p.tables e below (T16.setTop (mkF m 101 #[.val (.int p0), .val (.int p1), .val (.int p2), .val (.int p3), .val (.int ((p0 &&& (65535 : Int32)).toUInt32.toUInt16.toUInt32.toInt32)), .val (.int (f0_s0_18001 p3)), .val (.int (f0_s0_33002 p3)), .val (.ref b7), .val (.int (f0_s0_76004 p0)), .val (.int ((p1 &&& (65535 : Int32)).toUInt32.toUInt16.toUInt32.toInt32)), .unset] [(.int (39 : Int32)), (.int ((p1 &&& (65535 : Int32)).toUInt32.toUInt16.toUInt32.toInt32))])) _
          refine XS.icmpNo X16.here hx rfl (hb hby at_101) rfl (feq hc20).1 ?_
          show Steps p.tables e below (T16.setTop (mkF m 104 #[.val (.int p0), .val (.int p1), .val (.int p2), .val (.int p3), .val (.int ((p0 &&& (65535 : Int32)).toUInt32.toUInt16.toUInt32.toInt32)), .val (.int (f0_s0_18001 p3)), .val (.int (f0_s0_33002 p3)), .val (.ref b7), .val (.int (f0_s0_76004 p0)), .val (.int ((p1 &&& (65535 : Int32)).toUInt32.toUInt16.toUInt32.toInt32)), .unset] [])) _
          refine XS.iload X16.here hx rfl (hb hby at_104) rfl ?_
          show Steps p.tables e below (T16.setTop (mkF m 106 #[.val (.int p0), .val (.int p1), .val (.int p2), .val (.int p3), .val (.int ((p0 &&& (65535 : Int32)).toUInt32.toUInt16.toUInt32.toInt32)), .val (.int (f0_s0_18001 p3)), .val (.int (f0_s0_33002 p3)), .val (.ref b7), .val (.int (f0_s0_76004 p0)), .val (.int ((p1 &&& (65535 : Int32)).toUInt32.toUInt16.toUInt32.toInt32)), .unset] [(.int ((p1 &&& (65535 : Int32)).toUInt32.toUInt16.toUInt32.toInt32))])) _
          refine XS.bipush X16.here hx rfl (hb hby at_106) ?_
          show Steps p.tables e below (T16.setTop (mkF m 108 #[.val (.int p0), .val (.int p1), .val (.int p2), .val (.int p3), .val (.int ((p0 &&& (65535 : Int32)).toUInt32.toUInt16.toUInt32.toInt32)), .val (.int (f0_s0_18001 p3)), .val (.int (f0_s0_33002 p3)), .val (.ref b7), .val (.int (f0_s0_76004 p0)), .val (.int ((p1 &&& (65535 : Int32)).toUInt32.toUInt16.toUInt32.toInt32)), .unset] [(.int (34 : Int32)), (.int ((p1 &&& (65535 : Int32)).toUInt32.toUInt16.toUInt32.toInt32))])) _
          refine XS.icmpNo X16.here hx rfl (hb hby at_108) rfl (teq hc21).2 ?_
          show Steps p.tables e below (T16.setTop (mkF m 111 #[.val (.int p0), .val (.int p1), .val (.int p2), .val (.int p3), .val (.int ((p0 &&& (65535 : Int32)).toUInt32.toUInt16.toUInt32.toInt32)), .val (.int (f0_s0_18001 p3)), .val (.int (f0_s0_33002 p3)), .val (.ref b7), .val (.int (f0_s0_76004 p0)), .val (.int ((p1 &&& (65535 : Int32)).toUInt32.toUInt16.toUInt32.toInt32)), .unset] [])) _
          refine XS.bipush X16.here hx rfl (hb hby at_111) ?_
          show Steps p.tables e below (T16.setTop (mkF m 113 #[.val (.int p0), .val (.int p1), .val (.int p2), .val (.int p3), .val (.int ((p0 &&& (65535 : Int32)).toUInt32.toUInt16.toUInt32.toInt32)), .val (.int (f0_s0_18001 p3)), .val (.int (f0_s0_33002 p3)), .val (.ref b7), .val (.int (f0_s0_76004 p0)), .val (.int ((p1 &&& (65535 : Int32)).toUInt32.toUInt16.toUInt32.toInt32)), .unset] [(.int (58 : Int32))])) _
          refine XS.istore X16.here hx rfl (hb hby at_113) rfl (l' := #[.val (.int p0), .val (.int p1), .val (.int p2), .val (.int p3), .val (.int ((p0 &&& (65535 : Int32)).toUInt32.toUInt16.toUInt32.toInt32)), .val (.int (f0_s0_18001 p3)), .val (.int (f0_s0_33002 p3)), .val (.ref b7), .val (.int (f0_s0_76004 p0)), .val (.int (58 : Int32)), .unset]) rfl ?_
          exact kt
        · have hj : (f0_l9_115005 p1) = ((p1 &&& (65535 : Int32)).toUInt32.toUInt16.toUInt32.toInt32) := by unfold f0_l9_115005; rw [if_neg hc20, if_neg hc21]
          rw [hj] at kt
          refine pre19 t ?_
          show Steps p.tables e below (T16.setTop (mkF m 101 #[.val (.int p0), .val (.int p1), .val (.int p2), .val (.int p3), .val (.int ((p0 &&& (65535 : Int32)).toUInt32.toUInt16.toUInt32.toInt32)), .val (.int (f0_s0_18001 p3)), .val (.int (f0_s0_33002 p3)), .val (.ref b7), .val (.int (f0_s0_76004 p0)), .val (.int ((p1 &&& (65535 : Int32)).toUInt32.toUInt16.toUInt32.toInt32)), .unset] [(.int (39 : Int32)), (.int ((p1 &&& (65535 : Int32)).toUInt32.toUInt16.toUInt32.toInt32))])) _
          refine XS.icmpNo X16.here hx rfl (hb hby at_101) rfl (feq hc20).1 ?_
          show Steps p.tables e below (T16.setTop (mkF m 104 #[.val (.int p0), .val (.int p1), .val (.int p2), .val (.int p3), .val (.int ((p0 &&& (65535 : Int32)).toUInt32.toUInt16.toUInt32.toInt32)), .val (.int (f0_s0_18001 p3)), .val (.int (f0_s0_33002 p3)), .val (.ref b7), .val (.int (f0_s0_76004 p0)), .val (.int ((p1 &&& (65535 : Int32)).toUInt32.toUInt16.toUInt32.toInt32)), .unset] [])) _
          refine XS.iload X16.here hx rfl (hb hby at_104) rfl ?_
          show Steps p.tables e below (T16.setTop (mkF m 106 #[.val (.int p0), .val (.int p1), .val (.int p2), .val (.int p3), .val (.int ((p0 &&& (65535 : Int32)).toUInt32.toUInt16.toUInt32.toInt32)), .val (.int (f0_s0_18001 p3)), .val (.int (f0_s0_33002 p3)), .val (.ref b7), .val (.int (f0_s0_76004 p0)), .val (.int ((p1 &&& (65535 : Int32)).toUInt32.toUInt16.toUInt32.toInt32)), .unset] [(.int ((p1 &&& (65535 : Int32)).toUInt32.toUInt16.toUInt32.toInt32))])) _
          refine XS.bipush X16.here hx rfl (hb hby at_106) ?_
          show Steps p.tables e below (T16.setTop (mkF m 108 #[.val (.int p0), .val (.int p1), .val (.int p2), .val (.int p3), .val (.int ((p0 &&& (65535 : Int32)).toUInt32.toUInt16.toUInt32.toInt32)), .val (.int (f0_s0_18001 p3)), .val (.int (f0_s0_33002 p3)), .val (.ref b7), .val (.int (f0_s0_76004 p0)), .val (.int ((p1 &&& (65535 : Int32)).toUInt32.toUInt16.toUInt32.toInt32)), .unset] [(.int (34 : Int32)), (.int ((p1 &&& (65535 : Int32)).toUInt32.toUInt16.toUInt32.toInt32))])) _
          refine XS.icmpYes X16.here hx rfl (pc0 := 108) (pc' := 115) rfl (hb hby at_108) rfl (feq hc21).2 (by decide) (by decide) ?_
          exact kt
    obtain ⟨cq23, kq23, q23a, q23b, q23c⟩ := isOf hZ rfl E16q
    obtain ⟨_, _, ⟨T23, L23, k23, n23⟩, -, X23, ⟨Lc23, hQ23, l23, y23, z23⟩, st23⟩ := X16.virtualBack hx (y := (⟨"com/example/libinterp/libinterp/PathParser$SelectorScan", "read", "(C)V"⟩ : MethodName)) (z := (⟨"com/example/libinterp/libinterp/PathParser$SelectorScan", "read", "(C)V"⟩ : MethodName)) hown (mvT hZ (hw _ (List.mem_of_getElem? (i := 12) rfl))) (mvT hZ (hw _ (List.mem_of_getElem? (i := 13) rfl))) (notFace_of_selects (args := #[]) (mvT hZ (hw _ (List.mem_of_getElem? (i := 15) rfl)))) (mvT hZ (hw _ (List.mem_of_getElem? (i := 15) rfl))) (mvT hZ (hw _ (List.mem_of_getElem? (i := 14) rfl))) (by decide) (backOf (W := 0) (rm3 l Z a0 hw [] b7 (f0_l9_115005 p1) (f3_quote (91 : Int32) (f0_e1 p0) (f0_e2 p0) (f0_e3 p0)) (f3_inSelector (91 : Int32) (f0_e1 p0) (f0_e2 p0) (f0_e3 p0)) (f3_escaping (91 : Int32) (f0_e1 p0) (f0_e2 p0) (f0_e3 p0)) T16.heap n0 Zz16 E16q gn_b7 F16q_quote F16q_inSelector F16q_escaping) hZ (hw _ (List.mem_of_getElem? (i := 16) rfl)) (hw _ (List.mem_of_getElem? (i := 3) rfl)) (by decide) (by decide)) q23a q23c (g := (mkF m 119 #[.val (.int p0), .val (.int p1), .val (.int p2), .val (.int p3), .val (.int ((p0 &&& (65535 : Int32)).toUInt32.toUInt16.toUInt32.toInt32)), .val (.int (f0_s0_18001 p3)), .val (.int (f0_s0_33002 p3)), .val (.ref b7), .val (.int (f0_s0_76004 p0)), .val (.int (f0_l9_115005 p1)), .unset] [(.int (f0_l9_115005 p1)), (.ref b7)])) rfl (by rw [hml]; rfl) (Steps.refl _) (argsL := [(.int (f0_l9_115005 p1))]) (rest := []) (lenOf pd_1 rfl) rfl (by show 2 * 0 + _ ≤ _; exact Nat.le_of_eq rfl) (hb hby at_119) (fun _ _ => ⟨rfl, rfl, (by decide : 1 + 0 ≤ _), (by decide : 3 + 0 ≤ _)⟩)
    dsimp only [Pt.U, Pt.locs, Pt.cells, Pt.slots] at X23 l23 y23 z23 st23 hQ23
    subst l23 y23 z23
    obtain ⟨rfl, N23q, K23q, E23q, F23q_quote, F23q_inSelector, F23q_escaping⟩ := hQ23
    have F23n_quote : Fld Z T23.heap b7 "com/example/libinterp/libinterp/PathParser$SelectorScan" "quote" "C" (.int (f0_e4 p0 p1)) := F23q_quote
    have F23n_inSelector : Fld Z T23.heap b7 "com/example/libinterp/libinterp/PathParser$SelectorScan" "inSelector" "Z" (.int (f0_e5 p0 p1)) := F23q_inSelector
    have F23n_escaping : Fld Z T23.heap b7 "com/example/libinterp/libinterp/PathParser$SelectorScan" "escaping" "Z" (.int (f0_e6 p0 p1)) := F23q_escaping
    have Zz23 := Nat.le_trans Zz16 K23q.1
    have K23 : Keep h0 T23.heap [] := K16.trans K23q (allS (Or.inr sz_b7) all0)
    have N23 := Fr.app N16 N23q
    have pre24 : ∀ t, Steps p.tables e below (T23.setTop (mkF m 124 #[.val (.int p0), .val (.int p1), .val (.int p2), .val (.int p3), .val (.int ((p0 &&& (65535 : Int32)).toUInt32.toUInt16.toUInt32.toInt32)), .val (.int (f0_s0_18001 p3)), .val (.int (f0_s0_33002 p3)), .val (.ref b7), .val (.int (f0_s0_76004 p0)), .val (.int (f0_l9_115005 p1)), .unset] [(.int (f0_s0_76004 p0))])) t → Steps p.tables e below (s₁.setTop (entryFrame m #[(.int p0), (.int p1), (.int p2), (.int p3)] maxLocals)) t := fun t kt => pre22 t (by
      show Steps p.tables e below (T16.setTop (mkF m 115 #[.val (.int p0), .val (.int p1), .val (.int p2), .val (.int p3), .val (.int ((p0 &&& (65535 : Int32)).toUInt32.toUInt16.toUInt32.toInt32)), .val (.int (f0_s0_18001 p3)), .val (.int (f0_s0_33002 p3)), .val (.ref b7), .val (.int (f0_s0_76004 p0)), .val (.int (f0_l9_115005 p1)), .unset] [])) _
      refine XS.aload X16.here hx rfl (hb hby at_115) rfl rfl ?_
      show Steps p.tables e below (T16.setTop (mkF m 117 #[.val (.int p0), .val (.int p1), .val (.int p2), .val (.int p3), .val (.int ((p0 &&& (65535 : Int32)).toUInt32.toUInt16.toUInt32.toInt32)), .val (.int (f0_s0_18001 p3)), .val (.int (f0_s0_33002 p3)), .val (.ref b7), .val (.int (f0_s0_76004 p0)), .val (.int (f0_l9_115005 p1)), .unset] [(.ref b7)])) _
      refine XS.iload X16.here hx rfl (hb hby at_117) rfl ?_
      show Steps p.tables e below (T16.setTop (mkF m 119 #[.val (.int p0), .val (.int p1), .val (.int p2), .val (.int p3), .val (.int ((p0 &&& (65535 : Int32)).toUInt32.toUInt16.toUInt32.toInt32)), .val (.int (f0_s0_18001 p3)), .val (.int (f0_s0_33002 p3)), .val (.ref b7), .val (.int (f0_s0_76004 p0)), .val (.int (f0_l9_115005 p1)), .unset] [(.int (f0_l9_115005 p1)), (.ref b7)])) _
      refine st23.trans ?_
      show Steps p.tables e below (T23.setTop (mkF m 122 #[.val (.int p0), .val (.int p1), .val (.int p2), .val (.int p3), .val (.int ((p0 &&& (65535 : Int32)).toUInt32.toUInt16.toUInt32.toInt32)), .val (.int (f0_s0_18001 p3)), .val (.int (f0_s0_33002 p3)), .val (.ref b7), .val (.int (f0_s0_76004 p0)), .val (.int (f0_l9_115005 p1)), .unset] [])) _
      refine XS.iload X23.here hx rfl (hb hby at_122) rfl ?_
      exact kt)
    obtain ⟨T32, L32, X32, e32, N32, pre32⟩ : ∃ (T' : State) (L' : List Loc), Stand p l e room_1 s m #[(.int p0), (.int p1), (.int p2), (.int p3)] below meth c T' L' 1 3 ∧ T'.heap = T23.heap ∧ Fr n0 L' ∧ ∀ t, Steps p.tables e below (T'.setTop (mkF m 152 #[.val (.int p0), .val (.int p1), .val (.int p2), .val (.int p3), .val (.int ((p0 &&& (65535 : Int32)).toUInt32.toUInt16.toUInt32.toInt32)), .val (.int (f0_s0_18001 p3)), .val (.int (f0_s0_33002 p3)), .val (.ref b7), .val (.int (f0_s0_76004 p0)), .val (.int (f0_l9_115005 p1)), .unset] [(.int (f0_s0_152008 p0 p1))])) t → Steps p.tables e below (s₁.setTop (entryFrame m #[(.int p0), (.int p1), (.int p2), (.int p3)] maxLocals)) t := by
      by_cases hc25 : (f0_s0_76004 p0) = (0 : Int32)
      · refine ⟨T23, _, X23, rfl, N23, fun t kt => ?_⟩
        have hj : (f0_s0_152008 p0 p1) = (0 : Int32) := by unfold f0_s0_152008; rw [if_pos hc25]
        rw [hj] at kt
        refine pre24 t ?_
        show Steps p.tables e below (T23.setTop (mkF m 124 #[.val (.int p0), .val (.int p1), .val (.int p2), .val (.int p3), .val (.int ((p0 &&& (65535 : Int32)).toUInt32.toUInt16.toUInt32.toInt32)), .val (.int (f0_s0_18001 p3)), .val (.int (f0_s0_33002 p3)), .val (.ref b7), .val (.int (f0_s0_76004 p0)), .val (.int (f0_l9_115005 p1)), .unset] [(.int (f0_s0_76004 p0))])) _
        refine XS.ifYes X23.here hx rfl (pc0 := 124) (pc' := 151) rfl (hb hby at_124) rfl ((if0 _ _).trans (teq hc25).1) (by decide) (by decide) ?_
        show Steps p.tables e below (T23.setTop (mkF m 151 #[.val (.int p0), .val (.int p1), .val (.int p2), .val (.int p3), .val (.int ((p0 &&& (65535 : Int32)).toUInt32.toUInt16.toUInt32.toInt32)), .val (.int (f0_s0_18001 p3)), .val (.int (f0_s0_33002 p3)), .val (.ref b7), .val (.int (f0_s0_76004 p0)), .val (.int (f0_l9_115005 p1)), .unset] [])) _
        refine XS.iconst X23.here hx rfl (hb hby at_151) ?_
        exact kt
      · obtain ⟨cq26, kq26, q26a, q26b, q26c⟩ := isOf hZ rfl E23q
        obtain ⟨_, _, ⟨T26, L26, k26, n26⟩, -, X26, ⟨Lc26, hQ26, l26, y26, z26⟩, st26⟩ := X23.virtualBack hx (y := (⟨"com/example/libinterp/libinterp/PathParser$SelectorScan", "isOutside", "()Z"⟩ : MethodName)) (z := (⟨"com/example/libinterp/libinterp/PathParser$SelectorScan", "isOutside", "()Z"⟩ : MethodName)) hown (mvT hZ (hw _ (List.mem_of_getElem? (i := 19) rfl))) (mvT hZ (hw _ (List.mem_of_getElem? (i := 20) rfl))) (notFace_of_selects (args := #[]) (mvT hZ (hw _ (List.mem_of_getElem? (i := 22) rfl)))) (mvT hZ (hw _ (List.mem_of_getElem? (i := 22) rfl))) (mvT hZ (hw _ (List.mem_of_getElem? (i := 21) rfl))) (by decide) (backOf (W := 0) (rm4 l Z a0 hw [] b7 (f0_e4 p0 p1) (f0_e5 p0 p1) (f0_e6 p0 p1) T23.heap n0 Zz23 E23q gn_b7 F23n_quote F23n_inSelector F23n_escaping) hZ (hw _ (List.mem_of_getElem? (i := 23) rfl)) (hw _ (List.mem_of_getElem? (i := 3) rfl)) (by decide) (by decide)) q26a q26c (g := (mkF m 129 #[.val (.int p0), .val (.int p1), .val (.int p2), .val (.int p3), .val (.int ((p0 &&& (65535 : Int32)).toUInt32.toUInt16.toUInt32.toInt32)), .val (.int (f0_s0_18001 p3)), .val (.int (f0_s0_33002 p3)), .val (.ref b7), .val (.int (f0_s0_76004 p0)), .val (.int (f0_l9_115005 p1)), .unset] [(.ref b7)])) rfl (by rw [hml]; rfl) (Steps.refl _) (argsL := []) (rest := []) (lenOf pd_3 rfl) rfl (by show 2 * 0 + _ ≤ _; exact Nat.le_of_eq rfl) (hb hby at_129) (fun _ _ => ⟨rfl, rfl, (by decide : 1 + 0 ≤ _), (by decide : 3 + 0 ≤ _)⟩)
        dsimp only [Pt.U, Pt.locs, Pt.cells, Pt.slots] at X26 l26 y26 z26 st26 hQ26
        subst l26 y26 z26
        obtain ⟨rfl, N26q, e26⟩ := hQ26
        have N26 := Fr.app N23 N26q
        have pre27 : ∀ t, Steps p.tables e below (T26.setTop (mkF m 136 #[.val (.int p0), .val (.int p1), .val (.int p2), .val (.int p3), .val (.int ((p0 &&& (65535 : Int32)).toUInt32.toUInt16.toUInt32.toInt32)), .val (.int (f0_s0_18001 p3)), .val (.int (f0_s0_33002 p3)), .val (.ref b7), .val (.int (f0_s0_76004 p0)), .val (.int (f0_l9_115005 p1)), .unset] [(.int (93 : Int32)), (.int (f0_l9_115005 p1)), (.int (f4 (f0_e4 p0 p1) (f0_e5 p0 p1) (f0_e6 p0 p1)))])) t → Steps p.tables e below (s₁.setTop (entryFrame m #[(.int p0), (.int p1), (.int p2), (.int p3)] maxLocals)) t := fun t kt => pre24 t (by
          show Steps p.tables e below (T23.setTop (mkF m 124 #[.val (.int p0), .val (.int p1), .val (.int p2), .val (.int p3), .val (.int ((p0 &&& (65535 : Int32)).toUInt32.toUInt16.toUInt32.toInt32)), .val (.int (f0_s0_18001 p3)), .val (.int (f0_s0_33002 p3)), .val (.ref b7), .val (.int (f0_s0_76004 p0)), .val (.int (f0_l9_115005 p1)), .unset] [(.int (f0_s0_76004 p0))])) _
          refine XS.ifNo X23.here hx rfl (hb hby at_124) rfl ((if0 _ _).trans (feq hc25).1) ?_
          show Steps p.tables e below (T23.setTop (mkF m 127 #[.val (.int p0), .val (.int p1), .val (.int p2), .val (.int p3), .val (.int ((p0 &&& (65535 : Int32)).toUInt32.toUInt16.toUInt32.toInt32)), .val (.int (f0_s0_18001 p3)), .val (.int (f0_s0_33002 p3)), .val (.ref b7), .val (.int (f0_s0_76004 p0)), .val (.int (f0_l9_115005 p1)), .unset] [])) _
          refine XS.aload X23.here hx rfl (hb hby at_127) rfl rfl ?_
          show Steps p.tables e below (T23.setTop (mkF m 129 #[.val (.int p0), .val (.int p1), .val (.int p2), .val (.int p3), .val (.int ((p0 &&& (65535 : Int32)).toUInt32.toUInt16.toUInt32.toInt32)), .val (.int (f0_s0_18001 p3)), .val (.int (f0_s0_33002 p3)), .val (.ref b7), .val (.int (f0_s0_76004 p0)), .val (.int (f0_l9_115005 p1)), .unset] [(.ref b7)])) _
          refine st26.trans ?_
          show Steps p.tables e below (T26.setTop (mkF m 132 #[.val (.int p0), .val (.int p1), .val (.int p2), .val (.int p3), .val (.int ((p0 &&& (65535 : Int32)).toUInt32.toUInt16.toUInt32.toInt32)), .val (.int (f0_s0_18001 p3)), .val (.int (f0_s0_33002 p3)), .val (.ref b7), .val (.int (f0_s0_76004 p0)), .val (.int (f0_l9_115005 p1)), .unset] [(.int (f4 (f0_e4 p0 p1) (f0_e5 p0 p1) (f0_e6 p0 p1)))])) _
          refine XS.iload X26.here hx rfl (hb hby at_132) rfl ?_
          show Steps p.tables e below (T26.setTop (mkF m 134 #[.val (.int p0), .val (.int p1), .val (.int p2), .val (.int p3), .val (.int ((p0 &&& (65535 : Int32)).toUInt32.toUInt16.toUInt32.toInt32)), .val (.int (f0_s0_18001 p3)), .val (.int (f0_s0_33002 p3)), .val (.ref b7), .val (.int (f0_s0_76004 p0)), .val (.int (f0_l9_115005 p1)), .unset] [(.int (f0_l9_115005 p1)), (.int (f4 (f0_e4 p0 p1) (f0_e5 p0 p1) (f0_e6 p0 p1)))])) _
          refine XS.bipush X26.here hx rfl (hb hby at_134) ?_
          exact kt)
        have pre29 : ∀ t, Steps p.tables e below (T26.setTop (mkF m 144 #[.val (.int p0), .val (.int p1), .val (.int p2), .val (.int p3), .val (.int ((p0 &&& (65535 : Int32)).toUInt32.toUInt16.toUInt32.toInt32)), .val (.int (f0_s0_18001 p3)), .val (.int (f0_s0_33002 p3)), .val (.ref b7), .val (.int (f0_s0_76004 p0)), .val (.int (f0_l9_115005 p1)), .unset] [(.int (f0_s0_144006 p1)), (.int (f4 (f0_e4 p0 p1) (f0_e5 p0 p1) (f0_e6 p0 p1)))])) t → Steps p.tables e below (s₁.setTop (entryFrame m #[(.int p0), (.int p1), (.int p2), (.int p3)] maxLocals)) t := by
          intro t kt
          by_cases hc28 : (f0_l9_115005 p1) = (93 : Int32)
          · have hj : (f0_s0_144006 p1) = (1 : Int32) := by unfold f0_s0_144006; rw [if_pos hc28]
            rw [hj] at kt
            refine pre27 t ?_
            show Steps p.tables e below (T26.setTop (mkF m 136 #[.val (.int p0), .val (.int p1), .val (.int p2), .val (.int p3), .val (.int ((p0 &&& (65535 : Int32)).toUInt32.toUInt16.toUInt32.toInt32)), .val (.int (f0_s0_18001 p3)), .val (.int (f0_s0_33002 p3)), .val (.ref b7), .val (.int (f0_s0_76004 p0)), .val (.int (f0_l9_115005 p1)), .unset] [(.int (93 : Int32)), (.int (f0_l9_115005 p1)), (.int (f4 (f0_e4 p0 p1) (f0_e5 p0 p1) (f0_e6 p0 p1)))])) _
            refine XS.icmpNo X26.here hx rfl (hb hby at_136) rfl (teq hc28).2 ?_
            show Steps p.tables e below (T26.setTop (mkF m 139 #[.val (.int p0), .val (.int p1), .val (.int p2), .val (.int p3), .val (.int ((p0 &&& (65535 : Int32)).toUInt32.toUInt16.toUInt32.toInt32)), .val (.int (f0_s0_18001 p3)), .val (.int (f0_s0_33002 p3)), .val (.ref b7), .val (.int (f0_s0_76004 p0)), .val (.int (f0_l9_115005 p1)), .unset] [(.int (f4 (f0_e4 p0 p1) (f0_e5 p0 p1) (f0_e6 p0 p1)))])) _
            refine XS.iconst X26.here hx rfl (hb hby at_139) ?_
            show Steps p.tables e below (T26.setTop (mkF m 140 #[.val (.int p0), .val (.int p1), .val (.int p2), .val (.int p3), .val (.int ((p0 &&& (65535 : Int32)).toUInt32.toUInt16.toUInt32.toInt32)), .val (.int (f0_s0_18001 p3)), .val (.int (f0_s0_33002 p3)), .val (.ref b7), .val (.int (f0_s0_76004 p0)), .val (.int (f0_l9_115005 p1)), .unset] [(.int (1 : Int32)), (.int (f4 (f0_e4 p0 p1) (f0_e5 p0 p1) (f0_e6 p0 p1)))])) _
            refine XS.goto X26.here hx rfl (pc0 := 140) (pc' := 144) rfl (hb hby at_140) (by decide) (by decide) ?_
            exact kt
          · have hj : (f0_s0_144006 p1) = (0 : Int32) := by unfold f0_s0_144006; rw [if_neg hc28]
            rw [hj] at kt
            refine pre27 t ?_
            show Steps p.tables e below (T26.setTop (mkF m 136 #[.val (.int p0), .val (.int p1), .val (.int p2), .val (.int p3), .val (.int ((p0 &&& (65535 : Int32)).toUInt32.toUInt16.toUInt32.toInt32)), .val (.int (f0_s0_18001 p3)), .val (.int (f0_s0_33002 p3)), .val (.ref b7), .val (.int (f0_s0_76004 p0)), .val (.int (f0_l9_115005 p1)), .unset] [(.int (93 : Int32)), (.int (f0_l9_115005 p1)), (.int (f4 (f0_e4 p0 p1) (f0_e5 p0 p1) (f0_e6 p0 p1)))])) _
            refine XS.icmpYes X26.here hx rfl (pc0 := 136) (pc' := 143) rfl (hb hby at_136) rfl (feq hc28).2 (by decide) (by decide) ?_
            show Steps p.tables e below (T26.setTop (mkF m 143 #[.val (.int p0), .val (.int p1), .val (.int p2), .val (.int p3), .val (.int ((p0 &&& (65535 : Int32)).toUInt32.toUInt16.toUInt32.toInt32)), .val (.int (f0_s0_18001 p3)), .val (.int (f0_s0_33002 p3)), .val (.ref b7), .val (.int (f0_s0_76004 p0)), .val (.int (f0_l9_115005 p1)), .unset] [(.int (f4 (f0_e4 p0 p1) (f0_e5 p0 p1) (f0_e6 p0 p1)))])) _
            refine XS.iconst X26.here hx rfl (hb hby at_143) ?_
            exact kt
        have pre31 : ∀ t, Steps p.tables e below (T26.setTop (mkF m 152 #[.val (.int p0), .val (.int p1), .val (.int p2), .val (.int p3), .val (.int ((p0 &&& (65535 : Int32)).toUInt32.toUInt16.toUInt32.toInt32)), .val (.int (f0_s0_18001 p3)), .val (.int (f0_s0_33002 p3)), .val (.ref b7), .val (.int (f0_s0_76004 p0)), .val (.int (f0_l9_115005 p1)), .unset] [(.int (f0_s0_152007 p0 p1))])) t → Steps p.tables e below (s₁.setTop (entryFrame m #[(.int p0), (.int p1), (.int p2), (.int p3)] maxLocals)) t := by
          intro t kt
          by_cases hc30 : (f4 (f0_e4 p0 p1) (f0_e5 p0 p1) (f0_e6 p0 p1)) = (f0_s0_144006 p1)
          · have hj : (f0_s0_152007 p0 p1) = (1 : Int32) := by unfold f0_s0_152007; rw [if_pos hc30]
            rw [hj] at kt
            refine pre29 t ?_
            show Steps p.tables e below (T26.setTop (mkF m 144 #[.val (.int p0), .val (.int p1), .val (.int p2), .val (.int p3), .val (.int ((p0 &&& (65535 : Int32)).toUInt32.toUInt16.toUInt32.toInt32)), .val (.int (f0_s0_18001 p3)), .val (.int (f0_s0_33002 p3)), .val (.ref b7), .val (.int (f0_s0_76004 p0)), .val (.int (f0_l9_115005 p1)), .unset] [(.int (f0_s0_144006 p1)), (.int (f4 (f0_e4 p0 p1) (f0_e5 p0 p1) (f0_e6 p0 p1)))])) _
            refine XS.icmpNo X26.here hx rfl (hb hby at_144) rfl (teq hc30).2 ?_
            show Steps p.tables e below (T26.setTop (mkF m 147 #[.val (.int p0), .val (.int p1), .val (.int p2), .val (.int p3), .val (.int ((p0 &&& (65535 : Int32)).toUInt32.toUInt16.toUInt32.toInt32)), .val (.int (f0_s0_18001 p3)), .val (.int (f0_s0_33002 p3)), .val (.ref b7), .val (.int (f0_s0_76004 p0)), .val (.int (f0_l9_115005 p1)), .unset] [])) _
            refine XS.iconst X26.here hx rfl (hb hby at_147) ?_
            show Steps p.tables e below (T26.setTop (mkF m 148 #[.val (.int p0), .val (.int p1), .val (.int p2), .val (.int p3), .val (.int ((p0 &&& (65535 : Int32)).toUInt32.toUInt16.toUInt32.toInt32)), .val (.int (f0_s0_18001 p3)), .val (.int (f0_s0_33002 p3)), .val (.ref b7), .val (.int (f0_s0_76004 p0)), .val (.int (f0_l9_115005 p1)), .unset] [(.int (1 : Int32))])) _
            refine XS.goto X26.here hx rfl (pc0 := 148) (pc' := 152) rfl (hb hby at_148) (by decide) (by decide) ?_
            exact kt
          · have hj : (f0_s0_152007 p0 p1) = (0 : Int32) := by unfold f0_s0_152007; rw [if_neg hc30]
            rw [hj] at kt
            refine pre29 t ?_
            show Steps p.tables e below (T26.setTop (mkF m 144 #[.val (.int p0), .val (.int p1), .val (.int p2), .val (.int p3), .val (.int ((p0 &&& (65535 : Int32)).toUInt32.toUInt16.toUInt32.toInt32)), .val (.int (f0_s0_18001 p3)), .val (.int (f0_s0_33002 p3)), .val (.ref b7), .val (.int (f0_s0_76004 p0)), .val (.int (f0_l9_115005 p1)), .unset] [(.int (f0_s0_144006 p1)), (.int (f4 (f0_e4 p0 p1) (f0_e5 p0 p1) (f0_e6 p0 p1)))])) _
            refine XS.icmpYes X26.here hx rfl (pc0 := 144) (pc' := 151) rfl (hb hby at_144) rfl (feq hc30).2 (by decide) (by decide) ?_
            show Steps p.tables e below (T26.setTop (mkF m 151 #[.val (.int p0), .val (.int p1), .val (.int p2), .val (.int p3), .val (.int ((p0 &&& (65535 : Int32)).toUInt32.toUInt16.toUInt32.toInt32)), .val (.int (f0_s0_18001 p3)), .val (.int (f0_s0_33002 p3)), .val (.ref b7), .val (.int (f0_s0_76004 p0)), .val (.int (f0_l9_115005 p1)), .unset] [])) _
            refine XS.iconst X26.here hx rfl (hb hby at_151) ?_
            exact kt
        refine ⟨T26, _, X26, e26, N26, fun t kt => ?_⟩
        have hj : (f0_s0_152008 p0 p1) = (f0_s0_152007 p0 p1) := by unfold f0_s0_152008; rw [if_neg hc25]
        rw [hj] at kt
        refine pre31 t ?_
        exact kt
    obtain ⟨cq33, kq33, q33a, q33b, q33c⟩ := isOf hZ e32 E23q
    obtain ⟨_, _, ⟨T33, L33, k33, n33⟩, -, X33, ⟨Lc33, hQ33, l33, y33, z33⟩, st33⟩ := X32.virtualBack hx (y := (⟨"com/example/libinterp/libinterp/PathParser$SelectorScan", "read", "(C)V"⟩ : MethodName)) (z := (⟨"com/example/libinterp/libinterp/PathParser$SelectorScan", "read", "(C)V"⟩ : MethodName)) hown (mvT hZ (hw _ (List.mem_of_getElem? (i := 12) rfl))) (mvT hZ (hw _ (List.mem_of_getElem? (i := 13) rfl))) (notFace_of_selects (args := #[]) (mvT hZ (hw _ (List.mem_of_getElem? (i := 15) rfl)))) (mvT hZ (hw _ (List.mem_of_getElem? (i := 15) rfl))) (mvT hZ (hw _ (List.mem_of_getElem? (i := 14) rfl))) (by decide) (backOf (W := 0) (rm3 l Z a0 hw [] b7 (93 : Int32) (f0_e4 p0 p1) (f0_e5 p0 p1) (f0_e6 p0 p1) T23.heap n0 Zz23 E23q gn_b7 F23n_quote F23n_inSelector F23n_escaping) hZ (hw _ (List.mem_of_getElem? (i := 16) rfl)) (hw _ (List.mem_of_getElem? (i := 3) rfl)) (by decide) (by decide)) q33a q33c (g := (mkF m 158 #[.val (.int p0), .val (.int p1), .val (.int p2), .val (.int p3), .val (.int ((p0 &&& (65535 : Int32)).toUInt32.toUInt16.toUInt32.toInt32)), .val (.int (f0_s0_18001 p3)), .val (.int (f0_s0_33002 p3)), .val (.ref b7), .val (.int (f0_s0_152008 p0 p1)), .val (.int (f0_l9_115005 p1)), .unset] [(.int (93 : Int32)), (.ref b7)])) rfl (by rw [hml]; rfl) (Steps.refl _) (argsL := [(.int (93 : Int32))]) (rest := []) (lenOf pd_1 rfl) rfl (by show 2 * 0 + _ ≤ _; exact Nat.le_of_eq rfl) (hb hby at_158) (fun _ _ => ⟨rfl, e32, (by decide : 1 + 0 ≤ _), (by decide : 3 + 0 ≤ _)⟩)
    dsimp only [Pt.U, Pt.locs, Pt.cells, Pt.slots] at X33 l33 y33 z33 st33 hQ33
    subst l33 y33 z33
    obtain ⟨rfl, N33q, K33q, E33q, F33q_quote, F33q_inSelector, F33q_escaping⟩ := hQ33
    have Zz33 := Nat.le_trans Zz23 K33q.1
    have K33 : Keep h0 T33.heap [] := K23.trans K33q (allS (Or.inr sz_b7) all0)
    have N33 := Fr.app N32 N33q
    have pre34 : ∀ t, Steps p.tables e below (T33.setTop (mkF m 163 #[.val (.int p0), .val (.int p1), .val (.int p2), .val (.int p3), .val (.int ((p0 &&& (65535 : Int32)).toUInt32.toUInt16.toUInt32.toInt32)), .val (.int (f0_s0_18001 p3)), .val (.int (f0_s0_33002 p3)), .val (.ref b7), .val (.int (f0_s0_152008 p0 p1)), .val (.int (f0_l9_115005 p1)), .unset] [(.int (f0_s0_152008 p0 p1))])) t → Steps p.tables e below (s₁.setTop (entryFrame m #[(.int p0), (.int p1), (.int p2), (.int p3)] maxLocals)) t := fun t kt => pre32 t (by
      show Steps p.tables e below (T32.setTop (mkF m 152 #[.val (.int p0), .val (.int p1), .val (.int p2), .val (.int p3), .val (.int ((p0 &&& (65535 : Int32)).toUInt32.toUInt16.toUInt32.toInt32)), .val (.int (f0_s0_18001 p3)), .val (.int (f0_s0_33002 p3)), .val (.ref b7), .val (.int (f0_s0_76004 p0)), .val (.int (f0_l9_115005 p1)), .unset] [(.int (f0_s0_152008 p0 p1))])) _
      refine XS.istore X32.here hx rfl (hb hby at_152) rfl (l' := #[.val (.int p0), .val (.int p1), .val (.int p2), .val (.int p3), .val (.int ((p0 &&& (65535 : Int32)).toUInt32.toUInt16.toUInt32.toInt32)), .val (.int (f0_s0_18001 p3)), .val (.int (f0_s0_33002 p3)), .val (.ref b7), .val (.int (f0_s0_152008 p0 p1)), .val (.int (f0_l9_115005 p1)), .unset]) rfl ?_
      show Steps p.tables e below (T32.setTop (mkF m 154 #[.val (.int p0), .val (.int p1), .val (.int p2), .val (.int p3), .val (.int ((p0 &&& (65535 : Int32)).toUInt32.toUInt16.toUInt32.toInt32)), .val (.int (f0_s0_18001 p3)), .val (.int (f0_s0_33002 p3)), .val (.ref b7), .val (.int (f0_s0_152008 p0 p1)), .val (.int (f0_l9_115005 p1)), .unset] [])) _
      refine XS.aload X32.here hx rfl (hb hby at_154) rfl rfl ?_
      show Steps p.tables e below (T32.setTop (mkF m 156 #[.val (.int p0), .val (.int p1), .val (.int p2), .val (.int p3), .val (.int ((p0 &&& (65535 : Int32)).toUInt32.toUInt16.toUInt32.toInt32)), .val (.int (f0_s0_18001 p3)), .val (.int (f0_s0_33002 p3)), .val (.ref b7), .val (.int (f0_s0_152008 p0 p1)), .val (.int (f0_l9_115005 p1)), .unset] [(.ref b7)])) _
      refine XS.bipush X32.here hx rfl (hb hby at_156) ?_
      show Steps p.tables e below (T32.setTop (mkF m 158 #[.val (.int p0), .val (.int p1), .val (.int p2), .val (.int p3), .val (.int ((p0 &&& (65535 : Int32)).toUInt32.toUInt16.toUInt32.toInt32)), .val (.int (f0_s0_18001 p3)), .val (.int (f0_s0_33002 p3)), .val (.ref b7), .val (.int (f0_s0_152008 p0 p1)), .val (.int (f0_l9_115005 p1)), .unset] [(.int (93 : Int32)), (.ref b7)])) _
      refine st33.trans ?_
      show Steps p.tables e below (T33.setTop (mkF m 161 #[.val (.int p0), .val (.int p1), .val (.int p2), .val (.int p3), .val (.int ((p0 &&& (65535 : Int32)).toUInt32.toUInt16.toUInt32.toInt32)), .val (.int (f0_s0_18001 p3)), .val (.int (f0_s0_33002 p3)), .val (.ref b7), .val (.int (f0_s0_152008 p0 p1)), .val (.int (f0_l9_115005 p1)), .unset] [])) _
      refine XS.iload X33.here hx rfl (hb hby at_161) rfl ?_
      exact kt)
    obtain ⟨T40, L40, X40, e40, N40, pre40⟩ : ∃ (T' : State) (L' : List Loc), Stand p l e room_1 s m #[(.int p0), (.int p1), (.int p2), (.int p3)] below meth c T' L' 1 3 ∧ T'.heap = T33.heap ∧ Fr n0 L' ∧ ∀ t, Steps p.tables e below (T'.setTop (mkF m 179 #[.val (.int p0), .val (.int p1), .val (.int p2), .val (.int p3), .val (.int ((p0 &&& (65535 : Int32)).toUInt32.toUInt16.toUInt32.toInt32)), .val (.int (f0_s0_18001 p3)), .val (.int (f0_s0_33002 p3)), .val (.ref b7), .val (.int (f0_s0_152008 p0 p1)), .val (.int (f0_l9_115005 p1)), .unset] [(.int (f0_s0_179010 p0 p1))])) t → Steps p.tables e below (s₁.setTop (entryFrame m #[(.int p0), (.int p1), (.int p2), (.int p3)] maxLocals)) t := by
      by_cases hc35 : (f0_s0_152008 p0 p1) = (0 : Int32)
      · refine ⟨T33, _, X33, rfl, N33, fun t kt => ?_⟩
        have hj : (f0_s0_179010 p0 p1) = (0 : Int32) := by unfold f0_s0_179010; rw [if_pos hc35]
        rw [hj] at kt
        refine pre34 t ?_
        show Steps p.tables e below (T33.setTop (mkF m 163 #[.val (.int p0), .val (.int p1), .val (.int p2), .val (.int p3), .val (.int ((p0 &&& (65535 : Int32)).toUInt32.toUInt16.toUInt32.toInt32)), .val (.int (f0_s0_18001 p3)), .val (.int (f0_s0_33002 p3)), .val (.ref b7), .val (.int (f0_s0_152008 p0 p1)), .val (.int (f0_l9_115005 p1)), .unset] [(.int (f0_s0_152008 p0 p1))])) _
        refine XS.ifYes X33.here hx rfl (pc0 := 163) (pc' := 178) rfl (hb hby at_163) rfl ((if0 _ _).trans (teq hc35).1) (by decide) (by decide) ?_
        show Steps p.tables e below (T33.setTop (mkF m 178 #[.val (.int p0), .val (.int p1), .val (.int p2), .val (.int p3), .val (.int ((p0 &&& (65535 : Int32)).toUInt32.toUInt16.toUInt32.toInt32)), .val (.int (f0_s0_18001 p3)), .val (.int (f0_s0_33002 p3)), .val (.ref b7), .val (.int (f0_s0_152008 p0 p1)), .val (.int (f0_l9_115005 p1)), .unset] [])) _
        refine XS.iconst X33.here hx rfl (hb hby at_178) ?_
        exact kt
      · obtain ⟨cq36, kq36, q36a, q36b, q36c⟩ := isOf hZ rfl E33q
        obtain ⟨_, _, ⟨T36, L36, k36, n36⟩, -, X36, ⟨Lc36, hQ36, l36, y36, z36⟩, st36⟩ := X33.virtualBack hx (y := (⟨"com/example/libinterp/libinterp/PathParser$SelectorScan", "isOutside", "()Z"⟩ : MethodName)) (z := (⟨"com/example/libinterp/libinterp/PathParser$SelectorScan", "isOutside", "()Z"⟩ : MethodName)) hown (mvT hZ (hw _ (List.mem_of_getElem? (i := 19) rfl))) (mvT hZ (hw _ (List.mem_of_getElem? (i := 20) rfl))) (notFace_of_selects (args := #[]) (mvT hZ (hw _ (List.mem_of_getElem? (i := 22) rfl)))) (mvT hZ (hw _ (List.mem_of_getElem? (i := 22) rfl))) (mvT hZ (hw _ (List.mem_of_getElem? (i := 21) rfl))) (by decide) (backOf (W := 0) (rm4 l Z a0 hw [] b7 (f3_quote (93 : Int32) (f0_e4 p0 p1) (f0_e5 p0 p1) (f0_e6 p0 p1)) (f3_inSelector (93 : Int32) (f0_e4 p0 p1) (f0_e5 p0 p1) (f0_e6 p0 p1)) (f3_escaping (93 : Int32) (f0_e4 p0 p1) (f0_e5 p0 p1) (f0_e6 p0 p1)) T33.heap n0 Zz33 E33q gn_b7 F33q_quote F33q_inSelector F33q_escaping) hZ (hw _ (List.mem_of_getElem? (i := 23) rfl)) (hw _ (List.mem_of_getElem? (i := 3) rfl)) (by decide) (by decide)) q36a q36c (g := (mkF m 168 #[.val (.int p0), .val (.int p1), .val (.int p2), .val (.int p3), .val (.int ((p0 &&& (65535 : Int32)).toUInt32.toUInt16.toUInt32.toInt32)), .val (.int (f0_s0_18001 p3)), .val (.int (f0_s0_33002 p3)), .val (.ref b7), .val (.int (f0_s0_152008 p0 p1)), .val (.int (f0_l9_115005 p1)), .unset] [(.ref b7)])) rfl (by rw [hml]; rfl) (Steps.refl _) (argsL := []) (rest := []) (lenOf pd_3 rfl) rfl (by show 2 * 0 + _ ≤ _; exact Nat.le_of_eq rfl) (hb hby at_168) (fun _ _ => ⟨rfl, rfl, (by decide : 1 + 0 ≤ _), (by decide : 3 + 0 ≤ _)⟩)
        dsimp only [Pt.U, Pt.locs, Pt.cells, Pt.slots] at X36 l36 y36 z36 st36 hQ36
        subst l36 y36 z36
        obtain ⟨rfl, N36q, e36⟩ := hQ36
        have N36 := Fr.app N33 N36q
        have pre37 : ∀ t, Steps p.tables e below (T36.setTop (mkF m 171 #[.val (.int p0), .val (.int p1), .val (.int p2), .val (.int p3), .val (.int ((p0 &&& (65535 : Int32)).toUInt32.toUInt16.toUInt32.toInt32)), .val (.int (f0_s0_18001 p3)), .val (.int (f0_s0_33002 p3)), .val (.ref b7), .val (.int (f0_s0_152008 p0 p1)), .val (.int (f0_l9_115005 p1)), .unset] [(.int (f0_e7 p0 p1))])) t → Steps p.tables e below (s₁.setTop (entryFrame m #[(.int p0), (.int p1), (.int p2), (.int p3)] maxLocals)) t := fun t kt => pre34 t (by
          show Steps p.tables e below (T33.setTop (mkF m 163 #[.val (.int p0), .val (.int p1), .val (.int p2), .val (.int p3), .val (.int ((p0 &&& (65535 : Int32)).toUInt32.toUInt16.toUInt32.toInt32)), .val (.int (f0_s0_18001 p3)), .val (.int (f0_s0_33002 p3)), .val (.ref b7), .val (.int (f0_s0_152008 p0 p1)), .val (.int (f0_l9_115005 p1)), .unset] [(.int (f0_s0_152008 p0 p1))])) _
          refine XS.ifNo X33.here hx rfl (hb hby at_163) rfl ((if0 _ _).trans (feq hc35).1) ?_
          show Steps p.tables e below (T33.setTop (mkF m 166 #[.val (.int p0), .val (.int p1), .val (.int p2), .val (.int p3), .val (.int ((p0 &&& (65535 : Int32)).toUInt32.toUInt16.toUInt32.toInt32)), .val (.int (f0_s0_18001 p3)), .val (.int (f0_s0_33002 p3)), .val (.ref b7), .val (.int (f0_s0_152008 p0 p1)), .val (.int (f0_l9_115005 p1)), .unset] [])) _
          refine XS.aload X33.here hx rfl (hb hby at_166) rfl rfl ?_
          show Steps p.tables e below (T33.setTop (mkF m 168 #[.val (.int p0), .val (.int p1), .val (.int p2), .val (.int p3), .val (.int ((p0 &&& (65535 : Int32)).toUInt32.toUInt16.toUInt32.toInt32)), .val (.int (f0_s0_18001 p3)), .val (.int (f0_s0_33002 p3)), .val (.ref b7), .val (.int (f0_s0_152008 p0 p1)), .val (.int (f0_l9_115005 p1)), .unset] [(.ref b7)])) _
          refine st36.trans ?_
          exact kt)
        have pre39 : ∀ t, Steps p.tables e below (T36.setTop (mkF m 179 #[.val (.int p0), .val (.int p1), .val (.int p2), .val (.int p3), .val (.int ((p0 &&& (65535 : Int32)).toUInt32.toUInt16.toUInt32.toInt32)), .val (.int (f0_s0_18001 p3)), .val (.int (f0_s0_33002 p3)), .val (.ref b7), .val (.int (f0_s0_152008 p0 p1)), .val (.int (f0_l9_115005 p1)), .unset] [(.int (f0_s0_179009 p0 p1))])) t → Steps p.tables e below (s₁.setTop (entryFrame m #[(.int p0), (.int p1), (.int p2), (.int p3)] maxLocals)) t := by
          intro t kt
          by_cases hc38 : (f0_e7 p0 p1) = (0 : Int32)
          · have hj : (f0_s0_179009 p0 p1) = (0 : Int32) := by unfold f0_s0_179009; rw [if_pos hc38]
            rw [hj] at kt
            refine pre37 t ?_
            show Steps p.tables e below (T36.setTop (mkF m 171 #[.val (.int p0), .val (.int p1), .val (.int p2), .val (.int p3), .val (.int ((p0 &&& (65535 : Int32)).toUInt32.toUInt16.toUInt32.toInt32)), .val (.int (f0_s0_18001 p3)), .val (.int (f0_s0_33002 p3)), .val (.ref b7), .val (.int (f0_s0_152008 p0 p1)), .val (.int (f0_l9_115005 p1)), .unset] [(.int (f0_e7 p0 p1))])) _
            refine XS.ifYes X36.here hx rfl (pc0 := 171) (pc' := 178) rfl (hb hby at_171) rfl ((if0 _ _).trans (teq hc38).1) (by decide) (by decide) ?_
            show Steps p.tables e below (T36.setTop (mkF m 178 #[.val (.int p0), .val (.int p1), .val (.int p2), .val (.int p3), .val (.int ((p0 &&& (65535 : Int32)).toUInt32.toUInt16.toUInt32.toInt32)), .val (.int (f0_s0_18001 p3)), .val (.int (f0_s0_33002 p3)), .val (.ref b7), .val (.int (f0_s0_152008 p0 p1)), .val (.int (f0_l9_115005 p1)), .unset] [])) _
            refine XS.iconst X36.here hx rfl (hb hby at_178) ?_
            exact kt
          · have hj : (f0_s0_179009 p0 p1) = (1 : Int32) := by unfold f0_s0_179009; rw [if_neg hc38]
            rw [hj] at kt
            refine pre37 t ?_
            show Steps p.tables e below (T36.setTop (mkF m 171 #[.val (.int p0), .val (.int p1), .val (.int p2), .val (.int p3), .val (.int ((p0 &&& (65535 : Int32)).toUInt32.toUInt16.toUInt32.toInt32)), .val (.int (f0_s0_18001 p3)), .val (.int (f0_s0_33002 p3)), .val (.ref b7), .val (.int (f0_s0_152008 p0 p1)), .val (.int (f0_l9_115005 p1)), .unset] [(.int (f0_e7 p0 p1))])) _
            refine XS.ifNo X36.here hx rfl (hb hby at_171) rfl ((if0 _ _).trans (feq hc38).1) ?_
            show Steps p.tables e below (T36.setTop (mkF m 174 #[.val (.int p0), .val (.int p1), .val (.int p2), .val (.int p3), .val (.int ((p0 &&& (65535 : Int32)).toUInt32.toUInt16.toUInt32.toInt32)), .val (.int (f0_s0_18001 p3)), .val (.int (f0_s0_33002 p3)), .val (.ref b7), .val (.int (f0_s0_152008 p0 p1)), .val (.int (f0_l9_115005 p1)), .unset] [])) _
            refine XS.iconst X36.here hx rfl (hb hby at_174) ?_
            show Steps p.tables e below (T36.setTop (mkF m 175 #[.val (.int p0), .val (.int p1), .val (.int p2), .val (.int p3), .val (.int ((p0 &&& (65535 : Int32)).toUInt32.toUInt16.toUInt32.toInt32)), .val (.int (f0_s0_18001 p3)), .val (.int (f0_s0_33002 p3)), .val (.ref b7), .val (.int (f0_s0_152008 p0 p1)), .val (.int (f0_l9_115005 p1)), .unset] [(.int (1 : Int32))])) _
            refine XS.goto X36.here hx rfl (pc0 := 175) (pc' := 179) rfl (hb hby at_175) (by decide) (by decide) ?_
            exact kt
        refine ⟨T36, _, X36, e36, N36, fun t kt => ?_⟩
        have hj : (f0_s0_179010 p0 p1) = (f0_s0_179009 p0 p1) := by unfold f0_s0_179010; rw [if_neg hc35]
        rw [hj] at kt
        refine pre39 t ?_
        exact kt
    obtain ⟨fs, hr, hrun, hended, hW, hsame⟩ := X40.leave (v := some (.int ((f0_s0_179010 p0 p1) &&& 1))) (fun h => by rw [Bd.returns] at h; cases h)
    refine ⟨_, _, pre40 _ ?_, hrun, hended, _, _, rfl, ?_, ⟨_, rfl⟩, hW, hsame.mono (by decide) (by decide)⟩
    · show Steps p.tables e below (T40.setTop (mkF m 179 #[.val (.int p0), .val (.int p1), .val (.int p2), .val (.int p3), .val (.int ((p0 &&& (65535 : Int32)).toUInt32.toUInt16.toUInt32.toInt32)), .val (.int (f0_s0_18001 p3)), .val (.int (f0_s0_33002 p3)), .val (.ref b7), .val (.int (f0_s0_152008 p0 p1)), .val (.int (f0_l9_115005 p1)), .unset] [(.int (f0_s0_179010 p0 p1))])) _
      refine XS.istore X40.here hx rfl (hb hby at_179) rfl (l' := #[.val (.int p0), .val (.int p1), .val (.int p2), .val (.int p3), .val (.int ((p0 &&& (65535 : Int32)).toUInt32.toUInt16.toUInt32.toInt32)), .val (.int (f0_s0_18001 p3)), .val (.int (f0_s0_33002 p3)), .val (.ref b7), .val (.int (f0_s0_179010 p0 p1)), .val (.int (f0_l9_115005 p1)), .unset]) rfl ?_
      show Steps p.tables e below (T40.setTop (mkF m 181 #[.val (.int p0), .val (.int p1), .val (.int p2), .val (.int p3), .val (.int ((p0 &&& (65535 : Int32)).toUInt32.toUInt16.toUInt32.toInt32)), .val (.int (f0_s0_18001 p3)), .val (.int (f0_s0_33002 p3)), .val (.ref b7), .val (.int (f0_s0_179010 p0 p1)), .val (.int (f0_l9_115005 p1)), .unset] [])) _
      refine XS.iload X40.here hx rfl (hb hby at_181) rfl ?_
      show Steps p.tables e below (T40.setTop (mkF m 183 #[.val (.int p0), .val (.int p1), .val (.int p2), .val (.int p3), .val (.int ((p0 &&& (65535 : Int32)).toUInt32.toUInt16.toUInt32.toInt32)), .val (.int (f0_s0_18001 p3)), .val (.int (f0_s0_33002 p3)), .val (.ref b7), .val (.int (f0_s0_179010 p0 p1)), .val (.int (f0_l9_115005 p1)), .unset] [(.int (f0_s0_179010 p0 p1))])) _
      exact retN X40 hx (t := .boolean) Bd.returns (by simp) (hb hby at_183) hr
    · show Q0 Z p0 p1 p2 p3 h0 n0 _ T40.heap _
      rw [e40]
      exact ⟨by rw [show f0 p0 p1 p2 p3 = ((f0_s0_179010 p0 p1) &&& 1) from by unfold f0; rw [if_pos hc18]], N40⟩
  · have pre41 : ∀ t, Steps p.tables e below (T16.setTop (mkF m 195 #[.val (.int p0), .val (.int p1), .val (.int p2), .val (.int p3), .val (.int ((p0 &&& (65535 : Int32)).toUInt32.toUInt16.toUInt32.toInt32)), .val (.int (f0_s0_18001 p3)), .val (.int (f0_s0_33002 p3)), .val (.ref b7), .val (.int (f0_s0_76004 p0)), .val (.int ((p1 &&& (65535 : Int32)).toUInt32.toUInt16.toUInt32.toInt32)), .unset] [(.int (f0_s0_33002 p3)), (.int ((p1 &&& (65535 : Int32)).toUInt32.toUInt16.toUInt32.toInt32))])) t → Steps p.tables e below (s₁.setTop (entryFrame m #[(.int p0), (.int p1), (.int p2), (.int p3)] maxLocals)) t := fun t kt => pre17 t (by
      show Steps p.tables e below (T16.setTop (mkF m 87 #[.val (.int p0), .val (.int p1), .val (.int p2), .val (.int p3), .val (.int ((p0 &&& (65535 : Int32)).toUInt32.toUInt16.toUInt32.toInt32)), .val (.int (f0_s0_18001 p3)), .val (.int (f0_s0_33002 p3)), .val (.ref b7), .val (.int (f0_s0_76004 p0)), .unset, .unset] [(.int (f0_s0_18001 p3))])) _
      refine XS.ifYes X16.here hx rfl (pc0 := 87) (pc' := 184) rfl (hb hby at_87) rfl ((if0 _ _).trans (feq hc18).2) (by decide) (by decide) ?_
      show Steps p.tables e below (T16.setTop (mkF m 184 #[.val (.int p0), .val (.int p1), .val (.int p2), .val (.int p3), .val (.int ((p0 &&& (65535 : Int32)).toUInt32.toUInt16.toUInt32.toInt32)), .val (.int (f0_s0_18001 p3)), .val (.int (f0_s0_33002 p3)), .val (.ref b7), .val (.int (f0_s0_76004 p0)), .unset, .unset] [])) _
      refine XS.iloadN X16.here hx rfl (hb hby at_184) rfl ?_
      show Steps p.tables e below (T16.setTop (mkF m 185 #[.val (.int p0), .val (.int p1), .val (.int p2), .val (.int p3), .val (.int ((p0 &&& (65535 : Int32)).toUInt32.toUInt16.toUInt32.toInt32)), .val (.int (f0_s0_18001 p3)), .val (.int (f0_s0_33002 p3)), .val (.ref b7), .val (.int (f0_s0_76004 p0)), .unset, .unset] [(.int p1)])) _
      refine X16.ldcInt hx hown (mvT hZ (hw _ (List.mem_of_getElem? (i := 0) rfl))) (g := (mkF m 185 #[.val (.int p0), .val (.int p1), .val (.int p2), .val (.int p3), .val (.int ((p0 &&& (65535 : Int32)).toUInt32.toUInt16.toUInt32.toInt32)), .val (.int (f0_s0_18001 p3)), .val (.int (f0_s0_33002 p3)), .val (.ref b7), .val (.int (f0_s0_76004 p0)), .unset, .unset] [(.int p1)])) rfl (hb hby at_185) _ ?_
      show Steps p.tables e below (T16.setTop (mkF m 187 #[.val (.int p0), .val (.int p1), .val (.int p2), .val (.int p3), .val (.int ((p0 &&& (65535 : Int32)).toUInt32.toUInt16.toUInt32.toInt32)), .val (.int (f0_s0_18001 p3)), .val (.int (f0_s0_33002 p3)), .val (.ref b7), .val (.int (f0_s0_76004 p0)), .unset, .unset] [(.int (65535 : Int32)), (.int p1)])) _
      refine XS.iand X16.here hx rfl (hb hby at_187) rfl ?_
      show Steps p.tables e below (T16.setTop (mkF m 188 #[.val (.int p0), .val (.int p1), .val (.int p2), .val (.int p3), .val (.int ((p0 &&& (65535 : Int32)).toUInt32.toUInt16.toUInt32.toInt32)), .val (.int (f0_s0_18001 p3)), .val (.int (f0_s0_33002 p3)), .val (.ref b7), .val (.int (f0_s0_76004 p0)), .unset, .unset] [(.int (p1 &&& (65535 : Int32)))])) _
      refine XS.i2c X16.here hx rfl (hb hby at_188) rfl ?_
      show Steps p.tables e below (T16.setTop (mkF m 189 #[.val (.int p0), .val (.int p1), .val (.int p2), .val (.int p3), .val (.int ((p0 &&& (65535 : Int32)).toUInt32.toUInt16.toUInt32.toInt32)), .val (.int (f0_s0_18001 p3)), .val (.int (f0_s0_33002 p3)), .val (.ref b7), .val (.int (f0_s0_76004 p0)), .unset, .unset] [(.int ((p1 &&& (65535 : Int32)).toUInt32.toUInt16.toUInt32.toInt32))])) _
      refine XS.istore X16.here hx rfl (hb hby at_189) rfl (l' := #[.val (.int p0), .val (.int p1), .val (.int p2), .val (.int p3), .val (.int ((p0 &&& (65535 : Int32)).toUInt32.toUInt16.toUInt32.toInt32)), .val (.int (f0_s0_18001 p3)), .val (.int (f0_s0_33002 p3)), .val (.ref b7), .val (.int (f0_s0_76004 p0)), .val (.int ((p1 &&& (65535 : Int32)).toUInt32.toUInt16.toUInt32.toInt32)), .unset]) rfl ?_
      show Steps p.tables e below (T16.setTop (mkF m 191 #[.val (.int p0), .val (.int p1), .val (.int p2), .val (.int p3), .val (.int ((p0 &&& (65535 : Int32)).toUInt32.toUInt16.toUInt32.toInt32)), .val (.int (f0_s0_18001 p3)), .val (.int (f0_s0_33002 p3)), .val (.ref b7), .val (.int (f0_s0_76004 p0)), .val (.int ((p1 &&& (65535 : Int32)).toUInt32.toUInt16.toUInt32.toInt32)), .unset] [])) _
      refine XS.iload X16.here hx rfl (hb hby at_191) rfl ?_
      show Steps p.tables e below (T16.setTop (mkF m 193 #[.val (.int p0), .val (.int p1), .val (.int p2), .val (.int p3), .val (.int ((p0 &&& (65535 : Int32)).toUInt32.toUInt16.toUInt32.toInt32)), .val (.int (f0_s0_18001 p3)), .val (.int (f0_s0_33002 p3)), .val (.ref b7), .val (.int (f0_s0_76004 p0)), .val (.int ((p1 &&& (65535 : Int32)).toUInt32.toUInt16.toUInt32.toInt32)), .unset] [(.int ((p1 &&& (65535 : Int32)).toUInt32.toUInt16.toUInt32.toInt32))])) _
      refine XS.iload X16.here hx rfl (hb hby at_193) rfl ?_
      exact kt)
    have pre43 : ∀ t, Steps p.tables e below (T16.setTop (mkF m 202 #[.val (.int p0), .val (.int p1), .val (.int p2), .val (.int p3), .val (.int ((p0 &&& (65535 : Int32)).toUInt32.toUInt16.toUInt32.toInt32)), .val (.int (f0_s0_18001 p3)), .val (.int (f0_s0_33002 p3)), .val (.ref b7), .val (.int (f0_s0_76004 p0)), .val (.int (f0_l9_202011 p1 p3)), .unset] [])) t → Steps p.tables e below (s₁.setTop (entryFrame m #[(.int p0), (.int p1), (.int p2), (.int p3)] maxLocals)) t := by
      intro t kt
      by_cases hc42 : ((p1 &&& (65535 : Int32)).toUInt32.toUInt16.toUInt32.toInt32) = (f0_s0_33002 p3)
      · have hj : (f0_l9_202011 p1 p3) = (92 : Int32) := by unfold f0_l9_202011; rw [if_pos hc42]
        rw [hj] at kt
        refine pre41 t ?_
        show Steps p.tables e below (T16.setTop (mkF m 195 #[.val (.int p0), .val (.int p1), .val (.int p2), .val (.int p3), .val (.int ((p0 &&& (65535 : Int32)).toUInt32.toUInt16.toUInt32.toInt32)), .val (.int (f0_s0_18001 p3)), .val (.int (f0_s0_33002 p3)), .val (.ref b7), .val (.int (f0_s0_76004 p0)), .val (.int ((p1 &&& (65535 : Int32)).toUInt32.toUInt16.toUInt32.toInt32)), .unset] [(.int (f0_s0_33002 p3)), (.int ((p1 &&& (65535 : Int32)).toUInt32.toUInt16.toUInt32.toInt32))])) _
        refine XS.icmpNo X16.here hx rfl (hb hby at_195) rfl (teq hc42).2 ?_
        show Steps p.tables e below (T16.setTop (mkF m 198 #[.val (.int p0), .val (.int p1), .val (.int p2), .val (.int p3), .val (.int ((p0 &&& (65535 : Int32)).toUInt32.toUInt16.toUInt32.toInt32)), .val (.int (f0_s0_18001 p3)), .val (.int (f0_s0_33002 p3)), .val (.ref b7), .val (.int (f0_s0_76004 p0)), .val (.int ((p1 &&& (65535 : Int32)).toUInt32.toUInt16.toUInt32.toInt32)), .unset] [])) _
        refine XS.bipush X16.here hx rfl (hb hby at_198) ?_
        show Steps p.tables e below (T16.setTop (mkF m 200 #[.val (.int p0), .val (.int p1), .val (.int p2), .val (.int p3), .val (.int ((p0 &&& (65535 : Int32)).toUInt32.toUInt16.toUInt32.toInt32)), .val (.int (f0_s0_18001 p3)), .val (.int (f0_s0_33002 p3)), .val (.ref b7), .val (.int (f0_s0_76004 p0)), .val (.int ((p1 &&& (65535 : Int32)).toUInt32.toUInt16.toUInt32.toInt32)), .unset] [(.int (92 : Int32))])) _
        refine XS.istore X16.here hx rfl (hb hby at_200) rfl (l' := #[.val (.int p0), .val (.int p1), .val (.int p2), .val (.int p3), .val (.int ((p0 &&& (65535 : Int32)).toUInt32.toUInt16.toUInt32.toInt32)), .val (.int (f0_s0_18001 p3)), .val (.int (f0_s0_33002 p3)), .val (.ref b7), .val (.int (f0_s0_76004 p0)), .val (.int (92 : Int32)), .unset]) rfl ?_
        exact kt
      · have hj : (f0_l9_202011 p1 p3) = ((p1 &&& (65535 : Int32)).toUInt32.toUInt16.toUInt32.toInt32) := by unfold f0_l9_202011; rw [if_neg hc42]
        rw [hj] at kt
        refine pre41 t ?_
        show Steps p.tables e below (T16.setTop (mkF m 195 #[.val (.int p0), .val (.int p1), .val (.int p2), .val (.int p3), .val (.int ((p0 &&& (65535 : Int32)).toUInt32.toUInt16.toUInt32.toInt32)), .val (.int (f0_s0_18001 p3)), .val (.int (f0_s0_33002 p3)), .val (.ref b7), .val (.int (f0_s0_76004 p0)), .val (.int ((p1 &&& (65535 : Int32)).toUInt32.toUInt16.toUInt32.toInt32)), .unset] [(.int (f0_s0_33002 p3)), (.int ((p1 &&& (65535 : Int32)).toUInt32.toUInt16.toUInt32.toInt32))])) _
        refine XS.icmpYes X16.here hx rfl (pc0 := 195) (pc' := 202) rfl (hb hby at_195) rfl (feq hc42).2 (by decide) (by decide) ?_
        exact kt
    have pre44 : ∀ t, Steps p.tables e below (T16.setTop (mkF m 213 #[.val (.int p0), .val (.int p1), .val (.int p2), .val (.int p3), .val (.int ((p0 &&& (65535 : Int32)).toUInt32.toUInt16.toUInt32.toInt32)), .val (.int (f0_s0_18001 p3)), .val (.int (f0_s0_33002 p3)), .val (.ref b7), .val (.int (f0_s0_76004 p0)), .val (.int (f0_l9_202011 p1 p3)), .val (.int ((p2 &&& (65535 : Int32)).toUInt32.toUInt16.toUInt32.toInt32))] [(.int (92 : Int32)), (.int (f0_l9_202011 p1 p3))])) t → Steps p.tables e below (s₁.setTop (entryFrame m #[(.int p0), (.int p1), (.int p2), (.int p3)] maxLocals)) t := fun t kt => pre43 t (by
      show Steps p.tables e below (T16.setTop (mkF m 202 #[.val (.int p0), .val (.int p1), .val (.int p2), .val (.int p3), .val (.int ((p0 &&& (65535 : Int32)).toUInt32.toUInt16.toUInt32.toInt32)), .val (.int (f0_s0_18001 p3)), .val (.int (f0_s0_33002 p3)), .val (.ref b7), .val (.int (f0_s0_76004 p0)), .val (.int (f0_l9_202011 p1 p3)), .unset] [])) _
      refine XS.iloadN X16.here hx rfl (hb hby at_202) rfl ?_
      show Steps p.tables e below (T16.setTop (mkF m 203 #[.val (.int p0), .val (.int p1), .val (.int p2), .val (.int p3), .val (.int ((p0 &&& (65535 : Int32)).toUInt32.toUInt16.toUInt32.toInt32)), .val (.int (f0_s0_18001 p3)), .val (.int (f0_s0_33002 p3)), .val (.ref b7), .val (.int (f0_s0_76004 p0)), .val (.int (f0_l9_202011 p1 p3)), .unset] [(.int p2)])) _
      refine X16.ldcInt hx hown (mvT hZ (hw _ (List.mem_of_getElem? (i := 0) rfl))) (g := (mkF m 203 #[.val (.int p0), .val (.int p1), .val (.int p2), .val (.int p3), .val (.int ((p0 &&& (65535 : Int32)).toUInt32.toUInt16.toUInt32.toInt32)), .val (.int (f0_s0_18001 p3)), .val (.int (f0_s0_33002 p3)), .val (.ref b7), .val (.int (f0_s0_76004 p0)), .val (.int (f0_l9_202011 p1 p3)), .unset] [(.int p2)])) rfl (hb hby at_203) _ ?_
      show Steps p.tables e below (T16.setTop (mkF m 205 #[.val (.int p0), .val (.int p1), .val (.int p2), .val (.int p3), .val (.int ((p0 &&& (65535 : Int32)).toUInt32.toUInt16.toUInt32.toInt32)), .val (.int (f0_s0_18001 p3)), .val (.int (f0_s0_33002 p3)), .val (.ref b7), .val (.int (f0_s0_76004 p0)), .val (.int (f0_l9_202011 p1 p3)), .unset] [(.int (65535 : Int32)), (.int p2)])) _
      refine XS.iand X16.here hx rfl (hb hby at_205) rfl ?_
      show Steps p.tables e below (T16.setTop (mkF m 206 #[.val (.int p0), .val (.int p1), .val (.int p2), .val (.int p3), .val (.int ((p0 &&& (65535 : Int32)).toUInt32.toUInt16.toUInt32.toInt32)), .val (.int (f0_s0_18001 p3)), .val (.int (f0_s0_33002 p3)), .val (.ref b7), .val (.int (f0_s0_76004 p0)), .val (.int (f0_l9_202011 p1 p3)), .unset] [(.int (p2 &&& (65535 : Int32)))])) _
      refine XS.i2c X16.here hx rfl (hb hby at_206) rfl ?_
      show Steps p.tables e below (T16.setTop (mkF m 207 #[.val (.int p0), .val (.int p1), .val (.int p2), .val (.int p3), .val (.int ((p0 &&& (65535 : Int32)).toUInt32.toUInt16.toUInt32.toInt32)), .val (.int (f0_s0_18001 p3)), .val (.int (f0_s0_33002 p3)), .val (.ref b7), .val (.int (f0_s0_76004 p0)), .val (.int (f0_l9_202011 p1 p3)), .unset] [(.int ((p2 &&& (65535 : Int32)).toUInt32.toUInt16.toUInt32.toInt32))])) _
      refine XS.istore X16.here hx rfl (hb hby at_207) rfl (l' := #[.val (.int p0), .val (.int p1), .val (.int p2), .val (.int p3), .val (.int ((p0 &&& (65535 : Int32)).toUInt32.toUInt16.toUInt32.toInt32)), .val (.int (f0_s0_18001 p3)), .val (.int (f0_s0_33002 p3)), .val (.ref b7), .val (.int (f0_s0_76004 p0)), .val (.int (f0_l9_202011 p1 p3)), .val (.int ((p2 &&& (65535 : Int32)).toUInt32.toUInt16.toUInt32.toInt32))]) rfl ?_
      show Steps p.tables e below (T16.setTop (mkF m 209 #[.val (.int p0), .val (.int p1), .val (.int p2), .val (.int p3), .val (.int ((p0 &&& (65535 : Int32)).toUInt32.toUInt16.toUInt32.toInt32)), .val (.int (f0_s0_18001 p3)), .val (.int (f0_s0_33002 p3)), .val (.ref b7), .val (.int (f0_s0_76004 p0)), .val (.int (f0_l9_202011 p1 p3)), .val (.int ((p2 &&& (65535 : Int32)).toUInt32.toUInt16.toUInt32.toInt32))] [])) _
      refine XS.iload X16.here hx rfl (hb hby at_209) rfl ?_
      show Steps p.tables e below (T16.setTop (mkF m 211 #[.val (.int p0), .val (.int p1), .val (.int p2), .val (.int p3), .val (.int ((p0 &&& (65535 : Int32)).toUInt32.toUInt16.toUInt32.toInt32)), .val (.int (f0_s0_18001 p3)), .val (.int (f0_s0_33002 p3)), .val (.ref b7), .val (.int (f0_s0_76004 p0)), .val (.int (f0_l9_202011 p1 p3)), .val (.int ((p2 &&& (65535 : Int32)).toUInt32.toUInt16.toUInt32.toInt32))] [(.int (f0_l9_202011 p1 p3))])) _
      refine XS.bipush X16.here hx rfl (hb hby at_211) ?_
      exact kt)
    have pre48 : ∀ t, Steps p.tables e below (T16.setTop (mkF m 234 #[.val (.int p0), .val (.int p1), .val (.int p2), .val (.int p3), .val (.int ((p0 &&& (65535 : Int32)).toUInt32.toUInt16.toUInt32.toInt32)), .val (.int (f0_s0_18001 p3)), .val (.int (f0_s0_33002 p3)), .val (.ref b7), .val (.int (f0_s0_76004 p0)), .val (.int (f0_l9_202011 p1 p3)), .val (.int (f0_l10_234012 p1 p2 p3))] [])) t → Steps p.tables e below (s₁.setTop (entryFrame m #[(.int p0), (.int p1), (.int p2), (.int p3)] maxLocals)) t := by
      intro t kt
      by_cases hc45 : (f0_l9_202011 p1 p3) = (92 : Int32)
      · have hj : (f0_l10_234012 p1 p2 p3) = ((p2 &&& (65535 : Int32)).toUInt32.toUInt16.toUInt32.toInt32) := by unfold f0_l10_234012; rw [if_pos hc45]
        rw [hj] at kt
        refine pre44 t ?_
        show Steps p.tables e below (T16.setTop (mkF m 213 #[.val (.int p0), .val (.int p1), .val (.int p2), .val (.int p3), .val (.int ((p0 &&& (65535 : Int32)).toUInt32.toUInt16.toUInt32.toInt32)), .val (.int (f0_s0_18001 p3)), .val (.int (f0_s0_33002 p3)), .val (.ref b7), .val (.int (f0_s0_76004 p0)), .val (.int (f0_l9_202011 p1 p3)), .val (.int ((p2 &&& (65535 : Int32)).toUInt32.toUInt16.toUInt32.toInt32))] [(.int (92 : Int32)), (.int (f0_l9_202011 p1 p3))])) _
        refine XS.icmpYes X16.here hx rfl (pc0 := 213) (pc' := 234) rfl (hb hby at_213) rfl (teq hc45).1 (by decide) (by decide) ?_
        exact kt
      · by_cases hc46 : ((p2 &&& (65535 : Int32)).toUInt32.toUInt16.toUInt32.toInt32) = (f0_s0_33002 p3)
        · have hj : (f0_l10_234012 p1 p2 p3) = (121 : Int32) := by unfold f0_l10_234012; rw [if_neg hc45, if_pos hc46]
          rw [hj] at kt
          refine pre44 t ?_
          show Steps p.tables e below (T16.setTop (mkF m 213 #[.val (.int p0), .val (.int p1), .val (.int p2), .val (.int p3), .val (.int ((p0 &&& (65535 : Int32)).toUInt32.toUInt16.toUInt32.toInt32)), .val (.int (f0_s0_18001 p3)), .val (.int (f0_s0_33002 p3)), .val (.ref b7), .val (.int (f0_s0_76004 p0)), .val (.int (f0_l9_202011 p1 p3)), .val (.int ((p2 &&& (65535 : Int32)).toUInt32.toUInt16.toUInt32.toInt32))] [(.int (92 : Int32)), (.int (f0_l9_202011 p1 p3))])) _
          refine XS.icmpNo X16.here hx rfl (hb hby at_213) rfl (feq hc45).1 ?_
          show Steps p.tables e below (T16.setTop (mkF m 216 #[.val (.int p0), .val (.int p1), .val (.int p2), .val (.int p3), .val (.int ((p0 &&& (65535 : Int32)).toUInt32.toUInt16.toUInt32.toInt32)), .val (.int (f0_s0_18001 p3)), .val (.int (f0_s0_33002 p3)), .val (.ref b7), .val (.int (f0_s0_76004 p0)), .val (.int (f0_l9_202011 p1 p3)), .val (.int ((p2 &&& (65535 : Int32)).toUInt32.toUInt16.toUInt32.toInt32))] [])) _
          refine XS.iload X16.here hx rfl (hb hby at_216) rfl ?_
          show Steps p.tables e below (T16.setTop (mkF m 218 #[.val (.int p0), .val (.int p1), .val (.int p2), .val (.int p3), .val (.int ((p0 &&& (65535 : Int32)).toUInt32.toUInt16.toUInt32.toInt32)), .val (.int (f0_s0_18001 p3)), .val (.int (f0_s0_33002 p3)), .val (.ref b7), .val (.int (f0_s0_76004 p0)), .val (.int (f0_l9_202011 p1 p3)), .val (.int ((p2 &&& (65535 : Int32)).toUInt32.toUInt16.toUInt32.toInt32))] [(.int ((p2 &&& (65535 : Int32)).toUInt32.toUInt16.toUInt32.toInt32))])) _
          refine XS.iload X16.here hx rfl (hb hby at_218) rfl ?_
          show Steps p.tables e below (T16.setTop (mkF m 220 #[.val (.int p0), .val (.int p1), .val (.int p2), .val (.int p3), .val (.int ((p0 &&& (65535 : Int32)).toUInt32.toUInt16.toUInt32.toInt32)), .val (.int (f0_s0_18001 p3)), .val (.int (f0_s0_33002 p3)), .val (.ref b7), .val (.int (f0_s0_76004 p0)), .val (.int (f0_l9_202011 p1 p3)), .val (.int ((p2 &&& (65535 : Int32)).toUInt32.toUInt16.toUInt32.toInt32))] [(.int (f0_s0_33002 p3)), (.int ((p2 &&& (65535 : Int32)).toUInt32.toUInt16.toUInt32.toInt32))])) _
          refine XS.icmpYes X16.here hx rfl (pc0 := 220) (pc' := 230) rfl (hb hby at_220) rfl (teq hc46).1 (by decide) (by decide) ?_
          show Steps p.tables e below (T16.setTop (mkF m 230 #[.val (.int p0), .val (.int p1), .val (.int p2), .val (.int p3), .val (.int ((p0 &&& (65535 : Int32)).toUInt32.toUInt16.toUInt32.toInt32)), .val (.int (f0_s0_18001 p3)), .val (.int (f0_s0_33002 p3)), .val (.ref b7), .val (.int (f0_s0_76004 p0)), .val (.int (f0_l9_202011 p1 p3)), .val (.int ((p2 &&& (65535 : Int32)).toUInt32.toUInt16.toUInt32.toInt32))] [])) _
          refine XS.bipush X16.here hx rfl (hb hby at_230) ?_
          show Steps p.tables e below (T16.setTop (mkF m 232 #[.val (.int p0), .val (.int p1), .val (.int p2), .val (.int p3), .val (.int ((p0 &&& (65535 : Int32)).toUInt32.toUInt16.toUInt32.toInt32)), .val (.int (f0_s0_18001 p3)), .val (.int (f0_s0_33002 p3)), .val (.ref b7), .val (.int (f0_s0_76004 p0)), .val (.int (f0_l9_202011 p1 p3)), .val (.int ((p2 &&& (65535 : Int32)).toUInt32.toUInt16.toUInt32.toInt32))] [(.int (121 : Int32))])) _
          refine XS.istore X16.here hx rfl (hb hby at_232) rfl (l' := #[.val (.int p0), .val (.int p1), .val (.int p2), .val (.int p3), .val (.int ((p0 &&& (65535 : Int32)).toUInt32.toUInt16.toUInt32.toInt32)), .val (.int (f0_s0_18001 p3)), .val (.int (f0_s0_33002 p3)), .val (.ref b7), .val (.int (f0_s0_76004 p0)), .val (.int (f0_l9_202011 p1 p3)), .val (.int (121 : Int32))]) rfl ?_
          exact kt
        · by_cases hc47 : ((p2 &&& (65535 : Int32)).toUInt32.toUInt16.toUInt32.toInt32) = (92 : Int32)
          · have hj : (f0_l10_234012 p1 p2 p3) = (121 : Int32) := by unfold f0_l10_234012; rw [if_neg hc45, if_neg hc46, if_pos hc47]
            rw [hj] at kt
            refine pre44 t ?_
            show Steps p.tables e below (T16.setTop (mkF m 213 #[.val (.int p0), .val (.int p1), .val (.int p2), .val (.int p3), .val (.int ((p0 &&& (65535 : Int32)).toUInt32.toUInt16.toUInt32.toInt32)), .val (.int (f0_s0_18001 p3)), .val (.int (f0_s0_33002 p3)), .val (.ref b7), .val (.int (f0_s0_76004 p0)), .val (.int (f0_l9_202011 p1 p3)), .val (.int ((p2 &&& (65535 : Int32)).toUInt32.toUInt16.toUInt32.toInt32))] [(.int (92 : Int32)), (.int (f0_l9_202011 p1 p3))])) _
            refine XS.icmpNo X16.here hx rfl (hb hby at_213) rfl (feq hc45).1 ?_
            show Steps p.tables e below (T16.setTop (mkF m 216 #[.val (.int p0), .val (.int p1), .val (.int p2), .val (.int p3), .val (.int ((p0 &&& (65535 : Int32)).toUInt32.toUInt16.toUInt32.toInt32)), .val (.int (f0_s0_18001 p3)), .val (.int (f0_s0_33002 p3)), .val (.ref b7), .val (.int (f0_s0_76004 p0)), .val (.int (f0_l9_202011 p1 p3)), .val (.int ((p2 &&& (65535 : Int32)).toUInt32.toUInt16.toUInt32.toInt32))] [])) _
            refine XS.iload X16.here hx rfl (hb hby at_216) rfl ?_
            show Steps p.tables e below (T16.setTop (mkF m 218 #[.val (.int p0), .val (.int p1), .val (.int p2), .val (.int p3), .val (.int ((p0 &&& (65535 : Int32)).toUInt32.toUInt16.toUInt32.toInt32)), .val (.int (f0_s0_18001 p3)), .val (.int (f0_s0_33002 p3)), .val (.ref b7), .val (.int (f0_s0_76004 p0)), .val (.int (f0_l9_202011 p1 p3)), .val (.int ((p2 &&& (65535 : Int32)).toUInt32.toUInt16.toUInt32.toInt32))] [(.int ((p2 &&& (65535 : Int32)).toUInt32.toUInt16.toUInt32.toInt32))])) _
            refine XS.iload X16.here hx rfl (hb hby at_218) rfl ?_
            show Steps p.tables e below (T16.setTop (mkF m 220 #[.val (.int p0), .val (.int p1), .val (.int p2), .val (.int p3), .val (.int ((p0 &&& (65535 : Int32)).toUInt32.toUInt16.toUInt32.toInt32)), .val (.int (f0_s0_18001 p3)), .val (.int (f0_s0_33002 p3)), .val (.ref b7), .val (.int (f0_s0_76004 p0)), .val (.int (f0_l9_202011 p1 p3)), .val (.int ((p2 &&& (65535 : Int32)).toUInt32.toUInt16.toUInt32.toInt32))] [(.int (f0_s0_33002 p3)), (.int ((p2 &&& (65535 : Int32)).toUInt32.toUInt16.toUInt32.toInt32))])) _
            refine XS.icmpNo X16.here hx rfl (hb hby at_220) rfl (feq hc46).1 ?_
            show Steps p.tables e below (T16.setTop (mkF m 223 #[.val (.int p0), .val (.int p1), .val (.int p2), .val (.int p3), .val (.int ((p0 &&& (65535 : Int32)).toUInt32.toUInt16.toUInt32.toInt32)), .val (.int (f0_s0_18001 p3)), .val (.int (f0_s0_33002 p3)), .val (.ref b7), .val (.int (f0_s0_76004 p0)), .val (.int (f0_l9_202011 p1 p3)), .val (.int ((p2 &&& (65535 : Int32)).toUInt32.toUInt16.toUInt32.toInt32))] [])) _
            refine XS.iload X16.here hx rfl (hb hby at_223) rfl ?_
            show Steps p.tables e below (T16.setTop (mkF m 225 #[.val (.int p0), .val (.int p1), .val (.int p2), .val (.int p3), .val (.int ((p0 &&& (65535 : Int32)).toUInt32.toUInt16.toUInt32.toInt32)), .val (.int (f0_s0_18001 p3)), .val (.int (f0_s0_33002 p3)), .val (.ref b7), .val (.int (f0_s0_76004 p0)), .val (.int (f0_l9_202011 p1 p3)), .val (.int ((p2 &&& (65535 : Int32)).toUInt32.toUInt16.toUInt32.toInt32))] [(.int ((p2 &&& (65535 : Int32)).toUInt32.toUInt16.toUInt32.toInt32))])) _
            refine XS.bipush X16.here hx rfl (hb hby at_225) ?_
            show Steps p.tables e below (T16.setTop (mkF m 227 #[.val (.int p0), .val (.int p1), .val (.int p2), .val (.int p3), .val (.int ((p0 &&& (65535 : Int32)).toUInt32.toUInt16.toUInt32.toInt32)), .val (.int (f0_s0_18001 p3)), .val (.int (f0_s0_33002 p3)), .val (.ref b7), .val (.int (f0_s0_76004 p0)), .val (.int (f0_l9_202011 p1 p3)), .val (.int ((p2 &&& (65535 : Int32)).toUInt32.toUInt16.toUInt32.toInt32))] [(.int (92 : Int32)), (.int ((p2 &&& (65535 : Int32)).toUInt32.toUInt16.toUInt32.toInt32))])) _
            refine XS.icmpNo X16.here hx rfl (hb hby at_227) rfl (teq hc47).2 ?_
            show Steps p.tables e below (T16.setTop (mkF m 230 #[.val (.int p0), .val (.int p1), .val (.int p2), .val (.int p3), .val (.int ((p0 &&& (65535 : Int32)).toUInt32.toUInt16.toUInt32.toInt32)), .val (.int (f0_s0_18001 p3)), .val (.int (f0_s0_33002 p3)), .val (.ref b7), .val (.int (f0_s0_76004 p0)), .val (.int (f0_l9_202011 p1 p3)), .val (.int ((p2 &&& (65535 : Int32)).toUInt32.toUInt16.toUInt32.toInt32))] [])) _
            refine XS.bipush X16.here hx rfl (hb hby at_230) ?_
            show Steps p.tables e below (T16.setTop (mkF m 232 #[.val (.int p0), .val (.int p1), .val (.int p2), .val (.int p3), .val (.int ((p0 &&& (65535 : Int32)).toUInt32.toUInt16.toUInt32.toInt32)), .val (.int (f0_s0_18001 p3)), .val (.int (f0_s0_33002 p3)), .val (.ref b7), .val (.int (f0_s0_76004 p0)), .val (.int (f0_l9_202011 p1 p3)), .val (.int ((p2 &&& (65535 : Int32)).toUInt32.toUInt16.toUInt32.toInt32))] [(.int (121 : Int32))])) _
            refine XS.istore X16.here hx rfl (hb hby at_232) rfl (l' := #[.val (.int p0), .val (.int p1), .val (.int p2), .val (.int p3), .val (.int ((p0 &&& (65535 : Int32)).toUInt32.toUInt16.toUInt32.toInt32)), .val (.int (f0_s0_18001 p3)), .val (.int (f0_s0_33002 p3)), .val (.ref b7), .val (.int (f0_s0_76004 p0)), .val (.int (f0_l9_202011 p1 p3)), .val (.int (121 : Int32))]) rfl ?_
            exact kt
          · have hj : (f0_l10_234012 p1 p2 p3) = ((p2 &&& (65535 : Int32)).toUInt32.toUInt16.toUInt32.toInt32) := by unfold f0_l10_234012; rw [if_neg hc45, if_neg hc46, if_neg hc47]
            rw [hj] at kt
            refine pre44 t ?_
            show Steps p.tables e below (T16.setTop (mkF m 213 #[.val (.int p0), .val (.int p1), .val (.int p2), .val (.int p3), .val (.int ((p0 &&& (65535 : Int32)).toUInt32.toUInt16.toUInt32.toInt32)), .val (.int (f0_s0_18001 p3)), .val (.int (f0_s0_33002 p3)), .val (.ref b7), .val (.int (f0_s0_76004 p0)), .val (.int (f0_l9_202011 p1 p3)), .val (.int ((p2 &&& (65535 : Int32)).toUInt32.toUInt16.toUInt32.toInt32))] [(.int (92 : Int32)), (.int (f0_l9_202011 p1 p3))])) _
            refine XS.icmpNo X16.here hx rfl (hb hby at_213) rfl (feq hc45).1 ?_
            show Steps p.tables e below (T16.setTop (mkF m 216 #[.val (.int p0), .val (.int p1), .val (.int p2), .val (.int p3), .val (.int ((p0 &&& (65535 : Int32)).toUInt32.toUInt16.toUInt32.toInt32)), .val (.int (f0_s0_18001 p3)), .val (.int (f0_s0_33002 p3)), .val (.ref b7), .val (.int (f0_s0_76004 p0)), .val (.int (f0_l9_202011 p1 p3)), .val (.int ((p2 &&& (65535 : Int32)).toUInt32.toUInt16.toUInt32.toInt32))] [])) _
            refine XS.iload X16.here hx rfl (hb hby at_216) rfl ?_
            show Steps p.tables e below (T16.setTop (mkF m 218 #[.val (.int p0), .val (.int p1), .val (.int p2), .val (.int p3), .val (.int ((p0 &&& (65535 : Int32)).toUInt32.toUInt16.toUInt32.toInt32)), .val (.int (f0_s0_18001 p3)), .val (.int (f0_s0_33002 p3)), .val (.ref b7), .val (.int (f0_s0_76004 p0)), .val (.int (f0_l9_202011 p1 p3)), .val (.int ((p2 &&& (65535 : Int32)).toUInt32.toUInt16.toUInt32.toInt32))] [(.int ((p2 &&& (65535 : Int32)).toUInt32.toUInt16.toUInt32.toInt32))])) _
            refine XS.iload X16.here hx rfl (hb hby at_218) rfl ?_
            show Steps p.tables e below (T16.setTop (mkF m 220 #[.val (.int p0), .val (.int p1), .val (.int p2), .val (.int p3), .val (.int ((p0 &&& (65535 : Int32)).toUInt32.toUInt16.toUInt32.toInt32)), .val (.int (f0_s0_18001 p3)), .val (.int (f0_s0_33002 p3)), .val (.ref b7), .val (.int (f0_s0_76004 p0)), .val (.int (f0_l9_202011 p1 p3)), .val (.int ((p2 &&& (65535 : Int32)).toUInt32.toUInt16.toUInt32.toInt32))] [(.int (f0_s0_33002 p3)), (.int ((p2 &&& (65535 : Int32)).toUInt32.toUInt16.toUInt32.toInt32))])) _
            refine XS.icmpNo X16.here hx rfl (hb hby at_220) rfl (feq hc46).1 ?_
            show Steps p.tables e below (T16.setTop (mkF m 223 #[.val (.int p0), .val (.int p1), .val (.int p2), .val (.int p3), .val (.int ((p0 &&& (65535 : Int32)).toUInt32.toUInt16.toUInt32.toInt32)), .val (.int (f0_s0_18001 p3)), .val (.int (f0_s0_33002 p3)), .val (.ref b7), .val (.int (f0_s0_76004 p0)), .val (.int (f0_l9_202011 p1 p3)), .val (.int ((p2 &&& (65535 : Int32)).toUInt32.toUInt16.toUInt32.toInt32))] [])) _
            refine XS.iload X16.here hx rfl (hb hby at_223) rfl ?_
            show Steps p.tables e below (T16.setTop (mkF m 225 #[.val (.int p0), .val (.int p1), .val (.int p2), .val (.int p3), .val (.int ((p0 &&& (65535 : Int32)).toUInt32.toUInt16.toUInt32.toInt32)), .val (.int (f0_s0_18001 p3)), .val (.int (f0_s0_33002 p3)), .val (.ref b7), .val (.int (f0_s0_76004 p0)), .val (.int (f0_l9_202011 p1 p3)), .val (.int ((p2 &&& (65535 : Int32)).toUInt32.toUInt16.toUInt32.toInt32))] [(.int ((p2 &&& (65535 : Int32)).toUInt32.toUInt16.toUInt32.toInt32))])) _
            refine XS.bipush X16.here hx rfl (hb hby at_225) ?_
            show Steps p.tables e below (T16.setTop (mkF m 227 #[.val (.int p0), .val (.int p1), .val (.int p2), .val (.int p3), .val (.int ((p0 &&& (65535 : Int32)).toUInt32.toUInt16.toUInt32.toInt32)), .val (.int (f0_s0_18001 p3)), .val (.int (f0_s0_33002 p3)), .val (.ref b7), .val (.int (f0_s0_76004 p0)), .val (.int (f0_l9_202011 p1 p3)), .val (.int ((p2 &&& (65535 : Int32)).toUInt32.toUInt16.toUInt32.toInt32))] [(.int (92 : Int32)), (.int ((p2 &&& (65535 : Int32)).toUInt32.toUInt16.toUInt32.toInt32))])) _
            refine XS.icmpYes X16.here hx rfl (pc0 := 227) (pc' := 234) rfl (hb hby at_227) rfl (feq hc47).2 (by decide) (by decide) ?_
            exact kt
    obtain ⟨cq49, kq49, q49a, q49b, q49c⟩ := isOf hZ rfl E16q
    obtain ⟨_, _, ⟨T49, L49, k49, n49⟩, -, X49, ⟨Lc49, hQ49, l49, y49, z49⟩, st49⟩ := X16.virtualBack hx (y := (⟨"com/example/libinterp/libinterp/PathParser$SelectorScan", "read", "(C)V"⟩ : MethodName)) (z := (⟨"com/example/libinterp/libinterp/PathParser$SelectorScan", "read", "(C)V"⟩ : MethodName)) hown (mvT hZ (hw _ (List.mem_of_getElem? (i := 12) rfl))) (mvT hZ (hw _ (List.mem_of_getElem? (i := 13) rfl))) (notFace_of_selects (args := #[]) (mvT hZ (hw _ (List.mem_of_getElem? (i := 15) rfl)))) (mvT hZ (hw _ (List.mem_of_getElem? (i := 15) rfl))) (mvT hZ (hw _ (List.mem_of_getElem? (i := 14) rfl))) (by decide) (backOf (W := 0) (rm3 l Z a0 hw [] b7 (f0_s0_33002 p3) (f3_quote (91 : Int32) (f0_e1 p0) (f0_e2 p0) (f0_e3 p0)) (f3_inSelector (91 : Int32) (f0_e1 p0) (f0_e2 p0) (f0_e3 p0)) (f3_escaping (91 : Int32) (f0_e1 p0) (f0_e2 p0) (f0_e3 p0)) T16.heap n0 Zz16 E16q gn_b7 F16q_quote F16q_inSelector F16q_escaping) hZ (hw _ (List.mem_of_getElem? (i := 16) rfl)) (hw _ (List.mem_of_getElem? (i := 3) rfl)) (by decide) (by decide)) q49a q49c (g := (mkF m 238 #[.val (.int p0), .val (.int p1), .val (.int p2), .val (.int p3), .val (.int ((p0 &&& (65535 : Int32)).toUInt32.toUInt16.toUInt32.toInt32)), .val (.int (f0_s0_18001 p3)), .val (.int (f0_s0_33002 p3)), .val (.ref b7), .val (.int (f0_s0_76004 p0)), .val (.int (f0_l9_202011 p1 p3)), .val (.int (f0_l10_234012 p1 p2 p3))] [(.int (f0_s0_33002 p3)), (.ref b7)])) rfl (by rw [hml]; rfl) (Steps.refl _) (argsL := [(.int (f0_s0_33002 p3))]) (rest := []) (lenOf pd_1 rfl) rfl (by show 2 * 0 + _ ≤ _; exact Nat.le_of_eq rfl) (hb hby at_238) (fun _ _ => ⟨rfl, rfl, (by decide : 1 + 0 ≤ _), (by decide : 3 + 0 ≤ _)⟩)
    dsimp only [Pt.U, Pt.locs, Pt.cells, Pt.slots] at X49 l49 y49 z49 st49 hQ49
    subst l49 y49 z49
    obtain ⟨rfl, N49q, K49q, E49q, F49q_quote, F49q_inSelector, F49q_escaping⟩ := hQ49
    have F49n_quote : Fld Z T49.heap b7 "com/example/libinterp/libinterp/PathParser$SelectorScan" "quote" "C" (.int (f0_e8 p0 p3)) := F49q_quote
    have F49n_inSelector : Fld Z T49.heap b7 "com/example/libinterp/libinterp/PathParser$SelectorScan" "inSelector" "Z" (.int (f0_e9 p0 p3)) := F49q_inSelector
    have F49n_escaping : Fld Z T49.heap b7 "com/example/libinterp/libinterp/PathParser$SelectorScan" "escaping" "Z" (.int (f0_e10 p0 p3)) := F49q_escaping
    have Zz49 := Nat.le_trans Zz16 K49q.1
    have K49 : Keep h0 T49.heap [] := K16.trans K49q (allS (Or.inr sz_b7) all0)
    have N49 := Fr.app N16 N49q
    obtain ⟨cq50, kq50, q50a, q50b, q50c⟩ := isOf hZ rfl E49q
    obtain ⟨_, _, ⟨T50, L50, k50, n50⟩, -, X50, ⟨Lc50, hQ50, l50, y50, z50⟩, st50⟩ := X49.virtualBack hx (y := (⟨"com/example/libinterp/libinterp/PathParser$SelectorScan", "read", "(C)V"⟩ : MethodName)) (z := (⟨"com/example/libinterp/libinterp/PathParser$SelectorScan", "read", "(C)V"⟩ : MethodName)) hown (mvT hZ (hw _ (List.mem_of_getElem? (i := 12) rfl))) (mvT hZ (hw _ (List.mem_of_getElem? (i := 13) rfl))) (notFace_of_selects (args := #[]) (mvT hZ (hw _ (List.mem_of_getElem? (i := 15) rfl)))) (mvT hZ (hw _ (List.mem_of_getElem? (i := 15) rfl))) (mvT hZ (hw _ (List.mem_of_getElem? (i := 14) rfl))) (by decide) (backOf (W := 0) (rm3 l Z a0 hw [] b7 (f0_l9_202011 p1 p3) (f0_e8 p0 p3) (f0_e9 p0 p3) (f0_e10 p0 p3) T49.heap n0 Zz49 E49q gn_b7 F49n_quote F49n_inSelector F49n_escaping) hZ (hw _ (List.mem_of_getElem? (i := 16) rfl)) (hw _ (List.mem_of_getElem? (i := 3) rfl)) (by decide) (by decide)) q50a q50c (g := (mkF m 245 #[.val (.int p0), .val (.int p1), .val (.int p2), .val (.int p3), .val (.int ((p0 &&& (65535 : Int32)).toUInt32.toUInt16.toUInt32.toInt32)), .val (.int (f0_s0_18001 p3)), .val (.int (f0_s0_33002 p3)), .val (.ref b7), .val (.int (f0_s0_76004 p0)), .val (.int (f0_l9_202011 p1 p3)), .val (.int (f0_l10_234012 p1 p2 p3))] [(.int (f0_l9_202011 p1 p3)), (.ref b7)])) rfl (by rw [hml]; rfl) (Steps.refl _) (argsL := [(.int (f0_l9_202011 p1 p3))]) (rest := []) (lenOf pd_1 rfl) rfl (by show 2 * 0 + _ ≤ _; exact Nat.le_of_eq rfl) (hb hby at_245) (fun _ _ => ⟨rfl, rfl, (by decide : 1 + 0 ≤ _), (by decide : 3 + 0 ≤ _)⟩)
    dsimp only [Pt.U, Pt.locs, Pt.cells, Pt.slots] at X50 l50 y50 z50 st50 hQ50
    subst l50 y50 z50
    obtain ⟨rfl, N50q, K50q, E50q, F50q_quote, F50q_inSelector, F50q_escaping⟩ := hQ50
    have F50n_quote : Fld Z T50.heap b7 "com/example/libinterp/libinterp/PathParser$SelectorScan" "quote" "C" (.int (f0_e11 p0 p1 p3)) := F50q_quote
    have F50n_inSelector : Fld Z T50.heap b7 "com/example/libinterp/libinterp/PathParser$SelectorScan" "inSelector" "Z" (.int (f0_e12 p0 p1 p3)) := F50q_inSelector
    have F50n_escaping : Fld Z T50.heap b7 "com/example/libinterp/libinterp/PathParser$SelectorScan" "escaping" "Z" (.int (f0_e13 p0 p1 p3)) := F50q_escaping
    have Zz50 := Nat.le_trans Zz49 K50q.1
    have K50 : Keep h0 T50.heap [] := K49.trans K50q (allS (Or.inr sz_b7) all0)
    have N50 := Fr.app N49 N50q
    obtain ⟨cq51, kq51, q51a, q51b, q51c⟩ := isOf hZ rfl E50q
    obtain ⟨_, _, ⟨T51, L51, k51, n51⟩, -, X51, ⟨Lc51, hQ51, l51, y51, z51⟩, st51⟩ := X50.virtualBack hx (y := (⟨"com/example/libinterp/libinterp/PathParser$SelectorScan", "read", "(C)V"⟩ : MethodName)) (z := (⟨"com/example/libinterp/libinterp/PathParser$SelectorScan", "read", "(C)V"⟩ : MethodName)) hown (mvT hZ (hw _ (List.mem_of_getElem? (i := 12) rfl))) (mvT hZ (hw _ (List.mem_of_getElem? (i := 13) rfl))) (notFace_of_selects (args := #[]) (mvT hZ (hw _ (List.mem_of_getElem? (i := 15) rfl)))) (mvT hZ (hw _ (List.mem_of_getElem? (i := 15) rfl))) (mvT hZ (hw _ (List.mem_of_getElem? (i := 14) rfl))) (by decide) (backOf (W := 0) (rm3 l Z a0 hw [] b7 (f0_l10_234012 p1 p2 p3) (f0_e11 p0 p1 p3) (f0_e12 p0 p1 p3) (f0_e13 p0 p1 p3) T50.heap n0 Zz50 E50q gn_b7 F50n_quote F50n_inSelector F50n_escaping) hZ (hw _ (List.mem_of_getElem? (i := 16) rfl)) (hw _ (List.mem_of_getElem? (i := 3) rfl)) (by decide) (by decide)) q51a q51c (g := (mkF m 252 #[.val (.int p0), .val (.int p1), .val (.int p2), .val (.int p3), .val (.int ((p0 &&& (65535 : Int32)).toUInt32.toUInt16.toUInt32.toInt32)), .val (.int (f0_s0_18001 p3)), .val (.int (f0_s0_33002 p3)), .val (.ref b7), .val (.int (f0_s0_76004 p0)), .val (.int (f0_l9_202011 p1 p3)), .val (.int (f0_l10_234012 p1 p2 p3))] [(.int (f0_l10_234012 p1 p2 p3)), (.ref b7)])) rfl (by rw [hml]; rfl) (Steps.refl _) (argsL := [(.int (f0_l10_234012 p1 p2 p3))]) (rest := []) (lenOf pd_1 rfl) rfl (by show 2 * 0 + _ ≤ _; exact Nat.le_of_eq rfl) (hb hby at_252) (fun _ _ => ⟨rfl, rfl, (by decide : 1 + 0 ≤ _), (by decide : 3 + 0 ≤ _)⟩)
    dsimp only [Pt.U, Pt.locs, Pt.cells, Pt.slots] at X51 l51 y51 z51 st51 hQ51
    subst l51 y51 z51
    obtain ⟨rfl, N51q, K51q, E51q, F51q_quote, F51q_inSelector, F51q_escaping⟩ := hQ51
    have F51n_quote : Fld Z T51.heap b7 "com/example/libinterp/libinterp/PathParser$SelectorScan" "quote" "C" (.int (f0_e14 p0 p1 p2 p3)) := F51q_quote
    have F51n_inSelector : Fld Z T51.heap b7 "com/example/libinterp/libinterp/PathParser$SelectorScan" "inSelector" "Z" (.int (f0_e15 p0 p1 p2 p3)) := F51q_inSelector
    have F51n_escaping : Fld Z T51.heap b7 "com/example/libinterp/libinterp/PathParser$SelectorScan" "escaping" "Z" (.int (f0_e16 p0 p1 p2 p3)) := F51q_escaping
    have Zz51 := Nat.le_trans Zz50 K51q.1
    have K51 : Keep h0 T51.heap [] := K50.trans K51q (allS (Or.inr sz_b7) all0)
    have N51 := Fr.app N50 N51q
    have pre52 : ∀ t, Steps p.tables e below (T51.setTop (mkF m 257 #[.val (.int p0), .val (.int p1), .val (.int p2), .val (.int p3), .val (.int ((p0 &&& (65535 : Int32)).toUInt32.toUInt16.toUInt32.toInt32)), .val (.int (f0_s0_18001 p3)), .val (.int (f0_s0_33002 p3)), .val (.ref b7), .val (.int (f0_s0_76004 p0)), .val (.int (f0_l9_202011 p1 p3)), .val (.int (f0_l10_234012 p1 p2 p3))] [(.int (f0_s0_76004 p0))])) t → Steps p.tables e below (s₁.setTop (entryFrame m #[(.int p0), (.int p1), (.int p2), (.int p3)] maxLocals)) t := fun t kt => pre48 t (by
      show Steps p.tables e below (T16.setTop (mkF m 234 #[.val (.int p0), .val (.int p1), .val (.int p2), .val (.int p3), .val (.int ((p0 &&& (65535 : Int32)).toUInt32.toUInt16.toUInt32.toInt32)), .val (.int (f0_s0_18001 p3)), .val (.int (f0_s0_33002 p3)), .val (.ref b7), .val (.int (f0_s0_76004 p0)), .val (.int (f0_l9_202011 p1 p3)), .val (.int (f0_l10_234012 p1 p2 p3))] [])) _
      refine XS.aload X16.here hx rfl (hb hby at_234) rfl rfl ?_
      show Steps p.tables e below (T16.setTop (mkF m 236 #[.val (.int p0), .val (.int p1), .val (.int p2), .val (.int p3), .val (.int ((p0 &&& (65535 : Int32)).toUInt32.toUInt16.toUInt32.toInt32)), .val (.int (f0_s0_18001 p3)), .val (.int (f0_s0_33002 p3)), .val (.ref b7), .val (.int (f0_s0_76004 p0)), .val (.int (f0_l9_202011 p1 p3)), .val (.int (f0_l10_234012 p1 p2 p3))] [(.ref b7)])) _
      refine XS.iload X16.here hx rfl (hb hby at_236) rfl ?_
      show Steps p.tables e below (T16.setTop (mkF m 238 #[.val (.int p0), .val (.int p1), .val (.int p2), .val (.int p3), .val (.int ((p0 &&& (65535 : Int32)).toUInt32.toUInt16.toUInt32.toInt32)), .val (.int (f0_s0_18001 p3)), .val (.int (f0_s0_33002 p3)), .val (.ref b7), .val (.int (f0_s0_76004 p0)), .val (.int (f0_l9_202011 p1 p3)), .val (.int (f0_l10_234012 p1 p2 p3))] [(.int (f0_s0_33002 p3)), (.ref b7)])) _
      refine st49.trans ?_
      show Steps p.tables e below (T49.setTop (mkF m 241 #[.val (.int p0), .val (.int p1), .val (.int p2), .val (.int p3), .val (.int ((p0 &&& (65535 : Int32)).toUInt32.toUInt16.toUInt32.toInt32)), .val (.int (f0_s0_18001 p3)), .val (.int (f0_s0_33002 p3)), .val (.ref b7), .val (.int (f0_s0_76004 p0)), .val (.int (f0_l9_202011 p1 p3)), .val (.int (f0_l10_234012 p1 p2 p3))] [])) _
      refine XS.aload X49.here hx rfl (hb hby at_241) rfl rfl ?_
      show Steps p.tables e below (T49.setTop (mkF m 243 #[.val (.int p0), .val (.int p1), .val (.int p2), .val (.int p3), .val (.int ((p0 &&& (65535 : Int32)).toUInt32.toUInt16.toUInt32.toInt32)), .val (.int (f0_s0_18001 p3)), .val (.int (f0_s0_33002 p3)), .val (.ref b7), .val (.int (f0_s0_76004 p0)), .val (.int (f0_l9_202011 p1 p3)), .val (.int (f0_l10_234012 p1 p2 p3))] [(.ref b7)])) _
      refine XS.iload X49.here hx rfl (hb hby at_243) rfl ?_
      show Steps p.tables e below (T49.setTop (mkF m 245 #[.val (.int p0), .val (.int p1), .val (.int p2), .val (.int p3), .val (.int ((p0 &&& (65535 : Int32)).toUInt32.toUInt16.toUInt32.toInt32)), .val (.int (f0_s0_18001 p3)), .val (.int (f0_s0_33002 p3)), .val (.ref b7), .val (.int (f0_s0_76004 p0)), .val (.int (f0_l9_202011 p1 p3)), .val (.int (f0_l10_234012 p1 p2 p3))] [(.int (f0_l9_202011 p1 p3)), (.ref b7)])) _
      refine st50.trans ?_
      show Steps p.tables e below (T50.setTop (mkF m 248 #[.val (.int p0), .val (.int p1), .val (.int p2), .val (.int p3), .val (.int ((p0 &&& (65535 : Int32)).toUInt32.toUInt16.toUInt32.toInt32)), .val (.int (f0_s0_18001 p3)), .val (.int (f0_s0_33002 p3)), .val (.ref b7), .val (.int (f0_s0_76004 p0)), .val (.int (f0_l9_202011 p1 p3)), .val (.int (f0_l10_234012 p1 p2 p3))] [])) _
      refine XS.aload X50.here hx rfl (hb hby at_248) rfl rfl ?_
      show Steps p.tables e below (T50.setTop (mkF m 250 #[.val (.int p0), .val (.int p1), .val (.int p2), .val (.int p3), .val (.int ((p0 &&& (65535 : Int32)).toUInt32.toUInt16.toUInt32.toInt32)), .val (.int (f0_s0_18001 p3)), .val (.int (f0_s0_33002 p3)), .val (.ref b7), .val (.int (f0_s0_76004 p0)), .val (.int (f0_l9_202011 p1 p3)), .val (.int (f0_l10_234012 p1 p2 p3))] [(.ref b7)])) _
      refine XS.iload X50.here hx rfl (hb hby at_250) rfl ?_
      show Steps p.tables e below (T50.setTop (mkF m 252 #[.val (.int p0), .val (.int p1), .val (.int p2), .val (.int p3), .val (.int ((p0 &&& (65535 : Int32)).toUInt32.toUInt16.toUInt32.toInt32)), .val (.int (f0_s0_18001 p3)), .val (.int (f0_s0_33002 p3)), .val (.ref b7), .val (.int (f0_s0_76004 p0)), .val (.int (f0_l9_202011 p1 p3)), .val (.int (f0_l10_234012 p1 p2 p3))] [(.int (f0_l10_234012 p1 p2 p3)), (.ref b7)])) _
      refine st51.trans ?_
      show Steps p.tables e below (T51.setTop (mkF m 255 #[.val (.int p0), .val (.int p1), .val (.int p2), .val (.int p3), .val (.int ((p0 &&& (65535 : Int32)).toUInt32.toUInt16.toUInt32.toInt32)), .val (.int (f0_s0_18001 p3)), .val (.int (f0_s0_33002 p3)), .val (.ref b7), .val (.int (f0_s0_76004 p0)), .val (.int (f0_l9_202011 p1 p3)), .val (.int (f0_l10_234012 p1 p2 p3))] [])) _
      refine XS.iload X51.here hx rfl (hb hby at_255) rfl ?_
      exact kt)
    obtain ⟨T58, L58, X58, e58, N58, pre58⟩ : ∃ (T' : State) (L' : List Loc), Stand p l e room_1 s m #[(.int p0), (.int p1), (.int p2), (.int p3)] below meth c T' L' 1 3 ∧ T'.heap = T51.heap ∧ Fr n0 L' ∧ ∀ t, Steps p.tables e below (T'.setTop (mkF m 273 #[.val (.int p0), .val (.int p1), .val (.int p2), .val (.int p3), .val (.int ((p0 &&& (65535 : Int32)).toUInt32.toUInt16.toUInt32.toInt32)), .val (.int (f0_s0_18001 p3)), .val (.int (f0_s0_33002 p3)), .val (.ref b7), .val (.int (f0_s0_76004 p0)), .val (.int (f0_l9_202011 p1 p3)), .val (.int (f0_l10_234012 p1 p2 p3))] [(.int (f0_s0_273014 p0 p1 p2 p3))])) t → Steps p.tables e below (s₁.setTop (entryFrame m #[(.int p0), (.int p1), (.int p2), (.int p3)] maxLocals)) t := by
      by_cases hc53 : (f0_s0_76004 p0) = (0 : Int32)
      · refine ⟨T51, _, X51, rfl, N51, fun t kt => ?_⟩
        have hj : (f0_s0_273014 p0 p1 p2 p3) = (0 : Int32) := by unfold f0_s0_273014; rw [if_pos hc53]
        rw [hj] at kt
        refine pre52 t ?_
        show Steps p.tables e below (T51.setTop (mkF m 257 #[.val (.int p0), .val (.int p1), .val (.int p2), .val (.int p3), .val (.int ((p0 &&& (65535 : Int32)).toUInt32.toUInt16.toUInt32.toInt32)), .val (.int (f0_s0_18001 p3)), .val (.int (f0_s0_33002 p3)), .val (.ref b7), .val (.int (f0_s0_76004 p0)), .val (.int (f0_l9_202011 p1 p3)), .val (.int (f0_l10_234012 p1 p2 p3))] [(.int (f0_s0_76004 p0))])) _
        refine XS.ifYes X51.here hx rfl (pc0 := 257) (pc' := 272) rfl (hb hby at_257) rfl ((if0 _ _).trans (teq hc53).1) (by decide) (by decide) ?_
        show Steps p.tables e below (T51.setTop (mkF m 272 #[.val (.int p0), .val (.int p1), .val (.int p2), .val (.int p3), .val (.int ((p0 &&& (65535 : Int32)).toUInt32.toUInt16.toUInt32.toInt32)), .val (.int (f0_s0_18001 p3)), .val (.int (f0_s0_33002 p3)), .val (.ref b7), .val (.int (f0_s0_76004 p0)), .val (.int (f0_l9_202011 p1 p3)), .val (.int (f0_l10_234012 p1 p2 p3))] [])) _
        refine XS.iconst X51.here hx rfl (hb hby at_272) ?_
        exact kt
      · obtain ⟨cq54, kq54, q54a, q54b, q54c⟩ := isOf hZ rfl E51q
        obtain ⟨_, _, ⟨T54, L54, k54, n54⟩, -, X54, ⟨Lc54, hQ54, l54, y54, z54⟩, st54⟩ := X51.virtualBack hx (y := (⟨"com/example/libinterp/libinterp/PathParser$SelectorScan", "isOutside", "()Z"⟩ : MethodName)) (z := (⟨"com/example/libinterp/libinterp/PathParser$SelectorScan", "isOutside", "()Z"⟩ : MethodName)) hown (mvT hZ (hw _ (List.mem_of_getElem? (i := 19) rfl))) (mvT hZ (hw _ (List.mem_of_getElem? (i := 20) rfl))) (notFace_of_selects (args := #[]) (mvT hZ (hw _ (List.mem_of_getElem? (i := 22) rfl)))) (mvT hZ (hw _ (List.mem_of_getElem? (i := 22) rfl))) (mvT hZ (hw _ (List.mem_of_getElem? (i := 21) rfl))) (by decide) (backOf (W := 0) (rm4 l Z a0 hw [] b7 (f0_e14 p0 p1 p2 p3) (f0_e15 p0 p1 p2 p3) (f0_e16 p0 p1 p2 p3) T51.heap n0 Zz51 E51q gn_b7 F51n_quote F51n_inSelector F51n_escaping) hZ (hw _ (List.mem_of_getElem? (i := 23) rfl)) (hw _ (List.mem_of_getElem? (i := 3) rfl)) (by decide) (by decide)) q54a q54c (g := (mkF m 262 #[.val (.int p0), .val (.int p1), .val (.int p2), .val (.int p3), .val (.int ((p0 &&& (65535 : Int32)).toUInt32.toUInt16.toUInt32.toInt32)), .val (.int (f0_s0_18001 p3)), .val (.int (f0_s0_33002 p3)), .val (.ref b7), .val (.int (f0_s0_76004 p0)), .val (.int (f0_l9_202011 p1 p3)), .val (.int (f0_l10_234012 p1 p2 p3))] [(.ref b7)])) rfl (by rw [hml]; rfl) (Steps.refl _) (argsL := []) (rest := []) (lenOf pd_3 rfl) rfl (by show 2 * 0 + _ ≤ _; exact Nat.le_of_eq rfl) (hb hby at_262) (fun _ _ => ⟨rfl, rfl, (by decide : 1 + 0 ≤ _), (by decide : 3 + 0 ≤ _)⟩)
        dsimp only [Pt.U, Pt.locs, Pt.cells, Pt.slots] at X54 l54 y54 z54 st54 hQ54
        subst l54 y54 z54
        obtain ⟨rfl, N54q, e54⟩ := hQ54
        have N54 := Fr.app N51 N54q
        have pre55 : ∀ t, Steps p.tables e below (T54.setTop (mkF m 265 #[.val (.int p0), .val (.int p1), .val (.int p2), .val (.int p3), .val (.int ((p0 &&& (65535 : Int32)).toUInt32.toUInt16.toUInt32.toInt32)), .val (.int (f0_s0_18001 p3)), .val (.int (f0_s0_33002 p3)), .val (.ref b7), .val (.int (f0_s0_76004 p0)), .val (.int (f0_l9_202011 p1 p3)), .val (.int (f0_l10_234012 p1 p2 p3))] [(.int (f4 (f0_e14 p0 p1 p2 p3) (f0_e15 p0 p1 p2 p3) (f0_e16 p0 p1 p2 p3)))])) t → Steps p.tables e below (s₁.setTop (entryFrame m #[(.int p0), (.int p1), (.int p2), (.int p3)] maxLocals)) t := fun t kt => pre52 t (by
          show Steps p.tables e below (T51.setTop (mkF m 257 #[.val (.int p0), .val (.int p1), .val (.int p2), .val (.int p3), .val (.int ((p0 &&& (65535 : Int32)).toUInt32.toUInt16.toUInt32.toInt32)), .val (.int (f0_s0_18001 p3)), .val (.int (f0_s0_33002 p3)), .val (.ref b7), .val (.int (f0_s0_76004 p0)), .val (.int (f0_l9_202011 p1 p3)), .val (.int (f0_l10_234012 p1 p2 p3))] [(.int (f0_s0_76004 p0))])) _
          refine XS.ifNo X51.here hx rfl (hb hby at_257) rfl ((if0 _ _).trans (feq hc53).1) ?_
          show Steps p.tables e below (T51.setTop (mkF m 260 #[.val (.int p0), .val (.int p1), .val (.int p2), .val (.int p3), .val (.int ((p0 &&& (65535 : Int32)).toUInt32.toUInt16.toUInt32.toInt32)), .val (.int (f0_s0_18001 p3)), .val (.int (f0_s0_33002 p3)), .val (.ref b7), .val (.int (f0_s0_76004 p0)), .val (.int (f0_l9_202011 p1 p3)), .val (.int (f0_l10_234012 p1 p2 p3))] [])) _
          refine XS.aload X51.here hx rfl (hb hby at_260) rfl rfl ?_
          show Steps p.tables e below (T51.setTop (mkF m 262 #[.val (.int p0), .val (.int p1), .val (.int p2), .val (.int p3), .val (.int ((p0 &&& (65535 : Int32)).toUInt32.toUInt16.toUInt32.toInt32)), .val (.int (f0_s0_18001 p3)), .val (.int (f0_s0_33002 p3)), .val (.ref b7), .val (.int (f0_s0_76004 p0)), .val (.int (f0_l9_202011 p1 p3)), .val (.int (f0_l10_234012 p1 p2 p3))] [(.ref b7)])) _
          refine st54.trans ?_
          exact kt)
        have pre57 : ∀ t, Steps p.tables e below (T54.setTop (mkF m 273 #[.val (.int p0), .val (.int p1), .val (.int p2), .val (.int p3), .val (.int ((p0 &&& (65535 : Int32)).toUInt32.toUInt16.toUInt32.toInt32)), .val (.int (f0_s0_18001 p3)), .val (.int (f0_s0_33002 p3)), .val (.ref b7), .val (.int (f0_s0_76004 p0)), .val (.int (f0_l9_202011 p1 p3)), .val (.int (f0_l10_234012 p1 p2 p3))] [(.int (f0_s0_273013 p0 p1 p2 p3))])) t → Steps p.tables e below (s₁.setTop (entryFrame m #[(.int p0), (.int p1), (.int p2), (.int p3)] maxLocals)) t := by
          intro t kt
          by_cases hc56 : (f4 (f0_e14 p0 p1 p2 p3) (f0_e15 p0 p1 p2 p3) (f0_e16 p0 p1 p2 p3)) = (0 : Int32)
          · have hj : (f0_s0_273013 p0 p1 p2 p3) = (1 : Int32) := by unfold f0_s0_273013; rw [if_pos hc56]
            rw [hj] at kt
            refine pre55 t ?_
            show Steps p.tables e below (T54.setTop (mkF m 265 #[.val (.int p0), .val (.int p1), .val (.int p2), .val (.int p3), .val (.int ((p0 &&& (65535 : Int32)).toUInt32.toUInt16.toUInt32.toInt32)), .val (.int (f0_s0_18001 p3)), .val (.int (f0_s0_33002 p3)), .val (.ref b7), .val (.int (f0_s0_76004 p0)), .val (.int (f0_l9_202011 p1 p3)), .val (.int (f0_l10_234012 p1 p2 p3))] [(.int (f4 (f0_e14 p0 p1 p2 p3) (f0_e15 p0 p1 p2 p3) (f0_e16 p0 p1 p2 p3)))])) _
            refine XS.ifNo X54.here hx rfl (hb hby at_265) rfl ((if0 _ _).trans (teq hc56).2) ?_
            show Steps p.tables e below (T54.setTop (mkF m 268 #[.val (.int p0), .val (.int p1), .val (.int p2), .val (.int p3), .val (.int ((p0 &&& (65535 : Int32)).toUInt32.toUInt16.toUInt32.toInt32)), .val (.int (f0_s0_18001 p3)), .val (.int (f0_s0_33002 p3)), .val (.ref b7), .val (.int (f0_s0_76004 p0)), .val (.int (f0_l9_202011 p1 p3)), .val (.int (f0_l10_234012 p1 p2 p3))] [])) _
            refine XS.iconst X54.here hx rfl (hb hby at_268) ?_
            show Steps p.tables e below (T54.setTop (mkF m 269 #[.val (.int p0), .val (.int p1), .val (.int p2), .val (.int p3), .val (.int ((p0 &&& (65535 : Int32)).toUInt32.toUInt16.toUInt32.toInt32)), .val (.int (f0_s0_18001 p3)), .val (.int (f0_s0_33002 p3)), .val (.ref b7), .val (.int (f0_s0_76004 p0)), .val (.int (f0_l9_202011 p1 p3)), .val (.int (f0_l10_234012 p1 p2 p3))] [(.int (1 : Int32))])) _
            refine XS.goto X54.here hx rfl (pc0 := 269) (pc' := 273) rfl (hb hby at_269) (by decide) (by decide) ?_
            exact kt
          · have hj : (f0_s0_273013 p0 p1 p2 p3) = (0 : Int32) := by unfold f0_s0_273013; rw [if_neg hc56]
            rw [hj] at kt
            refine pre55 t ?_
            show Steps p.tables e below (T54.setTop (mkF m 265 #[.val (.int p0), .val (.int p1), .val (.int p2), .val (.int p3), .val (.int ((p0 &&& (65535 : Int32)).toUInt32.toUInt16.toUInt32.toInt32)), .val (.int (f0_s0_18001 p3)), .val (.int (f0_s0_33002 p3)), .val (.ref b7), .val (.int (f0_s0_76004 p0)), .val (.int (f0_l9_202011 p1 p3)), .val (.int (f0_l10_234012 p1 p2 p3))] [(.int (f4 (f0_e14 p0 p1 p2 p3) (f0_e15 p0 p1 p2 p3) (f0_e16 p0 p1 p2 p3)))])) _
            refine XS.ifYes X54.here hx rfl (pc0 := 265) (pc' := 272) rfl (hb hby at_265) rfl ((if0 _ _).trans (feq hc56).2) (by decide) (by decide) ?_
            show Steps p.tables e below (T54.setTop (mkF m 272 #[.val (.int p0), .val (.int p1), .val (.int p2), .val (.int p3), .val (.int ((p0 &&& (65535 : Int32)).toUInt32.toUInt16.toUInt32.toInt32)), .val (.int (f0_s0_18001 p3)), .val (.int (f0_s0_33002 p3)), .val (.ref b7), .val (.int (f0_s0_76004 p0)), .val (.int (f0_l9_202011 p1 p3)), .val (.int (f0_l10_234012 p1 p2 p3))] [])) _
            refine XS.iconst X54.here hx rfl (hb hby at_272) ?_
            exact kt
        refine ⟨T54, _, X54, e54, N54, fun t kt => ?_⟩
        have hj : (f0_s0_273014 p0 p1 p2 p3) = (f0_s0_273013 p0 p1 p2 p3) := by unfold f0_s0_273014; rw [if_neg hc53]
        rw [hj] at kt
        refine pre57 t ?_
        exact kt
    obtain ⟨cq59, kq59, q59a, q59b, q59c⟩ := isOf hZ e58 E51q
    obtain ⟨_, _, ⟨T59, L59, k59, n59⟩, -, X59, ⟨Lc59, hQ59, l59, y59, z59⟩, st59⟩ := X58.virtualBack hx (y := (⟨"com/example/libinterp/libinterp/PathParser$SelectorScan", "read", "(C)V"⟩ : MethodName)) (z := (⟨"com/example/libinterp/libinterp/PathParser$SelectorScan", "read", "(C)V"⟩ : MethodName)) hown (mvT hZ (hw _ (List.mem_of_getElem? (i := 12) rfl))) (mvT hZ (hw _ (List.mem_of_getElem? (i := 13) rfl))) (notFace_of_selects (args := #[]) (mvT hZ (hw _ (List.mem_of_getElem? (i := 15) rfl)))) (mvT hZ (hw _ (List.mem_of_getElem? (i := 15) rfl))) (mvT hZ (hw _ (List.mem_of_getElem? (i := 14) rfl))) (by decide) (backOf (W := 0) (rm3 l Z a0 hw [] b7 (f0_s0_33002 p3) (f0_e14 p0 p1 p2 p3) (f0_e15 p0 p1 p2 p3) (f0_e16 p0 p1 p2 p3) T51.heap n0 Zz51 E51q gn_b7 F51n_quote F51n_inSelector F51n_escaping) hZ (hw _ (List.mem_of_getElem? (i := 16) rfl)) (hw _ (List.mem_of_getElem? (i := 3) rfl)) (by decide) (by decide)) q59a q59c (g := (mkF m 279 #[.val (.int p0), .val (.int p1), .val (.int p2), .val (.int p3), .val (.int ((p0 &&& (65535 : Int32)).toUInt32.toUInt16.toUInt32.toInt32)), .val (.int (f0_s0_18001 p3)), .val (.int (f0_s0_33002 p3)), .val (.ref b7), .val (.int (f0_s0_273014 p0 p1 p2 p3)), .val (.int (f0_l9_202011 p1 p3)), .val (.int (f0_l10_234012 p1 p2 p3))] [(.int (f0_s0_33002 p3)), (.ref b7)])) rfl (by rw [hml]; rfl) (Steps.refl _) (argsL := [(.int (f0_s0_33002 p3))]) (rest := []) (lenOf pd_1 rfl) rfl (by show 2 * 0 + _ ≤ _; exact Nat.le_of_eq rfl) (hb hby at_279) (fun _ _ => ⟨rfl, e58, (by decide : 1 + 0 ≤ _), (by decide : 3 + 0 ≤ _)⟩)
    dsimp only [Pt.U, Pt.locs, Pt.cells, Pt.slots] at X59 l59 y59 z59 st59 hQ59
    subst l59 y59 z59
    obtain ⟨rfl, N59q, K59q, E59q, F59q_quote, F59q_inSelector, F59q_escaping⟩ := hQ59
    have F59n_quote : Fld Z T59.heap b7 "com/example/libinterp/libinterp/PathParser$SelectorScan" "quote" "C" (.int (f0_e17 p0 p1 p2 p3)) := F59q_quote
    have F59n_inSelector : Fld Z T59.heap b7 "com/example/libinterp/libinterp/PathParser$SelectorScan" "inSelector" "Z" (.int (f0_e18 p0 p1 p2 p3)) := F59q_inSelector
    have F59n_escaping : Fld Z T59.heap b7 "com/example/libinterp/libinterp/PathParser$SelectorScan" "escaping" "Z" (.int (f0_e19 p0 p1 p2 p3)) := F59q_escaping
    have Zz59 := Nat.le_trans Zz51 K59q.1
    have K59 : Keep h0 T59.heap [] := K51.trans K59q (allS (Or.inr sz_b7) all0)
    have N59 := Fr.app N58 N59q
    obtain ⟨cq60, kq60, q60a, q60b, q60c⟩ := isOf hZ rfl E59q
    obtain ⟨_, _, ⟨T60, L60, k60, n60⟩, -, X60, ⟨Lc60, hQ60, l60, y60, z60⟩, st60⟩ := X59.virtualBack hx (y := (⟨"com/example/libinterp/libinterp/PathParser$SelectorScan", "read", "(C)V"⟩ : MethodName)) (z := (⟨"com/example/libinterp/libinterp/PathParser$SelectorScan", "read", "(C)V"⟩ : MethodName)) hown (mvT hZ (hw _ (List.mem_of_getElem? (i := 12) rfl))) (mvT hZ (hw _ (List.mem_of_getElem? (i := 13) rfl))) (notFace_of_selects (args := #[]) (mvT hZ (hw _ (List.mem_of_getElem? (i := 15) rfl)))) (mvT hZ (hw _ (List.mem_of_getElem? (i := 15) rfl))) (mvT hZ (hw _ (List.mem_of_getElem? (i := 14) rfl))) (by decide) (backOf (W := 0) (rm3 l Z a0 hw [] b7 (93 : Int32) (f0_e17 p0 p1 p2 p3) (f0_e18 p0 p1 p2 p3) (f0_e19 p0 p1 p2 p3) T59.heap n0 Zz59 E59q gn_b7 F59n_quote F59n_inSelector F59n_escaping) hZ (hw _ (List.mem_of_getElem? (i := 16) rfl)) (hw _ (List.mem_of_getElem? (i := 3) rfl)) (by decide) (by decide)) q60a q60c (g := (mkF m 286 #[.val (.int p0), .val (.int p1), .val (.int p2), .val (.int p3), .val (.int ((p0 &&& (65535 : Int32)).toUInt32.toUInt16.toUInt32.toInt32)), .val (.int (f0_s0_18001 p3)), .val (.int (f0_s0_33002 p3)), .val (.ref b7), .val (.int (f0_s0_273014 p0 p1 p2 p3)), .val (.int (f0_l9_202011 p1 p3)), .val (.int (f0_l10_234012 p1 p2 p3))] [(.int (93 : Int32)), (.ref b7)])) rfl (by rw [hml]; rfl) (Steps.refl _) (argsL := [(.int (93 : Int32))]) (rest := []) (lenOf pd_1 rfl) rfl (by show 2 * 0 + _ ≤ _; exact Nat.le_of_eq rfl) (hb hby at_286) (fun _ _ => ⟨rfl, rfl, (by decide : 1 + 0 ≤ _), (by decide : 3 + 0 ≤ _)⟩)
    dsimp only [Pt.U, Pt.locs, Pt.cells, Pt.slots] at X60 l60 y60 z60 st60 hQ60
    subst l60 y60 z60
    obtain ⟨rfl, N60q, K60q, E60q, F60q_quote, F60q_inSelector, F60q_escaping⟩ := hQ60
    have F60n_quote : Fld Z T60.heap b7 "com/example/libinterp/libinterp/PathParser$SelectorScan" "quote" "C" (.int (f0_e20 p0 p1 p2 p3)) := F60q_quote
    have F60n_inSelector : Fld Z T60.heap b7 "com/example/libinterp/libinterp/PathParser$SelectorScan" "inSelector" "Z" (.int (f0_e21 p0 p1 p2 p3)) := F60q_inSelector
    have F60n_escaping : Fld Z T60.heap b7 "com/example/libinterp/libinterp/PathParser$SelectorScan" "escaping" "Z" (.int (f0_e22 p0 p1 p2 p3)) := F60q_escaping
    have Zz60 := Nat.le_trans Zz59 K60q.1
    have K60 : Keep h0 T60.heap [] := K59.trans K60q (allS (Or.inr sz_b7) all0)
    have N60 := Fr.app N59 N60q
    have pre61 : ∀ t, Steps p.tables e below (T60.setTop (mkF m 291 #[.val (.int p0), .val (.int p1), .val (.int p2), .val (.int p3), .val (.int ((p0 &&& (65535 : Int32)).toUInt32.toUInt16.toUInt32.toInt32)), .val (.int (f0_s0_18001 p3)), .val (.int (f0_s0_33002 p3)), .val (.ref b7), .val (.int (f0_s0_273014 p0 p1 p2 p3)), .val (.int (f0_l9_202011 p1 p3)), .val (.int (f0_l10_234012 p1 p2 p3))] [(.int (f0_s0_273014 p0 p1 p2 p3))])) t → Steps p.tables e below (s₁.setTop (entryFrame m #[(.int p0), (.int p1), (.int p2), (.int p3)] maxLocals)) t := fun t kt => pre58 t (by
      show Steps p.tables e below (T58.setTop (mkF m 273 #[.val (.int p0), .val (.int p1), .val (.int p2), .val (.int p3), .val (.int ((p0 &&& (65535 : Int32)).toUInt32.toUInt16.toUInt32.toInt32)), .val (.int (f0_s0_18001 p3)), .val (.int (f0_s0_33002 p3)), .val (.ref b7), .val (.int (f0_s0_76004 p0)), .val (.int (f0_l9_202011 p1 p3)), .val (.int (f0_l10_234012 p1 p2 p3))] [(.int (f0_s0_273014 p0 p1 p2 p3))])) _
      refine XS.istore X58.here hx rfl (hb hby at_273) rfl (l' := #[.val (.int p0), .val (.int p1), .val (.int p2), .val (.int p3), .val (.int ((p0 &&& (65535 : Int32)).toUInt32.toUInt16.toUInt32.toInt32)), .val (.int (f0_s0_18001 p3)), .val (.int (f0_s0_33002 p3)), .val (.ref b7), .val (.int (f0_s0_273014 p0 p1 p2 p3)), .val (.int (f0_l9_202011 p1 p3)), .val (.int (f0_l10_234012 p1 p2 p3))]) rfl ?_
      show Steps p.tables e below (T58.setTop (mkF m 275 #[.val (.int p0), .val (.int p1), .val (.int p2), .val (.int p3), .val (.int ((p0 &&& (65535 : Int32)).toUInt32.toUInt16.toUInt32.toInt32)), .val (.int (f0_s0_18001 p3)), .val (.int (f0_s0_33002 p3)), .val (.ref b7), .val (.int (f0_s0_273014 p0 p1 p2 p3)), .val (.int (f0_l9_202011 p1 p3)), .val (.int (f0_l10_234012 p1 p2 p3))] [])) _
      refine XS.aload X58.here hx rfl (hb hby at_275) rfl rfl ?_
      show Steps p.tables e below (T58.setTop (mkF m 277 #[.val (.int p0), .val (.int p1), .val (.int p2), .val (.int p3), .val (.int ((p0 &&& (65535 : Int32)).toUInt32.toUInt16.toUInt32.toInt32)), .val (.int (f0_s0_18001 p3)), .val (.int (f0_s0_33002 p3)), .val (.ref b7), .val (.int (f0_s0_273014 p0 p1 p2 p3)), .val (.int (f0_l9_202011 p1 p3)), .val (.int (f0_l10_234012 p1 p2 p3))] [(.ref b7)])) _
      refine XS.iload X58.here hx rfl (hb hby at_277) rfl ?_
      show Steps p.tables e below (T58.setTop (mkF m 279 #[.val (.int p0), .val (.int p1), .val (.int p2), .val (.int p3), .val (.int ((p0 &&& (65535 : Int32)).toUInt32.toUInt16.toUInt32.toInt32)), .val (.int (f0_s0_18001 p3)), .val (.int (f0_s0_33002 p3)), .val (.ref b7), .val (.int (f0_s0_273014 p0 p1 p2 p3)), .val (.int (f0_l9_202011 p1 p3)), .val (.int (f0_l10_234012 p1 p2 p3))] [(.int (f0_s0_33002 p3)), (.ref b7)])) _
      refine st59.trans ?_
      show Steps p.tables e below (T59.setTop (mkF m 282 #[.val (.int p0), .val (.int p1), .val (.int p2), .val (.int p3), .val (.int ((p0 &&& (65535 : Int32)).toUInt32.toUInt16.toUInt32.toInt32)), .val (.int (f0_s0_18001 p3)), .val (.int (f0_s0_33002 p3)), .val (.ref b7), .val (.int (f0_s0_273014 p0 p1 p2 p3)), .val (.int (f0_l9_202011 p1 p3)), .val (.int (f0_l10_234012 p1 p2 p3))] [])) _
      refine XS.aload X59.here hx rfl (hb hby at_282) rfl rfl ?_
      show Steps p.tables e below (T59.setTop (mkF m 284 #[.val (.int p0), .val (.int p1), .val (.int p2), .val (.int p3), .val (.int ((p0 &&& (65535 : Int32)).toUInt32.toUInt16.toUInt32.toInt32)), .val (.int (f0_s0_18001 p3)), .val (.int (f0_s0_33002 p3)), .val (.ref b7), .val (.int (f0_s0_273014 p0 p1 p2 p3)), .val (.int (f0_l9_202011 p1 p3)), .val (.int (f0_l10_234012 p1 p2 p3))] [(.ref b7)])) _
      refine XS.bipush X59.here hx rfl (hb hby at_284) ?_
      show Steps p.tables e below (T59.setTop (mkF m 286 #[.val (.int p0), .val (.int p1), .val (.int p2), .val (.int p3), .val (.int ((p0 &&& (65535 : Int32)).toUInt32.toUInt16.toUInt32.toInt32)), .val (.int (f0_s0_18001 p3)), .val (.int (f0_s0_33002 p3)), .val (.ref b7), .val (.int (f0_s0_273014 p0 p1 p2 p3)), .val (.int (f0_l9_202011 p1 p3)), .val (.int (f0_l10_234012 p1 p2 p3))] [(.int (93 : Int32)), (.ref b7)])) _
      refine st60.trans ?_
      show Steps p.tables e below (T60.setTop (mkF m 289 #[.val (.int p0), .val (.int p1), .val (.int p2), .val (.int p3), .val (.int ((p0 &&& (65535 : Int32)).toUInt32.toUInt16.toUInt32.toInt32)), .val (.int (f0_s0_18001 p3)), .val (.int (f0_s0_33002 p3)), .val (.ref b7), .val (.int (f0_s0_273014 p0 p1 p2 p3)), .val (.int (f0_l9_202011 p1 p3)), .val (.int (f0_l10_234012 p1 p2 p3))] [])) _
      refine XS.iload X60.here hx rfl (hb hby at_289) rfl ?_
      exact kt)
    obtain ⟨T67, L67, X67, e67, N67, pre67⟩ : ∃ (T' : State) (L' : List Loc), Stand p l e room_1 s m #[(.int p0), (.int p1), (.int p2), (.int p3)] below meth c T' L' 1 3 ∧ T'.heap = T60.heap ∧ Fr n0 L' ∧ ∀ t, Steps p.tables e below (T'.setTop (mkF m 307 #[.val (.int p0), .val (.int p1), .val (.int p2), .val (.int p3), .val (.int ((p0 &&& (65535 : Int32)).toUInt32.toUInt16.toUInt32.toInt32)), .val (.int (f0_s0_18001 p3)), .val (.int (f0_s0_33002 p3)), .val (.ref b7), .val (.int (f0_s0_273014 p0 p1 p2 p3)), .val (.int (f0_l9_202011 p1 p3)), .val (.int (f0_l10_234012 p1 p2 p3))] [(.int (f0_s0_307016 p0 p1 p2 p3))])) t → Steps p.tables e below (s₁.setTop (entryFrame m #[(.int p0), (.int p1), (.int p2), (.int p3)] maxLocals)) t := by
      by_cases hc62 : (f0_s0_273014 p0 p1 p2 p3) = (0 : Int32)
      · refine ⟨T60, _, X60, rfl, N60, fun t kt => ?_⟩
        have hj : (f0_s0_307016 p0 p1 p2 p3) = (0 : Int32) := by unfold f0_s0_307016; rw [if_pos hc62]
        rw [hj] at kt
        refine pre61 t ?_
        show Steps p.tables e below (T60.setTop (mkF m 291 #[.val (.int p0), .val (.int p1), .val (.int p2), .val (.int p3), .val (.int ((p0 &&& (65535 : Int32)).toUInt32.toUInt16.toUInt32.toInt32)), .val (.int (f0_s0_18001 p3)), .val (.int (f0_s0_33002 p3)), .val (.ref b7), .val (.int (f0_s0_273014 p0 p1 p2 p3)), .val (.int (f0_l9_202011 p1 p3)), .val (.int (f0_l10_234012 p1 p2 p3))] [(.int (f0_s0_273014 p0 p1 p2 p3))])) _
        refine XS.ifYes X60.here hx rfl (pc0 := 291) (pc' := 306) rfl (hb hby at_291) rfl ((if0 _ _).trans (teq hc62).1) (by decide) (by decide) ?_
        show Steps p.tables e below (T60.setTop (mkF m 306 #[.val (.int p0), .val (.int p1), .val (.int p2), .val (.int p3), .val (.int ((p0 &&& (65535 : Int32)).toUInt32.toUInt16.toUInt32.toInt32)), .val (.int (f0_s0_18001 p3)), .val (.int (f0_s0_33002 p3)), .val (.ref b7), .val (.int (f0_s0_273014 p0 p1 p2 p3)), .val (.int (f0_l9_202011 p1 p3)), .val (.int (f0_l10_234012 p1 p2 p3))] [])) _
        refine XS.iconst X60.here hx rfl (hb hby at_306) ?_
        exact kt
      · obtain ⟨cq63, kq63, q63a, q63b, q63c⟩ := isOf hZ rfl E60q
        obtain ⟨_, _, ⟨T63, L63, k63, n63⟩, -, X63, ⟨Lc63, hQ63, l63, y63, z63⟩, st63⟩ := X60.virtualBack hx (y := (⟨"com/example/libinterp/libinterp/PathParser$SelectorScan", "isOutside", "()Z"⟩ : MethodName)) (z := (⟨"com/example/libinterp/libinterp/PathParser$SelectorScan", "isOutside", "()Z"⟩ : MethodName)) hown (mvT hZ (hw _ (List.mem_of_getElem? (i := 19) rfl))) (mvT hZ (hw _ (List.mem_of_getElem? (i := 20) rfl))) (notFace_of_selects (args := #[]) (mvT hZ (hw _ (List.mem_of_getElem? (i := 22) rfl)))) (mvT hZ (hw _ (List.mem_of_getElem? (i := 22) rfl))) (mvT hZ (hw _ (List.mem_of_getElem? (i := 21) rfl))) (by decide) (backOf (W := 0) (rm4 l Z a0 hw [] b7 (f0_e20 p0 p1 p2 p3) (f0_e21 p0 p1 p2 p3) (f0_e22 p0 p1 p2 p3) T60.heap n0 Zz60 E60q gn_b7 F60n_quote F60n_inSelector F60n_escaping) hZ (hw _ (List.mem_of_getElem? (i := 23) rfl)) (hw _ (List.mem_of_getElem? (i := 3) rfl)) (by decide) (by decide)) q63a q63c (g := (mkF m 296 #[.val (.int p0), .val (.int p1), .val (.int p2), .val (.int p3), .val (.int ((p0 &&& (65535 : Int32)).toUInt32.toUInt16.toUInt32.toInt32)), .val (.int (f0_s0_18001 p3)), .val (.int (f0_s0_33002 p3)), .val (.ref b7), .val (.int (f0_s0_273014 p0 p1 p2 p3)), .val (.int (f0_l9_202011 p1 p3)), .val (.int (f0_l10_234012 p1 p2 p3))] [(.ref b7)])) rfl (by rw [hml]; rfl) (Steps.refl _) (argsL := []) (rest := []) (lenOf pd_3 rfl) rfl (by show 2 * 0 + _ ≤ _; exact Nat.le_of_eq rfl) (hb hby at_296) (fun _ _ => ⟨rfl, rfl, (by decide : 1 + 0 ≤ _), (by decide : 3 + 0 ≤ _)⟩)
        dsimp only [Pt.U, Pt.locs, Pt.cells, Pt.slots] at X63 l63 y63 z63 st63 hQ63
        subst l63 y63 z63
        obtain ⟨rfl, N63q, e63⟩ := hQ63
        have N63 := Fr.app N60 N63q
        have pre64 : ∀ t, Steps p.tables e below (T63.setTop (mkF m 299 #[.val (.int p0), .val (.int p1), .val (.int p2), .val (.int p3), .val (.int ((p0 &&& (65535 : Int32)).toUInt32.toUInt16.toUInt32.toInt32)), .val (.int (f0_s0_18001 p3)), .val (.int (f0_s0_33002 p3)), .val (.ref b7), .val (.int (f0_s0_273014 p0 p1 p2 p3)), .val (.int (f0_l9_202011 p1 p3)), .val (.int (f0_l10_234012 p1 p2 p3))] [(.int (f4 (f0_e20 p0 p1 p2 p3) (f0_e21 p0 p1 p2 p3) (f0_e22 p0 p1 p2 p3)))])) t → Steps p.tables e below (s₁.setTop (entryFrame m #[(.int p0), (.int p1), (.int p2), (.int p3)] maxLocals)) t := fun t kt => pre61 t (by
          show Steps p.tables e below (T60.setTop (mkF m 291 #[.val (.int p0), .val (.int p1), .val (.int p2), .val (.int p3), .val (.int ((p0 &&& (65535 : Int32)).toUInt32.toUInt16.toUInt32.toInt32)), .val (.int (f0_s0_18001 p3)), .val (.int (f0_s0_33002 p3)), .val (.ref b7), .val (.int (f0_s0_273014 p0 p1 p2 p3)), .val (.int (f0_l9_202011 p1 p3)), .val (.int (f0_l10_234012 p1 p2 p3))] [(.int (f0_s0_273014 p0 p1 p2 p3))])) _
          refine XS.ifNo X60.here hx rfl (hb hby at_291) rfl ((if0 _ _).trans (feq hc62).1) ?_
          show Steps p.tables e below (T60.setTop (mkF m 294 #[.val (.int p0), .val (.int p1), .val (.int p2), .val (.int p3), .val (.int ((p0 &&& (65535 : Int32)).toUInt32.toUInt16.toUInt32.toInt32)), .val (.int (f0_s0_18001 p3)), .val (.int (f0_s0_33002 p3)), .val (.ref b7), .val (.int (f0_s0_273014 p0 p1 p2 p3)), .val (.int (f0_l9_202011 p1 p3)), .val (.int (f0_l10_234012 p1 p2 p3))] [])) _
          refine XS.aload X60.here hx rfl (hb hby at_294) rfl rfl ?_
          show Steps p.tables e below (T60.setTop (mkF m 296 #[.val (.int p0), .val (.int p1), .val (.int p2), .val (.int p3), .val (.int ((p0 &&& (65535 : Int32)).toUInt32.toUInt16.toUInt32.toInt32)), .val (.int (f0_s0_18001 p3)), .val (.int (f0_s0_33002 p3)), .val (.ref b7), .val (.int (f0_s0_273014 p0 p1 p2 p3)), .val (.int (f0_l9_202011 p1 p3)), .val (.int (f0_l10_234012 p1 p2 p3))] [(.ref b7)])) _
          refine st63.trans ?_
          exact kt)
        have pre66 : ∀ t, Steps p.tables e below (T63.setTop (mkF m 307 #[.val (.int p0), .val (.int p1), .val (.int p2), .val (.int p3), .val (.int ((p0 &&& (65535 : Int32)).toUInt32.toUInt16.toUInt32.toInt32)), .val (.int (f0_s0_18001 p3)), .val (.int (f0_s0_33002 p3)), .val (.ref b7), .val (.int (f0_s0_273014 p0 p1 p2 p3)), .val (.int (f0_l9_202011 p1 p3)), .val (.int (f0_l10_234012 p1 p2 p3))] [(.int (f0_s0_307015 p0 p1 p2 p3))])) t → Steps p.tables e below (s₁.setTop (entryFrame m #[(.int p0), (.int p1), (.int p2), (.int p3)] maxLocals)) t := by
          intro t kt
          by_cases hc65 : (f4 (f0_e20 p0 p1 p2 p3) (f0_e21 p0 p1 p2 p3) (f0_e22 p0 p1 p2 p3)) = (0 : Int32)
          · have hj : (f0_s0_307015 p0 p1 p2 p3) = (0 : Int32) := by unfold f0_s0_307015; rw [if_pos hc65]
            rw [hj] at kt
            refine pre64 t ?_
            show Steps p.tables e below (T63.setTop (mkF m 299 #[.val (.int p0), .val (.int p1), .val (.int p2), .val (.int p3), .val (.int ((p0 &&& (65535 : Int32)).toUInt32.toUInt16.toUInt32.toInt32)), .val (.int (f0_s0_18001 p3)), .val (.int (f0_s0_33002 p3)), .val (.ref b7), .val (.int (f0_s0_273014 p0 p1 p2 p3)), .val (.int (f0_l9_202011 p1 p3)), .val (.int (f0_l10_234012 p1 p2 p3))] [(.int (f4 (f0_e20 p0 p1 p2 p3) (f0_e21 p0 p1 p2 p3) (f0_e22 p0 p1 p2 p3)))])) _
            refine XS.ifYes X63.here hx rfl (pc0 := 299) (pc' := 306) rfl (hb hby at_299) rfl ((if0 _ _).trans (teq hc65).1) (by decide) (by decide) ?_
            show Steps p.tables e below (T63.setTop (mkF m 306 #[.val (.int p0), .val (.int p1), .val (.int p2), .val (.int p3), .val (.int ((p0 &&& (65535 : Int32)).toUInt32.toUInt16.toUInt32.toInt32)), .val (.int (f0_s0_18001 p3)), .val (.int (f0_s0_33002 p3)), .val (.ref b7), .val (.int (f0_s0_273014 p0 p1 p2 p3)), .val (.int (f0_l9_202011 p1 p3)), .val (.int (f0_l10_234012 p1 p2 p3))] [])) _
            refine XS.iconst X63.here hx rfl (hb hby at_306) ?_
            exact kt
          · have hj : (f0_s0_307015 p0 p1 p2 p3) = (1 : Int32) := by unfold f0_s0_307015; rw [if_neg hc65]
            rw [hj] at kt
            refine pre64 t ?_
            show Steps p.tables e below (T63.setTop (mkF m 299 #[.val (.int p0), .val (.int p1), .val (.int p2), .val (.int p3), .val (.int ((p0 &&& (65535 : Int32)).toUInt32.toUInt16.toUInt32.toInt32)), .val (.int (f0_s0_18001 p3)), .val (.int (f0_s0_33002 p3)), .val (.ref b7), .val (.int (f0_s0_273014 p0 p1 p2 p3)), .val (.int (f0_l9_202011 p1 p3)), .val (.int (f0_l10_234012 p1 p2 p3))] [(.int (f4 (f0_e20 p0 p1 p2 p3) (f0_e21 p0 p1 p2 p3) (f0_e22 p0 p1 p2 p3)))])) _
            refine XS.ifNo X63.here hx rfl (hb hby at_299) rfl ((if0 _ _).trans (feq hc65).1) ?_
            show Steps p.tables e below (T63.setTop (mkF m 302 #[.val (.int p0), .val (.int p1), .val (.int p2), .val (.int p3), .val (.int ((p0 &&& (65535 : Int32)).toUInt32.toUInt16.toUInt32.toInt32)), .val (.int (f0_s0_18001 p3)), .val (.int (f0_s0_33002 p3)), .val (.ref b7), .val (.int (f0_s0_273014 p0 p1 p2 p3)), .val (.int (f0_l9_202011 p1 p3)), .val (.int (f0_l10_234012 p1 p2 p3))] [])) _
            refine XS.iconst X63.here hx rfl (hb hby at_302) ?_
            show Steps p.tables e below (T63.setTop (mkF m 303 #[.val (.int p0), .val (.int p1), .val (.int p2), .val (.int p3), .val (.int ((p0 &&& (65535 : Int32)).toUInt32.toUInt16.toUInt32.toInt32)), .val (.int (f0_s0_18001 p3)), .val (.int (f0_s0_33002 p3)), .val (.ref b7), .val (.int (f0_s0_273014 p0 p1 p2 p3)), .val (.int (f0_l9_202011 p1 p3)), .val (.int (f0_l10_234012 p1 p2 p3))] [(.int (1 : Int32))])) _
            refine XS.goto X63.here hx rfl (pc0 := 303) (pc' := 307) rfl (hb hby at_303) (by decide) (by decide) ?_
            exact kt
        refine ⟨T63, _, X63, e63, N63, fun t kt => ?_⟩
        have hj : (f0_s0_307016 p0 p1 p2 p3) = (f0_s0_307015 p0 p1 p2 p3) := by unfold f0_s0_307016; rw [if_neg hc62]
        rw [hj] at kt
        refine pre66 t ?_
        exact kt
    obtain ⟨fs, hr, hrun, hended, hW, hsame⟩ := X67.leave (v := some (.int ((f0_s0_307016 p0 p1 p2 p3) &&& 1))) (fun h => by rw [Bd.returns] at h; cases h)
    refine ⟨_, _, pre67 _ ?_, hrun, hended, _, _, rfl, ?_, ⟨_, rfl⟩, hW, hsame.mono (by decide) (by decide)⟩
    · show Steps p.tables e below (T67.setTop (mkF m 307 #[.val (.int p0), .val (.int p1), .val (.int p2), .val (.int p3), .val (.int ((p0 &&& (65535 : Int32)).toUInt32.toUInt16.toUInt32.toInt32)), .val (.int (f0_s0_18001 p3)), .val (.int (f0_s0_33002 p3)), .val (.ref b7), .val (.int (f0_s0_273014 p0 p1 p2 p3)), .val (.int (f0_l9_202011 p1 p3)), .val (.int (f0_l10_234012 p1 p2 p3))] [(.int (f0_s0_307016 p0 p1 p2 p3))])) _
      refine XS.istore X67.here hx rfl (hb hby at_307) rfl (l' := #[.val (.int p0), .val (.int p1), .val (.int p2), .val (.int p3), .val (.int ((p0 &&& (65535 : Int32)).toUInt32.toUInt16.toUInt32.toInt32)), .val (.int (f0_s0_18001 p3)), .val (.int (f0_s0_33002 p3)), .val (.ref b7), .val (.int (f0_s0_307016 p0 p1 p2 p3)), .val (.int (f0_l9_202011 p1 p3)), .val (.int (f0_l10_234012 p1 p2 p3))]) rfl ?_
      show Steps p.tables e below (T67.setTop (mkF m 309 #[.val (.int p0), .val (.int p1), .val (.int p2), .val (.int p3), .val (.int ((p0 &&& (65535 : Int32)).toUInt32.toUInt16.toUInt32.toInt32)), .val (.int (f0_s0_18001 p3)), .val (.int (f0_s0_33002 p3)), .val (.ref b7), .val (.int (f0_s0_307016 p0 p1 p2 p3)), .val (.int (f0_l9_202011 p1 p3)), .val (.int (f0_l10_234012 p1 p2 p3))] [])) _
      refine XS.iload X67.here hx rfl (hb hby at_309) rfl ?_
      show Steps p.tables e below (T67.setTop (mkF m 311 #[.val (.int p0), .val (.int p1), .val (.int p2), .val (.int p3), .val (.int ((p0 &&& (65535 : Int32)).toUInt32.toUInt16.toUInt32.toInt32)), .val (.int (f0_s0_18001 p3)), .val (.int (f0_s0_33002 p3)), .val (.ref b7), .val (.int (f0_s0_307016 p0 p1 p2 p3)), .val (.int (f0_l9_202011 p1 p3)), .val (.int (f0_l10_234012 p1 p2 p3))] [(.int (f0_s0_307016 p0 p1 p2 p3))])) _
      exact retN X67 hx (t := .boolean) Bd.returns (by simp) (hb hby at_311) hr
    · show Q0 Z p0 p1 p2 p3 h0 n0 _ T67.heap _
      rw [e67]
      exact ⟨by rw [show f0 p0 p1 p2 p3 = ((f0_s0_307016 p0 p1 p2 p3) &&& 1) from by unfold f0; rw [if_neg hc18]], N67⟩
theorem own_q10 (p : Int32) : f3_quote p 0 1 0 = if p = 39 then 39 else if p = 34 then 34 else 0 := by
  unfold f3_quote f5
  by_cases h1 : p = 39
  · subst h1; decide
  · by_cases h2 : p = 34
    · subst h2; decide
    · simp [h1, h2]
theorem own_s10 (p : Int32) : f3_inSelector p 0 1 0 = if p = 93 then 0 else 1 := by
  unfold f3_inSelector f5
  by_cases h1 : p = 39
  · subst h1; decide
  · by_cases h2 : p = 34
    · subst h2; decide
    · simp [h1, h2]
theorem own_e10 (p : Int32) : f3_escaping p 0 1 0 = 0 := by
  unfold f3_escaping
  simp
theorem own_q00 (p : Int32) : f3_quote p 0 0 0 = 0 := by unfold f3_quote; rw [if_pos rfl, if_pos rfl]
theorem own_s00 (p : Int32) : f3_inSelector p 0 0 0 = if p = 91 then 1 else 0 := by
  unfold f3_inSelector f3_s0_34001
  rw [if_pos rfl, if_pos rfl]
  by_cases h : p = 91
  · rw [if_pos h]; decide
  · rw [if_neg h]; decide
theorem own_e00 (p : Int32) : f3_escaping p 0 0 0 = 0 := by unfold f3_escaping; rw [if_pos rfl, if_pos rfl]
theorem own_qq (p w : Int32) (hw : ¬ w = 0) : f3_quote p w 1 0 = if p = 92 then w else if p = w then 0 else w := by unfold f3_quote f6_quote; rw [if_neg hw, if_pos rfl]
theorem own_sq (p w e : Int32) (hw : ¬ w = 0) : f3_inSelector p w 1 e = 1 := by unfold f3_inSelector; rw [if_neg hw]
theorem own_eq (p w : Int32) (hw : ¬ w = 0) : f3_escaping p w 1 0 = if p = 92 then 1 else 0 := by
  unfold f3_escaping f6_escaping
  rw [if_neg hw, if_pos rfl]
  simp
theorem own_qe (p w : Int32) (hw : ¬ w = 0) : f3_quote p w 1 1 = w := by unfold f3_quote f6_quote; rw [if_neg hw, if_neg (by decide)]
theorem own_ee (p w : Int32) (hw : ¬ w = 0) : f3_escaping p w 1 1 = 0 := by unfold f3_escaping f6_escaping; rw [if_neg hw, if_neg (by decide)]
theorem own_w0 {w : Int32} (h : w = 34 ∨ w = 39) : ¬ w = 0 := by rcases h with rfl | rfl <;> decide
def own_c0 (p0 : Int32) : Int32 := ((p0 &&& (65535 : Int32)).toUInt32.toUInt16.toUInt32.toInt32)
theorem own_st1 (p0 : Int32) : f0_e1 p0 = 0 ∧ f0_e2 p0 = (if own_c0 p0 = 91 then 1 else 0) ∧ f0_e3 p0 = 0 :=
  ⟨own_q00 (own_c0 p0), own_s00 (own_c0 p0), own_e00 (own_c0 p0)⟩
theorem own_ok1 (p0 : Int32) : f0_s0_76004 p0 = 1 := by
  unfold f0_s0_76004 f4 f0_s0_68003
  rw [(own_st1 p0).2.1]
  show (if (if (if own_c0 p0 = 91 then (1 : Int32) else 0) = 0 then (1 : Int32) else 0) = (if own_c0 p0 = 91 then (0 : Int32) else 1) then (1 : Int32) else 0) = 1
  by_cases h : own_c0 p0 = 91
  · rw [if_pos h, if_pos h]; decide
  · rw [if_neg h, if_neg h]; decide
theorem own_st2 (p0 : Int32) : f3_quote 91 (f0_e1 p0) (f0_e2 p0) (f0_e3 p0) = 0 ∧ f3_inSelector 91 (f0_e1 p0) (f0_e2 p0) (f0_e3 p0) = 1 ∧ f3_escaping 91 (f0_e1 p0) (f0_e2 p0) (f0_e3 p0) = 0 := by
  obtain ⟨a, b, c⟩ := own_st1 p0
  rw [a, b, c]
  by_cases h : own_c0 p0 = 91
  · rw [if_pos h]; decide
  · rw [if_neg h]; decide
theorem own_g (p1 : Int32) : ¬ f0_l9_115005 p1 = 39 ∧ ¬ f0_l9_115005 p1 = 34 := by
  unfold f0_l9_115005
  by_cases h1 : own_c0 p1 = 39
  · have h1' : ((p1 &&& (65535 : Int32)).toUInt32.toUInt16.toUInt32.toInt32) = 39 := h1
    rw [if_pos h1']; decide
  · by_cases h2 : own_c0 p1 = 34
    · have h1' : ¬ ((p1 &&& (65535 : Int32)).toUInt32.toUInt16.toUInt32.toInt32) = 39 := h1
      have h2' : ((p1 &&& (65535 : Int32)).toUInt32.toUInt16.toUInt32.toInt32) = 34 := h2
      rw [if_neg h1', if_pos h2']; decide
    · have h1' : ¬ ((p1 &&& (65535 : Int32)).toUInt32.toUInt16.toUInt32.toInt32) = 39 := h1
      have h2' : ¬ ((p1 &&& (65535 : Int32)).toUInt32.toUInt16.toUInt32.toInt32) = 34 := h2
      rw [if_neg h1', if_neg h2']; exact ⟨h1', h2'⟩
theorem own_st3 (p0 p1 : Int32) : f0_e4 p0 p1 = 0 ∧ f0_e5 p0 p1 = (if f0_l9_115005 p1 = 93 then 0 else 1) ∧ f0_e6 p0 p1 = 0 := by
  unfold f0_e4 f0_e5 f0_e6
  obtain ⟨a, b, c⟩ := own_st2 p0
  rw [a, b, c, own_q10, own_s10, own_e10, if_neg (own_g p1).1, if_neg (own_g p1).2]
  exact ⟨rfl, rfl, rfl⟩
theorem own_ok2 (p0 p1 : Int32) : f0_s0_152008 p0 p1 = 1 := by
  unfold f0_s0_152008 f0_s0_152007 f4 f0_s0_144006
  rw [own_ok1, if_neg (by decide), (own_st3 p0 p1).2.1]
  by_cases h : f0_l9_115005 p1 = 93
  · rw [if_pos h, if_pos h]; decide
  · rw [if_neg h, if_neg h]; decide
theorem own_ok3 (p0 p1 : Int32) : f0_s0_179010 p0 p1 = 1 := by
  unfold f0_s0_179010 f0_s0_179009 f0_e7 f4
  obtain ⟨a, b, c⟩ := own_st3 p0 p1
  rw [own_ok2, if_neg (by decide), a, b, c]
  by_cases h : f0_l9_115005 p1 = 93
  · rw [if_pos h]; decide
  · rw [if_neg h]; decide
theorem own_r (p3 : Int32) : f0_s0_33002 p3 = 34 ∨ f0_s0_33002 p3 = 39 := by
  unfold f0_s0_33002
  split
  · exact Or.inl rfl
  · exact Or.inr rfl
theorem own_q3 (p0 p3 : Int32) : f0_e8 p0 p3 = f0_s0_33002 p3 ∧ f0_e9 p0 p3 = 1 ∧ f0_e10 p0 p3 = 0 := by
  unfold f0_e8 f0_e9 f0_e10
  obtain ⟨a, b, c⟩ := own_st2 p0
  rw [a, b, c, own_q10, own_s10, own_e10]
  rcases own_r p3 with h | h <;> rw [h] <;> decide
theorem own_q5 (p0 p1 p2 p3 : Int32) : f0_e14 p0 p1 p2 p3 = f0_s0_33002 p3 ∧ f0_e15 p0 p1 p2 p3 = 1 ∧ f0_e16 p0 p1 p2 p3 = 0 := by
  have hr := own_r p3
  have h0 := own_w0 hr
  have hx : ¬ f0_l9_202011 p1 p3 = f0_s0_33002 p3 := by
    unfold f0_l9_202011
    split
    · rcases hr with h | h <;> rw [h] <;> decide
    · assumption
  have hy : ¬ f0_l9_202011 p1 p3 = 92 → ¬ f0_l10_234012 p1 p2 p3 = 92 ∧ ¬ f0_l10_234012 p1 p2 p3 = f0_s0_33002 p3 := by
    intro h
    unfold f0_l10_234012
    rw [if_neg h]
    split
    · refine ⟨by decide, ?_⟩
      rcases hr with h | h <;> rw [h] <;> decide
    · split
      · refine ⟨by decide, ?_⟩
        rcases hr with h | h <;> rw [h] <;> decide
      · constructor <;> assumption
  unfold f0_e14 f0_e15 f0_e16 f0_e11 f0_e12 f0_e13
  obtain ⟨a, b, c⟩ := own_q3 p0 p3
  rw [a, b, c, own_qq _ _ h0, own_sq _ _ _ h0, own_eq _ _ h0]
  by_cases h : f0_l9_202011 p1 p3 = 92
  · rw [if_pos h, if_pos h, own_qe _ _ h0, own_sq _ _ _ h0, own_ee _ _ h0]; exact ⟨rfl, rfl, rfl⟩
  · rw [if_neg h, if_neg h, if_neg hx, own_qq _ _ h0, own_sq _ _ _ h0, own_eq _ _ h0, if_neg (hy h).1, if_neg (hy h).1, if_neg (hy h).2]; exact ⟨rfl, rfl, rfl⟩
theorem own_ok4 (p0 p1 p2 p3 : Int32) : f0_s0_273014 p0 p1 p2 p3 = 1 := by
  unfold f0_s0_273014 f0_s0_273013 f4
  rw [own_ok1, if_neg (by decide), (own_q5 p0 p1 p2 p3).2.1]
  decide
theorem own_ok5 (p0 p1 p2 p3 : Int32) : f0_s0_307016 p0 p1 p2 p3 = 1 := by
  unfold f0_s0_307016 f0_s0_307015 f4 f0_e21 f0_e17 f0_e18 f0_e19
  obtain ⟨a, b, c⟩ := own_q5 p0 p1 p2 p3
  rw [own_ok4, if_neg (by decide), a, b, c]
  rcases own_r p3 with h | h <;> rw [h] <;> decide
theorem own_law (p0 p1 p2 p3 : Int32) : f0 p0 p1 p2 p3 = 1 := by
  unfold f0
  rw [own_ok3, own_ok5]
  split <;> rfl
set_option maxRecDepth 65536 in
set_option maxHeartbeats 40000000 in
theorem comes_1 {Post : Tables → Env → Array Value → State → Outcome → State → Prop} (hpost : ∀ tb e args s v u, (limb_1_1.after args s (.returned v) u = true ∧ limb_1_2.after args s (.returned v) u = true ∧ True) → FrameEnd s (.returned v) u (Jvm.fieldLocs frame_1_writes args s ++ Jvm.arrayLocs frame_1_arrays args s ++ Jvm.staticLocs frame_1_statics s) 16 128 → Post tb e args s (.returned v) u) :
    ArmFor flags0 classFile x code maxLocals ret World_1 tables_1 room_1 Calls_1 rest_1 Pre_1 Post := by
  intro l hfl _ _ p e ha hc hk s m args below hf hA hF happ hP
  obtain ⟨hcalls, hrest, hpre⟩ := hP
  obtain ⟨-, -, -, hnamed, -, -, -, hat⟩ := (Spec.applies_iff hf).mp happ
  obtain ⟨hg, hn⟩ := and_e (Cond.before_iff.mp (show (Jvm.Cond.and given_1 narrow_1).before args s = true from hpre))
  obtain ⟨g1, g2⟩ := and_e hg
  obtain ⟨g3, g4⟩ := and_e g2
  obtain ⟨g5, g6⟩ := and_e g4
  obtain ⟨g7, g8⟩ := and_e g6
  obtain ⟨w0, w1, w2, w3, rfl⟩ : ∃ w0 w1 w2 w3 : Value, args = #[w0, w1, w2, w3] := by
    have hs : args.size = 4 := by simpa [Cond.value, given_1] using g1
    obtain ⟨L⟩ := args
    match L, hs with
    | [w0, w1, w2, w3], _ => exact ⟨w0, w1, w2, w3, rfl⟩
  have hw := fun d (hd : d ∈ tables_1) => atoms_spec (ws := Jvm.Cond.code x code maxLocals ret :: tables_1) hat d (List.mem_cons_of_mem _ hd)
  have hfit : Fit s := fun {y c} hc i hi => by
    obtain ⟨ha, rfl⟩ := Array.getElem?_eq_some_iff.mp hc
    have q := List.all_eq_true.mp ((Array.all_eq_true_iff_forall_mem.mp hF) _ (Array.getElem_mem ha)) i (List.mem_range.mpr hi)
    simpa [Array.getElem?_eq_getElem hi] using q
  obtain ⟨i0, ei0⟩ := is_v g3
  obtain rfl : w0 = (.int i0) := Option.some.inj ei0
  obtain ⟨i1, ei1⟩ := is_v g5
  obtain rfl : w1 = (.int i1) := Option.some.inj ei1
  obtain ⟨i2, ei2⟩ := is_v g7
  obtain rfl : w2 = (.int i2) := Option.some.inj ei2
  obtain ⟨i3, ei3⟩ := is_v g8
  obtain rfl : w3 = (.int i3) := Option.some.inj ei3
  obtain ⟨n, o, h1, h2, h3, _, L, rfl, ⟨rfl, N⟩, hq⟩ := rm0 l s _ hw tables_1 i0 i1 i2 i3 s.heap s.heap.size (Nat.le_refl _) p e ha hc hk s m _ below hf ((Spec.applies_iff_loose hf).mp happ).1 ⟨rfl, State.Warmed39.refl s, rfl⟩ trivial
  refine ⟨n, _, h1, h2, h3, hpost _ _ _ _ _ _ ⟨Cond.after_iff.mpr rfl, Cond.after_iff.mpr (eq_i res_at (Term.int_eval (1)) (by rw [own_law i0 i1 i2 i3])), trivial⟩ ⟨hq.1, hq.2.1, (hq.2.2.sift fun y hy => Or.inr (N y hy)).mono (by decide) (by decide)⟩⟩
theorem main_1_1 : Claimed_1_1 := comes_1 fun _ _ _ _ _ _ h hF => ⟨h.1, hF⟩
theorem main_1_2 : Claimed_1_2 := comes_1 fun _ _ _ _ _ _ h hF => ⟨h.2.1, hF⟩
end Jvm.Pilot.@@N@@
namespace Jvm.Pilot.@@N@@
open Jvm Jvm.ClassFile Sem Op Lib Jvm.Free Jvm.Stand Jvm.Pilot.@@N@@.Jvm.D
/-! MADE BY PROGRAM (witnessworld.py) out of the Statement's table words and the real class files: 10 classes; the members and pool entries that the words name. The judged class is class 1, her method 1. -/
namespace start1
open Jvm.ClassFile
def u (s : String) : CpInfo := .utf8 (stringToUtf16 s)
/-- a pool by its gaps: so many unusable entries, then the entry; so many at the end -/
def gap : Nat → List CpInfo → List CpInfo
  | 0, r => r
  | n + 1, r => .unusable :: gap n r
def poolList (es : List (Nat × CpInfo)) (last : Nat) : List CpInfo := es.foldr (fun e r => gap e.1 (e.2 :: r)) (gap last [])
def pool (es : List (Nat × CpInfo)) (last : Nat) : Array CpInfo := ⟨poolList es last⟩
def fileOf (pool : Array CpInfo) (this : Nat) (attrs : Array Attribute := #[]) (ms : Array MethodInfo := #[]) (fl : Nat := 33) (sup : Nat := 0) (ifs : Array Nat := #[]) (fds : Array FieldInfo := #[]) : ClassFile where
  minorVersion := 0
  majorVersion := 65
  constantPool := pool
  accessFlags := fl
  thisClass := this
  superClass := sup
  interfaces := ifs
  fields := fds
  methods := ms
  attributes := attrs
def plain (name : String) (sup : Option ClassId) : Class where
  name := name
  kind := .ordinary
  loader := none
  accessFlags := 33
  super := sup
  interfaces := #[]
  cf := none
  fields := #[]
  methods := #[]
  instanceTypes := #[]
  staticTypes := #[]
  resolved := #[]
  callSites := []
  init := .initialized
  statics := none
  mirror := none

def pool0 : Array CpInfo := pool [(5, u "<init>"), (0, u "()V"), (1, .class_ 10), (1, u "java/lang/Object")] 113

def k0c0 : Code := { maxStack := 0, maxLocals := 1, code := object_method_1_code, exceptionTable := #[], attributes := #[] }
def k0m0 : Method := { name := "<init>", desc := "()V", sig := { parameters := [], returnType := none }, accessFlags := 1, code := some k0c0 }
/-- java/lang/Object -/
def k0 : Class := { plain "java/lang/Object" none with
  accessFlags := 33
  interfaces := #[]
  cf := some (fileOf pool0 8 #[] #[{ accessFlags := 1, nameIndex := 5, descriptorIndex := 6, attributes := #[] }] 33 0 #[] #[])
  fields := #[]
  methods := #[k0m0]
  instanceTypes := #[]
  staticTypes := #[]
  resolved := Array.replicate 124 none
  statics := none }

def pool1 : Array CpInfo := pool [(2, .class_ 4), (0, .nameAndType 5 6), (0, u "java/lang/Object"), (0, u "<init>"), (0, u "()V"), (0, .integer 65535), (0, .class_ 9), (0, u "com/example/libinterp/libinterp/PathParser$SelectorScan"), (0, .methodref 8 3), (0, .methodref 8 12), (0, .nameAndType 13 14), (0, u "read"), (0, u "(C)V"), (0, .methodref 8 16), (0, .nameAndType 17 18), (0, u "isOutside"), (0, u "()Z"), (0, .class_ 20), (0, u "com/example/libinterp/libinterp/SelectorScanIsOutsidePinLaw"), (2, u "law"), (0, u "(IIII)Z")] 7

def k1m0 : Method := { name := "<init>", desc := "()V", sig := { parameters := [], returnType := none }, accessFlags := 1, code := none }
def k1c1 : Code := { maxStack := 3, maxLocals := 11, code := code, exceptionTable := #[], attributes := #[] }
def k1m1 : Method := { name := "law", desc := "(IIII)Z", sig := { parameters := [.int, .int, .int, .int], returnType := some .boolean }, accessFlags := 9, code := some k1c1 }
/-- com/example/libinterp/libinterp/SelectorScanIsOutsidePinLaw -/
def k1 : Class := { plain "com/example/libinterp/libinterp/SelectorScanIsOutsidePinLaw" (some 0) with
  accessFlags := 49
  interfaces := #[]
  cf := some (fileOf pool1 19 #[] #[{ accessFlags := 1, nameIndex := 5, descriptorIndex := 6, attributes := #[] }, { accessFlags := 9, nameIndex := 23, descriptorIndex := 24, attributes := #[] }] 49 2 #[] #[])
  fields := #[]
  methods := #[k1m0, k1m1]
  instanceTypes := #[]
  staticTypes := #[]
  resolved := Array.replicate 32 none
  statics := none }

def pool2 : Array CpInfo := pool [(1, .class_ 2), (0, u "com/example/libinterp/libinterp/PathParser"), (0, .methodref 4 5), (0, .class_ 6), (0, .nameAndType 7 8), (0, u "java/lang/Object"), (0, u "<init>"), (0, u "()V"), (0, .class_ 10), (0, u "com/example/libinterp/libinterp/PathParser$SelectorScan"), (0, .fieldref 9 12), (0, .nameAndType 13 14), (0, u "quote"), (0, u "C"), (0, .methodref 9 16), (0, .nameAndType 17 18), (0, u "readQuoted"), (0, u "(C)V"), (0, .fieldref 9 20), (0, .nameAndType 21 22), (0, u "inSelector"), (0, u "Z"), (0, .methodref 1 24), (0, .nameAndType 25 26), (0, u "isQuote"), (0, u "(C)Z"), (0, .fieldref 9 28), (0, .nameAndType 29 22), (0, u "escaping"), (0, u "NO_QUOTE"), (4, u "read"), (1, u "isOutside"), (0, u "()Z")] 5

def k2c0 : Code := { maxStack := 2, maxLocals := 1, code := prog_39_method_1_code, exceptionTable := #[], attributes := #[] }
def k2m0 : Method := { name := "<init>", desc := "()V", sig := { parameters := [], returnType := none }, accessFlags := 0, code := some k2c0 }
def k2c1 : Code := { maxStack := 3, maxLocals := 2, code := prog_39_method_2_code, exceptionTable := #[], attributes := #[] }
def k2m1 : Method := { name := "read", desc := "(C)V", sig := { parameters := [.char], returnType := none }, accessFlags := 0, code := some k2c1 }
def k2c2 : Code := { maxStack := 2, maxLocals := 2, code := prog_39_method_3_code, exceptionTable := #[], attributes := #[] }
def k2m2 : Method := { name := "readQuoted", desc := "(C)V", sig := { parameters := [.char], returnType := none }, accessFlags := 2, code := some k2c2 }
def k2c3 : Code := { maxStack := 1, maxLocals := 1, code := prog_39_method_4_code, exceptionTable := #[], attributes := #[] }
def k2m3 : Method := { name := "isOutside", desc := "()Z", sig := { parameters := [], returnType := some .boolean }, accessFlags := 0, code := some k2c3 }
/-- com/example/libinterp/libinterp/PathParser$SelectorScan -/
def k2 : Class := { plain "com/example/libinterp/libinterp/PathParser$SelectorScan" (some 0) with
  accessFlags := 48
  interfaces := #[]
  cf := some (fileOf pool2 9 #[.nestHost 1] #[{ accessFlags := 0, nameIndex := 7, descriptorIndex := 8, attributes := #[] }, { accessFlags := 0, nameIndex := 35, descriptorIndex := 18, attributes := #[] }, { accessFlags := 2, nameIndex := 17, descriptorIndex := 18, attributes := #[] }, { accessFlags := 0, nameIndex := 37, descriptorIndex := 38, attributes := #[] }] 48 4 #[] #[{ accessFlags := 26, nameIndex := 30, descriptorIndex := 14, attributes := #[] }, { accessFlags := 2, nameIndex := 21, descriptorIndex := 22, attributes := #[] }, { accessFlags := 2, nameIndex := 13, descriptorIndex := 14, attributes := #[] }, { accessFlags := 2, nameIndex := 29, descriptorIndex := 22, attributes := #[] }])
  fields := #[{ name := "NO_QUOTE", type := .char, accessFlags := 26, slot := 0, constantValue := 0 }, { name := "inSelector", type := .boolean, accessFlags := 2, slot := 0, constantValue := 0 }, { name := "quote", type := .char, accessFlags := 2, slot := 1, constantValue := 0 }, { name := "escaping", type := .boolean, accessFlags := 2, slot := 2, constantValue := 0 }]
  methods := #[k2m0, k2m1, k2m2, k2m3]
  instanceTypes := #[.boolean, .char, .boolean]
  staticTypes := #[.char]
  resolved := Array.replicate 44 none
  statics := none }

def pool3 : Array CpInfo := pool [(2, .class_ 4), (1, u "java/lang/Object"), (6, .class_ 13), (1, u "com/example/libinterp/libinterp/PathParser"), (0, u "steps"), (0, u "Ljava/util/List;"), (2, u "path"), (0, u "Ljava/lang/String;"), (2, u "position"), (0, u "I"), (2, u "inExpression"), (0, u "Z"), (35, u "(C)Z"), (23, u "isQuote"), (123, u "DOT"), (0, u "C"), (2, u "OPENER"), (1, u "CLOSER"), (1, u "ESCAPER"), (1, u "SLASH"), (1, u "FIRST"), (0, u "LAST"), (14, .class_ 240), (0, u "com/example/libinterp/libinterp/PathParser$SelectorScan")] 3

def k3c0 : Code := { maxStack := 2, maxLocals := 1, code := prog_38_method_19_code, exceptionTable := #[], attributes := #[] }
def k3m0 : Method := { name := "isQuote", desc := "(C)Z", sig := { parameters := [.char], returnType := some .boolean }, accessFlags := 8, code := some k3c0 }
/-- com/example/libinterp/libinterp/PathParser -/
def k3 : Class := { plain "com/example/libinterp/libinterp/PathParser" (some 0) with
  accessFlags := 48
  interfaces := #[]
  cf := some (fileOf pool3 11 #[.nestMembers #[239]] #[{ accessFlags := 8, nameIndex := 87, descriptorIndex := 63, attributes := #[] }] 48 2 #[] #[{ accessFlags := 26, nameIndex := 211, descriptorIndex := 212, attributes := #[] }, { accessFlags := 26, nameIndex := 215, descriptorIndex := 212, attributes := #[] }, { accessFlags := 26, nameIndex := 217, descriptorIndex := 212, attributes := #[] }, { accessFlags := 26, nameIndex := 219, descriptorIndex := 212, attributes := #[] }, { accessFlags := 26, nameIndex := 221, descriptorIndex := 212, attributes := #[] }, { accessFlags := 26, nameIndex := 223, descriptorIndex := 19, attributes := #[] }, { accessFlags := 26, nameIndex := 224, descriptorIndex := 19, attributes := #[] }, { accessFlags := 18, nameIndex := 18, descriptorIndex := 19, attributes := #[] }, { accessFlags := 18, nameIndex := 14, descriptorIndex := 15, attributes := #[] }, { accessFlags := 18, nameIndex := 26, descriptorIndex := 27, attributes := #[] }, { accessFlags := 2, nameIndex := 22, descriptorIndex := 23, attributes := #[] }])
  fields := #[{ name := "DOT", type := .char, accessFlags := 26, slot := 0, constantValue := 0 }, { name := "OPENER", type := .char, accessFlags := 26, slot := 1, constantValue := 0 }, { name := "CLOSER", type := .char, accessFlags := 26, slot := 2, constantValue := 0 }, { name := "ESCAPER", type := .char, accessFlags := 26, slot := 3, constantValue := 0 }, { name := "SLASH", type := .char, accessFlags := 26, slot := 4, constantValue := 0 }, { name := "FIRST", type := (.object "java/lang/String"), accessFlags := 26, slot := 5, constantValue := 0 }, { name := "LAST", type := (.object "java/lang/String"), accessFlags := 26, slot := 6, constantValue := 0 }, { name := "path", type := (.object "java/lang/String"), accessFlags := 18, slot := 0, constantValue := 0 }, { name := "steps", type := (.object "java/util/List"), accessFlags := 18, slot := 1, constantValue := 0 }, { name := "inExpression", type := .boolean, accessFlags := 18, slot := 2, constantValue := 0 }, { name := "position", type := .int, accessFlags := 2, slot := 3, constantValue := 0 }]
  methods := #[k3m0]
  instanceTypes := #[(.object "java/lang/String"), (.object "java/util/List"), .boolean, .int]
  staticTypes := #[.char, .char, .char, .char, .char, (.object "java/lang/String"), (.object "java/lang/String")]
  resolved := Array.replicate 244 none
  statics := none }

def pool4 : Array CpInfo := pool [(1, u "java/lang/Cloneable"), (0, .class_ 1), (0, u "java/lang/Object"), (0, .class_ 3)] 3

/-- java/lang/Cloneable -/
def k4 : Class := { plain "java/lang/Cloneable" (some 0) with
  accessFlags := 1537
  interfaces := #[]
  cf := some (fileOf pool4 2 #[] #[] 1537 4 #[] #[])
  fields := #[]
  methods := #[]
  instanceTypes := #[]
  staticTypes := #[]
  resolved := Array.replicate 8 none
  statics := none }

def pool5 : Array CpInfo := pool [(1, u "java/io/Serializable"), (0, .class_ 1), (0, u "java/lang/Object"), (0, .class_ 3)] 3

/-- java/io/Serializable -/
def k5 : Class := { plain "java/io/Serializable" (some 0) with
  accessFlags := 1537
  interfaces := #[]
  cf := some (fileOf pool5 2 #[] #[] 1537 4 #[] #[])
  fields := #[]
  methods := #[]
  instanceTypes := #[]
  staticTypes := #[]
  resolved := Array.replicate 8 none
  statics := none }

/-- the primitive byte -/
def k6 : Class := { plain "byte" none with kind := .primitive 'B', accessFlags := 0x411 }
/-- [B -/
def k7 : Class := { plain "[B" (some 0) with kind := .array 6 .byte, interfaces := #[4, 5], accessFlags := 1041 }

/-- the primitive int -/
def k8 : Class := { plain "int" none with kind := .primitive 'I', accessFlags := 0x411 }
/-- [I -/
def k9 : Class := { plain "[I" (some 0) with kind := .array 8 .int, interfaces := #[4, 5], accessFlags := 1041 }

def heap : Heap := #[]
def classes : Array Class := #[k0, k1, k2, k3, k4, k5, k6, k7, k8, k9]
def interned : List (Array UInt16 × Addr) := []
def slotsUsed : Nat := 0
def theMethod : MethodId := ⟨1, 1⟩
def args0 : Array Value := #[.int 5, .int 5, .int 5, .int 5]
def aboutOver (below : List Frame) : State where
  vm := { classes := classes, interned := interned.toArray }
  heap := heap
  slotsUsed := slotsUsed
  threads := #[{ frames := .invoking theMethod args0 :: below }]
def below0 : List Frame := [.native { method := ⟨0, 0⟩, args := #[] }]
def about1 : State := aboutOver below0
def p0 : Program := .bare "" "" ""
def e0 : Env := launch0.env 0 0 0
theorem w_frames : about1.frames = Frame.invoking theMethod args0 :: below0 := rfl
set_option maxRecDepth 65536 in
theorem w_args : argsFit about1.vm theMethod args0 = true := by decide +kernel
set_option maxRecDepth 65536 in
theorem w_heap : heapFits about1 = true := by decide +kernel
set_option maxRecDepth 65536 in
theorem w_runnable : about1.curStatus? = some .runnable := by decide +kernel
set_option maxRecDepth 65536 in
theorem w_alone : about1.alone = true := by decide +kernel
set_option maxRecDepth 65536 in
theorem w_named : about1.methodNamed? x = some theMethod := by decide +kernel
set_option maxRecDepth 65536 in
theorem w_hears : about1.hears theMethod below0 = true := by decide +kernel
set_option maxRecDepth 65536 in
theorem w_ripe : about1.ripe theMethod args0 below0 = true := by decide +kernel
theorem w_running : about1.status = .running := rfl
set_option maxRecDepth 65536 in
theorem w_room : about1.hasRoom e0.platform room_1 = true :=
  launch0.hasRoom_least _ room_1 (by decide +kernel) (by decide +kernel) (by decide +kernel) (by decide +kernel) (by decide +kernel) (by decide +kernel)
theorem allAtoms_all (ts : List Jvm.Cond) (a : Array Jvm.Value) (st : Jvm.State) : (allAtoms ts).before a st = ts.all (fun c => c.before a st) := by
  induction ts with
  | nil => rfl
  | cons c t ih =>
    show (Jvm.Cond.and c (allAtoms t)).before a st = _
    rw [Jvm.Cond.before_and, ih, List.all_cons]
def words1 : List Jvm.Cond := Jvm.Cond.code x code maxLocals ret :: tables_1
/-- a 'code' word, met by the world's own term for the bytes: nothing is compared byte by byte -/
theorem code_word {y : MethodName} {bytes : ByteArray} {mx : Nat} {rt : Option FieldType} {a : Array Value} {s : State} {m : MethodId} {meth : Method} {c : Code} (h1 : s.methodNamed? y = some m) (h2 : s.vm.method? m = some meth) (h3 : meth.code = some c) (h4 : c.code = bytes)
    (h5 : (c.maxLocals == mx && c.exceptionTable.isEmpty && decide (c.maxStack ≤ mostOperands) && decide (meth.sig.returnType = rt) && !meth.locks && decide (parseMethodDescriptor y.desc = some meth.sig)) = true) : (Jvm.Cond.code y bytes mx rt).before a s = true := by
  simp only [Bool.and_eq_true, beq_iff_eq, Bool.not_eq_true', decide_eq_true_eq] at h5
  obtain ⟨⟨⟨⟨⟨g1, g2⟩, g3⟩, g4⟩, g5⟩, g6⟩ := h5
  simp [Cond.before, Cond.holds, Cond.value, h1, h2, h3, h4, g1, g2, g3, g4, g5, g6]
def isCode : Jvm.Cond → Bool
  | .code _ _ _ _ => true
  | _ => false
theorem all_split {L : List Jvm.Cond} {P : Jvm.Cond → Bool} (h1 : L.all (fun c => isCode c || P c) = true) (h2 : ∀ c ∈ L.filter isCode, P c = true) : L.all P = true := by
  refine List.all_eq_true.mpr fun c hc => ?_
  have h := List.all_eq_true.mp h1 c hc
  rcases Bool.eq_false_or_eq_true (isCode c) with hi | hi
  · exact h2 c (List.mem_filter.mpr ⟨hc, hi⟩)
  · simpa [hi] using h
set_option maxRecDepth 65536 in
theorem w_c0 : (Jvm.Cond.code x code maxLocals ret).before args0 about1 = true := code_word (m := ⟨1, 1⟩) (meth := k1m1) (c := k1c1) (by decide +kernel) rfl rfl rfl (by decide +kernel)
set_option maxRecDepth 65536 in
theorem w_c1 : (Jvm.Cond.code ({ cls := "com/example/libinterp/libinterp/PathParser$SelectorScan", name := "<init>", desc := "()V" } : Jvm.MethodName) prog_39_method_1_code (1 : Nat) (Option.none : Option Jvm.ClassFile.FieldType)).before args0 about1 = true := code_word (m := ⟨2, 0⟩) (meth := k2m0) (c := k2c0) (by decide +kernel) rfl rfl rfl (by decide +kernel)
set_option maxRecDepth 65536 in
theorem w_c2 : (Jvm.Cond.code ({ cls := "java/lang/Object", name := "<init>", desc := "()V" } : Jvm.MethodName) object_method_1_code (1 : Nat) (Option.none : Option Jvm.ClassFile.FieldType)).before args0 about1 = true := code_word (m := ⟨0, 0⟩) (meth := k0m0) (c := k0c0) (by decide +kernel) rfl rfl rfl (by decide +kernel)
set_option maxRecDepth 65536 in
theorem w_c3 : (Jvm.Cond.code ({ cls := "com/example/libinterp/libinterp/PathParser$SelectorScan", name := "read", desc := "(C)V" } : Jvm.MethodName) prog_39_method_2_code (2 : Nat) (Option.none : Option Jvm.ClassFile.FieldType)).before args0 about1 = true := code_word (m := ⟨2, 1⟩) (meth := k2m1) (c := k2c1) (by decide +kernel) rfl rfl rfl (by decide +kernel)
set_option maxRecDepth 65536 in
theorem w_c4 : (Jvm.Cond.code ({ cls := "com/example/libinterp/libinterp/PathParser$SelectorScan", name := "isOutside", desc := "()Z" } : Jvm.MethodName) prog_39_method_4_code (1 : Nat) (Option.some Jvm.ClassFile.FieldType.boolean)).before args0 about1 = true := code_word (m := ⟨2, 3⟩) (meth := k2m3) (c := k2c3) (by decide +kernel) rfl rfl rfl (by decide +kernel)
set_option maxRecDepth 65536 in
theorem w_c5 : (Jvm.Cond.code ({ cls := "com/example/libinterp/libinterp/PathParser", name := "isQuote", desc := "(C)Z" } : Jvm.MethodName) prog_38_method_19_code (1 : Nat) (Option.some Jvm.ClassFile.FieldType.boolean)).before args0 about1 = true := code_word (m := ⟨3, 0⟩) (meth := k3m0) (c := k3c0) (by decide +kernel) rfl rfl rfl (by decide +kernel)
set_option maxRecDepth 65536 in
theorem w_c6 : (Jvm.Cond.code ({ cls := "com/example/libinterp/libinterp/PathParser$SelectorScan", name := "readQuoted", desc := "(C)V" } : Jvm.MethodName) prog_39_method_3_code (2 : Nat) (Option.none : Option Jvm.ClassFile.FieldType)).before args0 about1 = true := code_word (m := ⟨2, 2⟩) (meth := k2m2) (c := k2c2) (by decide +kernel) rfl rfl rfl (by decide +kernel)
def codes1 : List Jvm.Cond := [Jvm.Cond.code x code maxLocals ret, Jvm.Cond.code ({ cls := "com/example/libinterp/libinterp/PathParser$SelectorScan", name := "<init>", desc := "()V" } : Jvm.MethodName) prog_39_method_1_code (1 : Nat) (Option.none : Option Jvm.ClassFile.FieldType), Jvm.Cond.code ({ cls := "java/lang/Object", name := "<init>", desc := "()V" } : Jvm.MethodName) object_method_1_code (1 : Nat) (Option.none : Option Jvm.ClassFile.FieldType), Jvm.Cond.code ({ cls := "com/example/libinterp/libinterp/PathParser$SelectorScan", name := "read", desc := "(C)V" } : Jvm.MethodName) prog_39_method_2_code (2 : Nat) (Option.none : Option Jvm.ClassFile.FieldType), Jvm.Cond.code ({ cls := "com/example/libinterp/libinterp/PathParser$SelectorScan", name := "isOutside", desc := "()Z" } : Jvm.MethodName) prog_39_method_4_code (1 : Nat) (Option.some Jvm.ClassFile.FieldType.boolean), Jvm.Cond.code ({ cls := "com/example/libinterp/libinterp/PathParser", name := "isQuote", desc := "(C)Z" } : Jvm.MethodName) prog_38_method_19_code (1 : Nat) (Option.some Jvm.ClassFile.FieldType.boolean), Jvm.Cond.code ({ cls := "com/example/libinterp/libinterp/PathParser$SelectorScan", name := "readQuoted", desc := "(C)V" } : Jvm.MethodName) prog_39_method_3_code (2 : Nat) (Option.none : Option Jvm.ClassFile.FieldType)]
set_option maxRecDepth 65536 in
theorem codes_eq : words1.filter isCode = codes1 := rfl
theorem w_codes : ∀ c ∈ words1.filter isCode, c.before args0 about1 = true := by
  rw [codes_eq]
  intro c hc
  simp only [codes1, List.mem_cons, List.not_mem_nil, or_false] at hc
  rcases hc with rfl | rfl | rfl | rfl | rfl | rfl | rfl
  · exact w_c0
  · exact w_c1
  · exact w_c2
  · exact w_c3
  · exact w_c4
  · exact w_c5
  · exact w_c6
set_option maxRecDepth 65536 in
theorem w_t1 : (words1.take 24).all (fun c => isCode c || c.before args0 about1) = true := by decide +kernel
set_option maxRecDepth 65536 in
theorem w_t2 : (words1.drop 24).all (fun c => isCode c || c.before args0 about1) = true := by decide +kernel
theorem w_tables : (allAtoms (Jvm.Cond.code x code maxLocals ret :: tables_1)).before args0 about1 = true := by
  rw [allAtoms_all]
  show words1.all (fun c => c.before args0 about1) = true
  refine all_split ?_ w_codes
  rw [← List.take_append_drop 24 words1, List.all_append, w_t1, w_t2]
  rfl
set_option maxRecDepth 65536 in
theorem w_case : (Jvm.Cond.and given_1 narrow_1).before args0 about1 = true := by decide +kernel
theorem w_applies : (headSpec (Jvm.Cond.code x code maxLocals ret :: tables_1) room_1).applies x e0.platform about1 = true :=
  (Spec.applies_iff w_frames).mpr ⟨w_running, w_runnable, w_alone, w_named, w_hears, w_ripe, w_room, w_tables⟩
theorem atStart : AtStart classFile x code maxLocals ret World_1 tables_1 room_1 Calls_1 rest_1 Pre_1 launch0 p0 e0 about1 theMethod args0 below0 :=
  ⟨lists_1, trivial, launch0.admits_env _ _ _, launch0.least_env, fairChoices_fair.cas, fairChoices_fair.clock, w_frames, w_args, w_heap, w_applies, trivial, trivial, w_case⟩
end start1
theorem witness_1 : WitnessClaimed_1 := ⟨start1.p0, start1.e0, start1.about1, start1.theMethod, start1.args0, start1.below0, start1.atStart⟩
end Jvm.Pilot.@@N@@

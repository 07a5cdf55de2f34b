import JvmDerived
import JvmDerived.Pilot.@@N@@Statement
import JvmDerived.Pilot.@@N@@Code
set_option linter.unusedVariables false
set_option linter.unusedSimpArgs false
namespace Jvm.RoadKit
open Sem ClassFile Op Lib Jvm.Stand Jvm.Free Jvm.LawKit
section New
variable {p : Program} {l : Launch} {e : Env} {R : Room} {s : State} {m : MethodId} {args : Array Value} {below : List Frame} {meth : Method} {c : Code} {T : State} {locs : List Loc} {cells slots : Nat}
theorem retI (X : Stand p l e R s m args below meth c T locs cells slots) (hx : p.tables.exec = Jvm.exec) {pc : Nat} {Ls : Array Slot} {z : Int32} {rest : List Value} (hret : meth.sig.returnType = some .int) (hd : decode c.code pc = .ok (.ireturn, 1)) {fs : List Frame}
    (hl : ∀ (f : JFrame) (acts : List Action), f.method = m → f.locked = none → f.entered = [] → (doReturn e (T.setTop f) acts (some (.int z))).1 = T.setFrames fs) : Steps p.tables e below (T.setTop (mkF m pc Ls (.int z :: rest))) (T.setFrames fs) := by
  have hm' : T.vm.method? m = some meth := X.method'
  have hn : narrow .int (.int z) = .int z := rfl
  show Steps p.tables e below (T.setTop { method := m, pc := pc, locals := Ls, stack := _ :: rest, locked := none }) _
  jvm_step X.here [X.here.top, hx, hd, hm', hret, hn]
  first | (intro acts; rw [hl _ acts rfl rfl rfl]) | rw [hl _ _ rfl rfl rfl]
  exact Steps.refl _
end New
end Jvm.RoadKit
namespace Jvm.Pilot.@@N@@
open Jvm Jvm.ClassFile Sem Op Lib Jvm.Free Jvm.Stand Jvm.LawKit Jvm.RoadKit Bundle Jvm.Pilot.@@N@@.Jvm.D
theorem pn_0 : plainName "com/example/subscription_engine/subscriptionengine/SafeIntegers" = true := by first | (simp [plainName, overriddenIn]; done) | decide +kernel
theorem d3_0 : decode prog_3_method_2_code 0 = .ok (.lload_n 0, 1) := by decide +kernel
theorem d3_1 : decode prog_3_method_2_code 1 = .ok (.lconst 0, 1) := by decide +kernel
theorem d3_2 : decode prog_3_method_2_code 2 = .ok (.lcmp, 1) := by decide +kernel
theorem d3_3 : decode prog_3_method_2_code 3 = .ok (.ifCond .lt 15, 3) := by decide +kernel
theorem d3_6 : decode prog_3_method_2_code 6 = .ok (.lload_n 0, 1) := by decide +kernel
theorem d3_7 : decode prog_3_method_2_code 7 = .ok (.ldc2_w 9, 3) := by decide +kernel
theorem d3_10 : decode prog_3_method_2_code 10 = .ok (.lcmp, 1) := by decide +kernel
theorem d3_11 : decode prog_3_method_2_code 11 = .ok (.ifCond .gt 7, 3) := by decide +kernel
theorem d3_14 : decode prog_3_method_2_code 14 = .ok (.iconst 1, 1) := by decide +kernel
theorem d3_15 : decode prog_3_method_2_code 15 = .ok (.goto 4, 3) := by decide +kernel
theorem d3_18 : decode prog_3_method_2_code 18 = .ok (.iconst 0, 1) := by decide +kernel
theorem d3_19 : decode prog_3_method_2_code 19 = .ok (.ireturn, 1) := by decide +kernel
theorem ef_3 (m : MethodId) (x0 : Int64) : entryFrame m #[(.long x0)] 2 = mkF m 0 #[.val (.long x0), .second] [] := by first | (simp [entryFrame, mkF, argsToLocals, Value.category]; done) | rfl
def f3 (q0 : Int64) : Int32 := (if (lcmpW q0 (0 : Int64)) < (0 : Int32) then (0 : Int32) else (if (0 : Int32) < (lcmpW q0 (9007199254740991 : Int64)) then (0 : Int32) else (1 : Int32)))
def Q3 (Z : State) (q0 : Int64) (h0 : Heap) (n0 : Nat) (v : Option Value) (h : Heap) (L : List Loc) : Prop := v = some (.int (f3 q0)) ∧ Fr n0 L ∧ h = h0
set_option maxRecDepth 65536 in
set_option maxHeartbeats 40000000 in
theorem rm3 (l : Launch) (Z : State) (a0 : Array Value) (hw : ∀ d ∈ tables_1, d.before a0 Z = true) (ws : List Jvm.Cond) (q0 : Int64) (h0 : Heap) (n0 : Nat) (Z0 : n0 ≤ h0.size)  :
    MetFree l (⟨"com/example/subscription_engine/subscriptionengine/SafeIntegers", "inRange", "(J)Z"⟩ : MethodName) (head1 (Jvm.Cond.code (⟨"com/example/subscription_engine/subscriptionengine/SafeIntegers", "inRange", "(J)Z"⟩ : MethodName) prog_3_method_2_code 2 (some .boolean) :: ws) ({ frames := 0, cells := 0, slots := 0, locals := 0 } : Room)) (fun a U => a = #[(.long q0)] ∧ Z.Warmed39 U.vm ∧ U.heap = h0) (fun _ _ _ _ _ => True) (fun _ U o U' => ∃ v L, o = .returned v ∧ Q3 Z q0 h0 n0 v U'.heap L ∧ FrameEnd U o U' L ({ frames := 0, cells := 0, slots := 0, locals := 0 } : Room).cells ({ frames := 0, cells := 0, slots := 0, locals := 0 } : Room).slots) := by
  refine MetFree.of_bodySF (plainFor_of_name pn_0) hisR ?_
  intro p e s m args below meth c s₁ Bd hml0 hP hK
  obtain ⟨rfl, hZ, hh⟩ := hP
  have hx := Bd.exec
  have hby := Bd.bytes
  have hml : c.maxLocals = 2 := hml0
  have hown : s.vm.findClass "com/example/subscription_engine/subscriptionengine/SafeIntegers" = some m.cls := findClass_of_methodNamed Bd.named
  have hnm := (name_of_methodNamed Bd.named Bd.method).1
  have X0 : Stand p l e ({ frames := 0, cells := 0, slots := 0, locals := 0 } : Room) s m #[(.long q0)] below meth c s₁ [] 0 0 := Stand.of_body Bd
  have e0 : s₁.heap = h0 := by rw [← hh, Bd.state]; rfl
  have N0 := Fr.nil n0
  have K0 := Keep.refl h0 []
  have pre0 : ∀ t, Steps p.tables e below (s₁.setTop (mkF m 0 #[.val (.long q0), .second] [])) t → Steps p.tables e below (s₁.setTop (entryFrame m #[(.long q0)] 2)) t := fun t k => castTop (ef_3 m q0) k
  have pre1 : ∀ t, Steps p.tables e below (s₁.setTop (mkF m 3 #[.val (.long q0), .second] [(.int (lcmpW q0 (0 : Int64)))])) t → Steps p.tables e below (s₁.setTop (entryFrame m #[(.long q0)] 2)) t := fun t kt => pre0 t (by
    show Steps p.tables e below (s₁.setTop (mkF m 0 #[.val (.long q0), .second] [])) _
    refine XS.lloadN X0.here hx rfl (hb hby d3_0) rfl ?_
    show Steps p.tables e below (s₁.setTop (mkF m 1 #[.val (.long q0), .second] [(.long q0)])) _
    refine XS.lconst X0.here hx rfl (hb hby d3_1) ?_
    show Steps p.tables e below (s₁.setTop (mkF m 2 #[.val (.long q0), .second] [(.long (0 : Int64)), (.long q0)])) _
    refine XS.lcmp X0.here hx rfl (hb hby d3_2) rfl ?_
    exact kt)
  by_cases hc2 : (lcmpW q0 (0 : Int64)) < (0 : Int32)
  · obtain ⟨fs, hr, hrun, hended, hW, hsame⟩ := X0.leave (v := some (.int (0 : Int32))) (fun h => by rw [Bd.returns] at h; cases h)
    refine ⟨_, _, pre1 _ ?_, hrun, hended, _, _, rfl, ?_, ⟨_, rfl⟩, hW, hsame.mono (by decide) (by decide)⟩
    · show Steps p.tables e below (s₁.setTop (mkF m 3 #[.val (.long q0), .second] [(.int (lcmpW q0 (0 : Int64)))])) _
      refine XS.ifYes X0.here hx rfl (pc0 := 3) (pc' := 18) rfl (hb hby d3_3) rfl ((if0 _ _).trans (tlt hc2).1) (by decide) (by decide) ?_
      show Steps p.tables e below (s₁.setTop (mkF m 18 #[.val (.long q0), .second] [])) _
      refine XS.iconst X0.here hx rfl (hb hby d3_18) ?_
      show Steps p.tables e below (s₁.setTop (mkF m 19 #[.val (.long q0), .second] [(.int (0 : Int32))])) _
      exact retN X0 hx (t := .boolean) Bd.returns (by simp) (hb hby d3_19) hr
    · show Q3 Z q0 h0 n0 _ s₁.heap _
      rw [e0]
      exact ⟨by rw [show f3 q0 = (0 : Int32) from by unfold f3; rw [if_pos hc2]], N0, rfl⟩
  · have pre3 : ∀ t, Steps p.tables e below (s₁.setTop (mkF m 11 #[.val (.long q0), .second] [(.int (lcmpW q0 (9007199254740991 : Int64)))])) t → Steps p.tables e below (s₁.setTop (entryFrame m #[(.long q0)] 2)) t := fun t kt => pre1 t (by
      show Steps p.tables e below (s₁.setTop (mkF m 3 #[.val (.long q0), .second] [(.int (lcmpW q0 (0 : Int64)))])) _
      refine XS.ifNo X0.here hx rfl (hb hby d3_3) rfl ((if0 _ _).trans (flt hc2).1) ?_
      show Steps p.tables e below (s₁.setTop (mkF m 6 #[.val (.long q0), .second] [])) _
      refine XS.lloadN X0.here hx rfl (hb hby d3_6) rfl ?_
      show Steps p.tables e below (s₁.setTop (mkF m 7 #[.val (.long q0), .second] [(.long q0)])) _
      refine X0.ldc2Long hx hown (mvT hZ (hw _ (List.mem_of_getElem? (i := 12) rfl))) (g := (mkF m 7 #[.val (.long q0), .second] [(.long q0)])) rfl (hb hby d3_7) _ ?_
      show Steps p.tables e below (s₁.setTop (mkF m 10 #[.val (.long q0), .second] [(.long (9007199254740991 : Int64)), (.long q0)])) _
      refine XS.lcmp X0.here hx rfl (hb hby d3_10) rfl ?_
      exact kt)
    by_cases hc4 : (0 : Int32) < (lcmpW q0 (9007199254740991 : Int64))
    · obtain ⟨fs, hr, hrun, hended, hW, hsame⟩ := X0.leave (v := some (.int (0 : Int32))) (fun h => by rw [Bd.returns] at h; cases h)
      refine ⟨_, _, pre3 _ ?_, hrun, hended, _, _, rfl, ?_, ⟨_, rfl⟩, hW, hsame.mono (by decide) (by decide)⟩
      · show Steps p.tables e below (s₁.setTop (mkF m 11 #[.val (.long q0), .second] [(.int (lcmpW q0 (9007199254740991 : Int64)))])) _
        refine XS.ifYes X0.here hx rfl (pc0 := 11) (pc' := 18) rfl (hb hby d3_11) rfl ((if0 _ _).trans (tlt hc4).2.2.1) (by decide) (by decide) ?_
        show Steps p.tables e below (s₁.setTop (mkF m 18 #[.val (.long q0), .second] [])) _
        refine XS.iconst X0.here hx rfl (hb hby d3_18) ?_
        show Steps p.tables e below (s₁.setTop (mkF m 19 #[.val (.long q0), .second] [(.int (0 : Int32))])) _
        exact retN X0 hx (t := .boolean) Bd.returns (by simp) (hb hby d3_19) hr
      · show Q3 Z q0 h0 n0 _ s₁.heap _
        rw [e0]
        exact ⟨by rw [show f3 q0 = (0 : Int32) from by unfold f3; rw [if_neg hc2, if_pos hc4]], N0, rfl⟩
    · obtain ⟨fs, hr, hrun, hended, hW, hsame⟩ := X0.leave (v := some (.int (1 : Int32))) (fun h => by rw [Bd.returns] at h; cases h)
      refine ⟨_, _, pre3 _ ?_, hrun, hended, _, _, rfl, ?_, ⟨_, rfl⟩, hW, hsame.mono (by decide) (by decide)⟩
      · show Steps p.tables e below (s₁.setTop (mkF m 11 #[.val (.long q0), .second] [(.int (lcmpW q0 (9007199254740991 : Int64)))])) _
        refine XS.ifNo X0.here hx rfl (hb hby d3_11) rfl ((if0 _ _).trans (flt hc4).2.2.1) ?_
        show Steps p.tables e below (s₁.setTop (mkF m 14 #[.val (.long q0), .second] [])) _
        refine XS.iconst X0.here hx rfl (hb hby d3_14) ?_
        show Steps p.tables e below (s₁.setTop (mkF m 15 #[.val (.long q0), .second] [(.int (1 : Int32))])) _
        refine XS.goto X0.here hx rfl (pc0 := 15) (pc' := 19) rfl (hb hby d3_15) (by decide) (by decide) ?_
        show Steps p.tables e below (s₁.setTop (mkF m 19 #[.val (.long q0), .second] [(.int (1 : Int32))])) _
        exact retN X0 hx (t := .boolean) Bd.returns (by simp) (hb hby d3_19) hr
      · show Q3 Z q0 h0 n0 _ s₁.heap _
        rw [e0]
        exact ⟨by rw [show f3 q0 = (1 : Int32) from by unfold f3; rw [if_neg hc2, if_neg hc4]], N0, rfl⟩
theorem pd_0 : parseMethodDescriptor "(J)Z" = some ⟨[.long], some .boolean⟩ := by decide +kernel
theorem d2_0 : decode prog_3_method_6_code 0 = .ok (.lload_n 0, 1) := by decide +kernel
theorem d2_1 : decode prog_3_method_6_code 1 = .ok (.invokestatic 32, 3) := by decide +kernel
theorem d2_4 : decode prog_3_method_6_code 4 = .ok (.ifCond .ne 17, 3) := by decide +kernel
theorem d2_21 : decode prog_3_method_6_code 21 = .ok (.return_, 1) := by decide +kernel
theorem ef_2 (m : MethodId) (x0 : Int64) : entryFrame m #[(.long x0)] 2 = mkF m 0 #[.val (.long x0), .second] [] := by first | (simp [entryFrame, mkF, argsToLocals, Value.category]; done) | rfl
def Q2 (Z : State) (q0 : Int64) (h0 : Heap) (n0 : Nat) (v : Option Value) (h : Heap) (L : List Loc) : Prop := v = none ∧ Fr n0 L ∧ h = h0
set_option maxRecDepth 65536 in
set_option maxHeartbeats 40000000 in
theorem rm2 (l : Launch) (Z : State) (a0 : Array Value) (hw : ∀ d ∈ tables_1, d.before a0 Z = true) (ws : List Jvm.Cond) (q0 : Int64) (h0 : Heap) (n0 : Nat) (Z0 : n0 ≤ h0.size) (hf4 : ¬ ((f3 q0) = (0 : Int32))) :
    MetFree l (⟨"com/example/subscription_engine/subscriptionengine/SafeIntegers", "requireInRange", "(J)V"⟩ : MethodName) (head1 (Jvm.Cond.code (⟨"com/example/subscription_engine/subscriptionengine/SafeIntegers", "requireInRange", "(J)V"⟩ : MethodName) prog_3_method_6_code 2 none :: ws) ({ frames := 1, cells := 0, slots := 0, locals := 13 } : Room)) (fun a U => a = #[(.long q0)] ∧ Z.Warmed39 U.vm ∧ U.heap = h0) (fun _ _ _ _ _ => True) (fun _ U o U' => ∃ v L, o = .returned v ∧ Q2 Z q0 h0 n0 v U'.heap L ∧ FrameEnd U o U' L ({ frames := 1, cells := 0, slots := 0, locals := 13 } : Room).cells ({ frames := 1, cells := 0, slots := 0, locals := 13 } : Room).slots) := by
  refine MetFree.of_bodySF (plainFor_of_name pn_0) hisR ?_
  intro p e s m args below meth c s₁ Bd hml0 hP hK
  obtain ⟨rfl, hZ, hh⟩ := hP
  have hx := Bd.exec
  have hby := Bd.bytes
  have hml : c.maxLocals = 2 := hml0
  have hown : s.vm.findClass "com/example/subscription_engine/subscriptionengine/SafeIntegers" = some m.cls := findClass_of_methodNamed Bd.named
  have hnm := (name_of_methodNamed Bd.named Bd.method).1
  have X0 : Stand p l e ({ frames := 1, cells := 0, slots := 0, locals := 13 } : Room) s m #[(.long q0)] below meth c s₁ [] 0 0 := Stand.of_body Bd
  have e0 : s₁.heap = h0 := by rw [← hh, Bd.state]; rfl
  have N0 := Fr.nil n0
  have K0 := Keep.refl h0 []
  have pre0 : ∀ t, Steps p.tables e below (s₁.setTop (mkF m 0 #[.val (.long q0), .second] [])) t → Steps p.tables e below (s₁.setTop (entryFrame m #[(.long q0)] 2)) t := fun t k => castTop (ef_2 m q0) k
  obtain ⟨_, _, ⟨T1, L1, k1, n1⟩, -, X1, ⟨Lc1, hQ1, l1, y1, z1⟩, st1⟩ := Jvm.LawKit.callS X0 hx (y := (⟨"com/example/subscription_engine/subscriptionengine/SafeIntegers", "inRange", "(J)Z"⟩ : MethodName)) hown (mvT hZ (hw _ (List.mem_of_getElem? (i := 9) rfl))) (mvT hZ (hw _ (List.mem_of_getElem? (i := 10) rfl))) (mvT hZ (hw _ (List.mem_of_getElem? (i := 4) rfl))) (mvT hZ (hw _ (List.mem_of_getElem? (i := 11) rfl))) (by decide) (backOf (W := 0) (rm3 l Z a0 hw [] q0 h0 n0 Z0) hZ (hw _ (List.mem_of_getElem? (i := 11) rfl)) (hw _ (List.mem_of_getElem? (i := 4) rfl)) (by decide) (by decide)) (g := (mkF m 1 #[.val (.long q0), .second] [(.long q0)])) rfl (by rw [hml]; rfl) (argsL := [(.long q0)]) (rest := []) (lenOf pd_0 rfl) rfl (by show 2 * 0 + _ ≤ _; exact Nat.le_of_eq rfl) (hb hby d2_1) (fun _ _ => ⟨rfl, e0, (by decide : 0 + 0 ≤ _), (by decide : 0 + 0 ≤ _)⟩)
  dsimp only [Pt.U, Pt.locs, Pt.cells, Pt.slots] at X1 l1 y1 z1 st1 hQ1
  subst l1 y1 z1
  obtain ⟨rfl, N1q, e1⟩ := hQ1
  have N1 := Fr.app N0 N1q
  obtain ⟨fs, hr, hrun, hended, hW, hsame⟩ := X1.leave (v := none) (fun _ => rfl)
  refine ⟨_, _, pre0 _ ?_, hrun, hended, _, _, rfl, ?_, ⟨_, rfl⟩, hW, hsame.mono (by decide) (by decide)⟩
  · show Steps p.tables e below (s₁.setTop (mkF m 0 #[.val (.long q0), .second] [])) _
    refine XS.lloadN X0.here hx rfl (hb hby d2_0) rfl ?_
    show Steps p.tables e below (s₁.setTop (mkF m 1 #[.val (.long q0), .second] [(.long q0)])) _
    refine st1 _ ?_
    show Steps p.tables e below (T1.setTop (mkF m 4 #[.val (.long q0), .second] [(.int (f3 q0))])) _
    refine XS.ifYes X1.here hx rfl (pc0 := 4) (pc' := 21) rfl (hb hby d2_4) rfl ((if0 _ _).trans (feq hf4).2) (by decide) (by decide) ?_
    show Steps p.tables e below (T1.setTop (mkF m 21 #[.val (.long q0), .second] [])) _
    exact X1.returnOut hx Bd.returns (hb hby d2_21) hr
  · show Q2 Z q0 h0 n0 _ T1.heap _
    rw [e1]
    exact ⟨rfl, N1, rfl⟩
theorem pd_1 : parseMethodDescriptor "(J)V" = some ⟨[.long], none⟩ := by decide +kernel
theorem d1_0 : decode prog_3_method_3_code 0 = .ok (.lload_n 0, 1) := by decide +kernel
theorem d1_1 : decode prog_3_method_3_code 1 = .ok (.invokestatic 11, 3) := by decide +kernel
theorem d1_4 : decode prog_3_method_3_code 4 = .ok (.lload_n 2, 1) := by decide +kernel
theorem d1_5 : decode prog_3_method_3_code 5 = .ok (.invokestatic 11, 3) := by decide +kernel
theorem d1_8 : decode prog_3_method_3_code 8 = .ok (.lload_n 0, 1) := by decide +kernel
theorem d1_9 : decode prog_3_method_3_code 9 = .ok (.ldc2_w 9, 3) := by decide +kernel
theorem d1_12 : decode prog_3_method_3_code 12 = .ok (.lload_n 2, 1) := by decide +kernel
theorem d1_13 : decode prog_3_method_3_code 13 = .ok (.lsub, 1) := by decide +kernel
theorem d1_14 : decode prog_3_method_3_code 14 = .ok (.lcmp, 1) := by decide +kernel
theorem d1_15 : decode prog_3_method_3_code 15 = .ok (.ifCond .le 11, 3) := by decide +kernel
theorem d1_26 : decode prog_3_method_3_code 26 = .ok (.lload_n 0, 1) := by decide +kernel
theorem d1_27 : decode prog_3_method_3_code 27 = .ok (.lload_n 2, 1) := by decide +kernel
theorem d1_28 : decode prog_3_method_3_code 28 = .ok (.ladd, 1) := by decide +kernel
theorem d1_29 : decode prog_3_method_3_code 29 = .ok (.lreturn, 1) := by decide +kernel
theorem ef_1 (m : MethodId) (x0 : Int64) (x1 : Int64) : entryFrame m #[(.long x0), (.long x1)] 4 = mkF m 0 #[.val (.long x0), .second, .val (.long x1), .second] [] := by first | (simp [entryFrame, mkF, argsToLocals, Value.category]; done) | rfl
def f1 (q0 : Int64) (q1 : Int64) : Int64 := (q0 + q1)
def Q1 (Z : State) (q0 : Int64) (q1 : Int64) (h0 : Heap) (n0 : Nat) (v : Option Value) (h : Heap) (L : List Loc) : Prop := v = some (.long (f1 q0 q1)) ∧ Fr n0 L ∧ h = h0
set_option maxRecDepth 65536 in
set_option maxHeartbeats 40000000 in
theorem rm1 (l : Launch) (Z : State) (a0 : Array Value) (hw : ∀ d ∈ tables_1, d.before a0 Z = true) (ws : List Jvm.Cond) (q0 : Int64) (q1 : Int64) (h0 : Heap) (n0 : Nat) (Z0 : n0 ≤ h0.size) (hf15 : ¬ ((0 : Int32) < (lcmpW q0 ((9007199254740991 : Int64) - q1)))) (hr0 : ¬ (f3 q0 = (0 : Int32))) (hr1 : ¬ (f3 q1 = (0 : Int32))) :
    MetFree l (⟨"com/example/subscription_engine/subscriptionengine/SafeIntegers", "add", "(JJ)J"⟩ : MethodName) (head1 (Jvm.Cond.code (⟨"com/example/subscription_engine/subscriptionengine/SafeIntegers", "add", "(JJ)J"⟩ : MethodName) prog_3_method_3_code 4 (some .long) :: ws) ({ frames := 2, cells := 0, slots := 0, locals := 26 } : Room)) (fun a U => a = #[(.long q0), (.long q1)] ∧ Z.Warmed39 U.vm ∧ U.heap = h0) (fun _ _ _ _ _ => True) (fun _ U o U' => ∃ v L, o = .returned v ∧ Q1 Z q0 q1 h0 n0 v U'.heap L ∧ FrameEnd U o U' L ({ frames := 2, cells := 0, slots := 0, locals := 26 } : Room).cells ({ frames := 2, cells := 0, slots := 0, locals := 26 } : Room).slots) := by
  refine MetFree.of_bodySF (plainFor_of_name pn_0) hisR ?_
  intro p e s m args below meth c s₁ Bd hml0 hP hK
  obtain ⟨rfl, hZ, hh⟩ := hP
  have hx := Bd.exec
  have hby := Bd.bytes
  have hml : c.maxLocals = 4 := hml0
  have hown : s.vm.findClass "com/example/subscription_engine/subscriptionengine/SafeIntegers" = some m.cls := findClass_of_methodNamed Bd.named
  have hnm := (name_of_methodNamed Bd.named Bd.method).1
  have X0 : Stand p l e ({ frames := 2, cells := 0, slots := 0, locals := 26 } : Room) s m #[(.long q0), (.long q1)] below meth c s₁ [] 0 0 := Stand.of_body Bd
  have e0 : s₁.heap = h0 := by rw [← hh, Bd.state]; rfl
  have N0 := Fr.nil n0
  have K0 := Keep.refl h0 []
  have pre0 : ∀ t, Steps p.tables e below (s₁.setTop (mkF m 0 #[.val (.long q0), .second, .val (.long q1), .second] [])) t → Steps p.tables e below (s₁.setTop (entryFrame m #[(.long q0), (.long q1)] 4)) t := fun t k => castTop (ef_1 m q0 q1) k
  obtain ⟨_, _, ⟨T1, L1, k1, n1⟩, -, X1, ⟨Lc1, hQ1, l1, y1, z1⟩, st1⟩ := Jvm.LawKit.callS X0 hx (y := (⟨"com/example/subscription_engine/subscriptionengine/SafeIntegers", "requireInRange", "(J)V"⟩ : MethodName)) hown (mvT hZ (hw _ (List.mem_of_getElem? (i := 6) rfl))) (mvT hZ (hw _ (List.mem_of_getElem? (i := 7) rfl))) (mvT hZ (hw _ (List.mem_of_getElem? (i := 4) rfl))) (mvT hZ (hw _ (List.mem_of_getElem? (i := 8) rfl))) (by decide) (backOf (W := 0) (rm2 l Z a0 hw [] q0 h0 n0 Z0 hr0) hZ (hw _ (List.mem_of_getElem? (i := 8) rfl)) (hw _ (List.mem_of_getElem? (i := 4) rfl)) (by decide) (by decide)) (g := (mkF m 1 #[.val (.long q0), .second, .val (.long q1), .second] [(.long q0)])) rfl (by rw [hml]; rfl) (argsL := [(.long q0)]) (rest := []) (lenOf pd_1 rfl) rfl (by show 2 * 0 + _ ≤ _; exact Nat.le_of_eq rfl) (hb hby d1_1) (fun _ _ => ⟨rfl, e0, (by decide : 0 + 0 ≤ _), (by decide : 0 + 0 ≤ _)⟩)
  dsimp only [Pt.U, Pt.locs, Pt.cells, Pt.slots] at X1 l1 y1 z1 st1 hQ1
  subst l1 y1 z1
  obtain ⟨rfl, N1q, e1⟩ := hQ1
  have N1 := Fr.app N0 N1q
  obtain ⟨_, _, ⟨T2, L2, k2, n2⟩, -, X2, ⟨Lc2, hQ2, l2, y2, z2⟩, st2⟩ := Jvm.LawKit.callS X1 hx (y := (⟨"com/example/subscription_engine/subscriptionengine/SafeIntegers", "requireInRange", "(J)V"⟩ : MethodName)) hown (mvT hZ (hw _ (List.mem_of_getElem? (i := 6) rfl))) (mvT hZ (hw _ (List.mem_of_getElem? (i := 7) rfl))) (mvT hZ (hw _ (List.mem_of_getElem? (i := 4) rfl))) (mvT hZ (hw _ (List.mem_of_getElem? (i := 8) rfl))) (by decide) (backOf (W := 0) (rm2 l Z a0 hw [] q1 h0 n0 Z0 hr1) hZ (hw _ (List.mem_of_getElem? (i := 8) rfl)) (hw _ (List.mem_of_getElem? (i := 4) rfl)) (by decide) (by decide)) (g := (mkF m 5 #[.val (.long q0), .second, .val (.long q1), .second] [(.long q1)])) rfl (by rw [hml]; rfl) (argsL := [(.long q1)]) (rest := []) (lenOf pd_1 rfl) rfl (by show 2 * 0 + _ ≤ _; exact Nat.le_of_eq rfl) (hb hby d1_5) (fun _ _ => ⟨rfl, e1, (by decide : 0 + 0 ≤ _), (by decide : 0 + 0 ≤ _)⟩)
  dsimp only [Pt.U, Pt.locs, Pt.cells, Pt.slots] at X2 l2 y2 z2 st2 hQ2
  subst l2 y2 z2
  obtain ⟨rfl, N2q, e2⟩ := hQ2
  have N2 := Fr.app N1 N2q
  obtain ⟨fs, hr, hrun, hended, hW, hsame⟩ := X2.leave (v := some (.long (q0 + q1))) (fun h => by rw [Bd.returns] at h; cases h)
  refine ⟨_, _, pre0 _ ?_, hrun, hended, _, _, rfl, ?_, ⟨_, rfl⟩, hW, hsame.mono (by decide) (by decide)⟩
  · show Steps p.tables e below (s₁.setTop (mkF m 0 #[.val (.long q0), .second, .val (.long q1), .second] [])) _
    refine XS.lloadN X0.here hx rfl (hb hby d1_0) rfl ?_
    show Steps p.tables e below (s₁.setTop (mkF m 1 #[.val (.long q0), .second, .val (.long q1), .second] [(.long q0)])) _
    refine st1 _ ?_
    show Steps p.tables e below (T1.setTop (mkF m 4 #[.val (.long q0), .second, .val (.long q1), .second] [])) _
    refine XS.lloadN X1.here hx rfl (hb hby d1_4) rfl ?_
    show Steps p.tables e below (T1.setTop (mkF m 5 #[.val (.long q0), .second, .val (.long q1), .second] [(.long q1)])) _
    refine st2 _ ?_
    show Steps p.tables e below (T2.setTop (mkF m 8 #[.val (.long q0), .second, .val (.long q1), .second] [])) _
    refine XS.lloadN X2.here hx rfl (hb hby d1_8) rfl ?_
    show Steps p.tables e below (T2.setTop (mkF m 9 #[.val (.long q0), .second, .val (.long q1), .second] [(.long q0)])) _
    refine X2.ldc2Long hx hown (mvT hZ (hw _ (List.mem_of_getElem? (i := 12) rfl))) (g := (mkF m 9 #[.val (.long q0), .second, .val (.long q1), .second] [(.long q0)])) rfl (hb hby d1_9) _ ?_
    show Steps p.tables e below (T2.setTop (mkF m 12 #[.val (.long q0), .second, .val (.long q1), .second] [(.long (9007199254740991 : Int64)), (.long q0)])) _
    refine XS.lloadN X2.here hx rfl (hb hby d1_12) rfl ?_
    show Steps p.tables e below (T2.setTop (mkF m 13 #[.val (.long q0), .second, .val (.long q1), .second] [(.long q1), (.long (9007199254740991 : Int64)), (.long q0)])) _
    refine XS.lsub X2.here hx rfl (hb hby d1_13) rfl ?_
    show Steps p.tables e below (T2.setTop (mkF m 14 #[.val (.long q0), .second, .val (.long q1), .second] [(.long ((9007199254740991 : Int64) - q1)), (.long q0)])) _
    refine XS.lcmp X2.here hx rfl (hb hby d1_14) rfl ?_
    show Steps p.tables e below (T2.setTop (mkF m 15 #[.val (.long q0), .second, .val (.long q1), .second] [(.int (lcmpW q0 ((9007199254740991 : Int64) - q1)))])) _
    refine XS.ifYes X2.here hx rfl (pc0 := 15) (pc' := 26) rfl (hb hby d1_15) rfl ((if0 _ _).trans (flt hf15).2.2.2) (by decide) (by decide) ?_
    show Steps p.tables e below (T2.setTop (mkF m 26 #[.val (.long q0), .second, .val (.long q1), .second] [])) _
    refine XS.lloadN X2.here hx rfl (hb hby d1_26) rfl ?_
    show Steps p.tables e below (T2.setTop (mkF m 27 #[.val (.long q0), .second, .val (.long q1), .second] [(.long q0)])) _
    refine XS.lloadN X2.here hx rfl (hb hby d1_27) rfl ?_
    show Steps p.tables e below (T2.setTop (mkF m 28 #[.val (.long q0), .second, .val (.long q1), .second] [(.long q1), (.long q0)])) _
    refine XS.ladd X2.here hx rfl (hb hby d1_28) rfl ?_
    show Steps p.tables e below (T2.setTop (mkF m 29 #[.val (.long q0), .second, .val (.long q1), .second] [(.long (q0 + q1))])) _
    jvm_step X2.here [X2.here.top, hx, (hb hby d1_29), X2.method', Bd.returns, narrow]
    first | (intro acts; rw [hr _ acts rfl rfl rfl]) | rw [hr _ _ rfl rfl rfl]
    exact Steps.refl _
  · show Q1 Z q0 q1 h0 n0 _ T2.heap _
    rw [e2]
    exact ⟨by rw [show f1 q0 q1 = (q0 + q1) from by unfold f1; rfl], N2, rfl⟩
def own_a (q0 : Int64) : Int64 := q0 &&& 9007199254740991
def own_r (q0 : Int64) : Int64 := ((9007199254740991 : Int64) - own_a q0) + 1
def own_b (q0 q1 : Int64) : Int64 := (q1 &&& 9223372036854775807) - ((q1 &&& 9223372036854775807) / own_r q0) * own_r q0
theorem own_av (q0 : Int64) : 0 ≤ (own_a q0).toInt ∧ (own_a q0).toInt ≤ 9007199254740991 := by
  have e := c_maskL q0 9007199254740991 53 (by decide) (by decide)
  unfold own_a
  rw [e]
  have e2 : ((2 ^ 53 : Nat) : Int) = 9007199254740992 := by decide
  rw [e2]; omega
theorem own_rv (q0 : Int64) : (own_r q0).toInt = 9007199254740992 - (own_a q0).toInt := by
  have h := own_av q0
  have l1 : (1 : Int64).toInt = 1 := rfl
  have lM : (9007199254740991 : Int64).toInt = 9007199254740991 := rfl
  unfold own_r
  generalize own_a q0 = a at *
  have s := c_lsub 9007199254740991 a
  have r := rng64 ((9007199254740991 : Int64) - a)
  have t := c_ladd ((9007199254740991 : Int64) - a) 1
  have u := rng64 ((9007199254740991 : Int64) - a + 1)
  omega
theorem own_bv (q0 q1 : Int64) : 0 ≤ (own_b q0 q1).toInt ∧ (own_a q0).toInt + (own_b q0 q1).toInt ≤ 9007199254740991 := by
  have h := own_av q0
  have hr := own_rv q0
  have e := c_maskL q1 9223372036854775807 63 (by decide) (by decide)
  have e2 : ((2 ^ 63 : Nat) : Int) = 9223372036854775808 := by decide
  rw [e2] at e
  unfold own_b
  have q := (c_lrem (q1 &&& 9223372036854775807) (own_r q0) _ rfl).1 (by rw [e]; omega)
  rw [q]
  have p1 := Int.emod_nonneg (q1 &&& 9223372036854775807).toInt (show (own_r q0).toInt ≠ 0 by omega)
  have p2 := Int.emod_lt_of_pos (q1 &&& 9223372036854775807).toInt (show 0 < (own_r q0).toInt by omega)
  omega
theorem own_nz (q0 : Int64) : own_r q0 ≠ 0 := fun q => by
  have h := own_av q0
  have hr := own_rv q0
  rw [q] at hr
  have l0 : (0 : Int64).toInt = 0 := rfl
  omega
theorem own_in (v : Int64) (h0 : 0 ≤ v.toInt) (h1 : v.toInt ≤ 9007199254740991) : ¬ (f3 v = (0 : Int32)) := by
  unfold f3
  simp only [lw_lt, lw_gt, Int64.lt_iff_toInt_lt]
  have l0 : (0 : Int64).toInt = 0 := rfl
  have lM : (9007199254740991 : Int64).toInt = 9007199254740991 := rfl
  rw [if_neg (by omega), if_neg (by omega)]
  decide
theorem own_p1 (q0 q1 : Int64) : ¬ (f3 (own_a q0) = (0 : Int32)) := own_in _ (own_av q0).1 (own_av q0).2
theorem own_p2 (q0 q1 : Int64) : ¬ (f3 (own_b q0 q1) = (0 : Int32)) := own_in _ (own_bv q0 q1).1 (by have := own_bv q0 q1; have := own_av q0; omega)
theorem own_p3 (q0 q1 : Int64) : ¬ ((0 : Int32) < lcmpW (own_a q0) ((9007199254740991 : Int64) - own_b q0 q1)) := by
  rw [lw_gt, Int64.lt_iff_toInt_lt]
  have h := own_av q0
  have k := own_bv q0 q1
  generalize own_a q0 = a at *
  generalize own_b q0 q1 = b at *
  have lM : (9007199254740991 : Int64).toInt = 9007199254740991 := rfl
  have s := c_lsub 9007199254740991 b
  have r := rng64 ((9007199254740991 : Int64) - b)
  omega
theorem pd_2 : parseMethodDescriptor "(JJ)J" = some ⟨[.long, .long], some .long⟩ := by decide +kernel
theorem pn_1 : plainName "com/example/subscription_engine/subscriptionengine/SafeIntegersAddPinLaw" = true := by first | (simp [plainName, overriddenIn]; done) | decide +kernel
theorem ef_0 (m : MethodId) (x0 : Int64) (x1 : Int64) : entryFrame m #[(.long x0), (.long x1)] maxLocals = mkF m 0 #[.val (.long x0), .second, .val (.long x1), .second, .unset, .unset, .unset, .unset, .unset, .unset, .unset, .unset, .unset, .unset] [] := by first | (simp [entryFrame, mkF, argsToLocals, Value.category, maxLocals]; done) | rfl
def f0_e1 (q0 : Int64) : Int64 := (((9007199254740991 : Int64) - (q0 &&& (9007199254740991 : Int64))) + (1 : Int64))
def f0_e2 (q0 : Int64) (q1 : Int64) : Int64 := ((q1 &&& (9223372036854775807 : Int64)) - ((q1 &&& (9223372036854775807 : Int64)) / (f0_e1 q0)) * (f0_e1 q0))
def f0_e3 (q0 : Int64) (q1 : Int64) : Int32 := (lcmpW (f1 (q0 &&& (9007199254740991 : Int64)) (f0_e2 q0 q1)) ((q0 &&& (9007199254740991 : Int64)) + (f0_e2 q0 q1)))
def f0 (q0 : Int64) (q1 : Int64) : Int32 := (if (f0_e3 q0 q1) = (0 : Int32) then (1 : Int32) else (0 : Int32))
def Q0 (Z : State) (q0 : Int64) (q1 : Int64) (h0 : Heap) (n0 : Nat) (v : Option Value) (h : Heap) (L : List Loc) : Prop := v = some (.int (f0 q0 q1)) ∧ Fr n0 L
set_option maxRecDepth 65536 in
set_option maxHeartbeats 40000000 in
theorem rm0 (l : Launch) (Z : State) (a0 : Array Value) (hw : ∀ d ∈ tables_1, d.before a0 Z = true) (ws : List Jvm.Cond) (q0 : Int64) (q1 : Int64) (h0 : Heap) (n0 : Nat) (Z0 : n0 ≤ h0.size)  :
    MetFree l x (head1 (Jvm.Cond.code x code maxLocals ret :: ws) room_1) (fun a U => a = #[(.long q0), (.long q1)] ∧ Z.Warmed39 U.vm ∧ U.heap = h0) (fun _ _ _ _ _ => True) (fun _ U o U' => ∃ v L, o = .returned v ∧ Q0 Z q0 q1 h0 n0 v U'.heap L ∧ FrameEnd U o U' L room_1.cells room_1.slots) := by
  refine MetFree.of_bodySF (plainFor_of_name pn_1) hisR ?_
  intro p e s m args below meth c s₁ Bd hml0 hP hK
  obtain ⟨rfl, hZ, hh⟩ := hP
  have hx := Bd.exec
  have hby := Bd.bytes
  have hml : c.maxLocals = 14 := hml0
  have hown : s.vm.findClass "com/example/subscription_engine/subscriptionengine/SafeIntegersAddPinLaw" = some m.cls := findClass_of_methodNamed Bd.named
  have hnm := (name_of_methodNamed Bd.named Bd.method).1
  have X0 : Stand p l e room_1 s m #[(.long q0), (.long q1)] below meth c s₁ [] 0 0 := Stand.of_body Bd
  have e0 : s₁.heap = h0 := by rw [← hh, Bd.state]; rfl
  have N0 := Fr.nil n0
  have K0 := Keep.refl h0 []
  have pre0 : ∀ t, Steps p.tables e below (s₁.setTop (mkF m 0 #[.val (.long q0), .second, .val (.long q1), .second, .unset, .unset, .unset, .unset, .unset, .unset, .unset, .unset, .unset, .unset] [])) t → Steps p.tables e below (s₁.setTop (entryFrame m #[(.long q0), (.long q1)] maxLocals)) t := fun t k => castTop (ef_0 m q0 q1) k
  obtain ⟨_, _, ⟨T1, L1, k1, n1⟩, -, X1, ⟨Lc1, hQ1, l1, y1, z1⟩, st1⟩ := Jvm.LawKit.callS X0 hx (y := (⟨"com/example/subscription_engine/subscriptionengine/SafeIntegers", "add", "(JJ)J"⟩ : MethodName)) hown (mvT hZ (hw _ (List.mem_of_getElem? (i := 2) rfl))) (mvT hZ (hw _ (List.mem_of_getElem? (i := 3) rfl))) (mvT hZ (hw _ (List.mem_of_getElem? (i := 4) rfl))) (mvT hZ (hw _ (List.mem_of_getElem? (i := 5) rfl))) (by decide) (backOf (W := 0) (rm1 l Z a0 hw [] (q0 &&& (9007199254740991 : Int64)) (f0_e2 q0 q1) h0 n0 Z0 (own_p3 q0 q1) (own_p1 q0 q1) (own_p2 q0 q1)) hZ (hw _ (List.mem_of_getElem? (i := 5) rfl)) (hw _ (List.mem_of_getElem? (i := 4) rfl)) (by decide) (by decide)) (g := (mkF m 34 #[.val (.long q0), .second, .val (.long q1), .second, .val (.long (9007199254740991 : Int64)), .second, .val (.long (q0 &&& (9007199254740991 : Int64))), .second, .val (.long ((9007199254740991 : Int64) - (q0 &&& (9007199254740991 : Int64)))), .second, .val (.long (f0_e2 q0 q1)), .second, .unset, .unset] [(.long (f0_e2 q0 q1)), (.long (q0 &&& (9007199254740991 : Int64)))])) rfl (by rw [hml]; rfl) (argsL := [(.long (q0 &&& (9007199254740991 : Int64))), (.long (f0_e2 q0 q1))]) (rest := []) (lenOf pd_2 rfl) rfl (by show 2 * 0 + _ ≤ _; exact Nat.le_of_eq rfl) (hb hby at_34) (fun _ _ => ⟨rfl, e0, (by decide : 0 + 0 ≤ _), (by decide : 0 + 0 ≤ _)⟩)
  dsimp only [Pt.U, Pt.locs, Pt.cells, Pt.slots] at X1 l1 y1 z1 st1 hQ1
  subst l1 y1 z1
  obtain ⟨rfl, N1q, e1⟩ := hQ1
  have N1 := Fr.app N0 N1q
  have pre2 : ∀ t, Steps p.tables e below (T1.setTop (mkF m 47 #[.val (.long q0), .second, .val (.long q1), .second, .val (.long (9007199254740991 : Int64)), .second, .val (.long (q0 &&& (9007199254740991 : Int64))), .second, .val (.long ((9007199254740991 : Int64) - (q0 &&& (9007199254740991 : Int64)))), .second, .val (.long (f0_e2 q0 q1)), .second, .val (.long (f1 (q0 &&& (9007199254740991 : Int64)) (f0_e2 q0 q1))), .second] [(.int (f0_e3 q0 q1))])) t → Steps p.tables e below (s₁.setTop (entryFrame m #[(.long q0), (.long q1)] maxLocals)) t := fun t kt => pre0 t (by
    show Steps p.tables e below (s₁.setTop (mkF m 0 #[.val (.long q0), .second, .val (.long q1), .second, .unset, .unset, .unset, .unset, .unset, .unset, .unset, .unset, .unset, .unset] [])) _
    refine X0.ldc2Long hx hown (mvT hZ (hw _ (List.mem_of_getElem? (i := 0) rfl))) (g := (mkF m 0 #[.val (.long q0), .second, .val (.long q1), .second, .unset, .unset, .unset, .unset, .unset, .unset, .unset, .unset, .unset, .unset] [])) rfl (hb hby at_0) _ ?_
    show Steps p.tables e below (s₁.setTop (mkF m 3 #[.val (.long q0), .second, .val (.long q1), .second, .unset, .unset, .unset, .unset, .unset, .unset, .unset, .unset, .unset, .unset] [(.long (9007199254740991 : Int64))])) _
    refine XS.lstore X0.here hx rfl (hb hby at_3) rfl (l' := #[.val (.long q0), .second, .val (.long q1), .second, .val (.long (9007199254740991 : Int64)), .second, .unset, .unset, .unset, .unset, .unset, .unset, .unset, .unset]) rfl ?_
    show Steps p.tables e below (s₁.setTop (mkF m 5 #[.val (.long q0), .second, .val (.long q1), .second, .val (.long (9007199254740991 : Int64)), .second, .unset, .unset, .unset, .unset, .unset, .unset, .unset, .unset] [])) _
    refine XS.lloadN X0.here hx rfl (hb hby at_5) rfl ?_
    show Steps p.tables e below (s₁.setTop (mkF m 6 #[.val (.long q0), .second, .val (.long q1), .second, .val (.long (9007199254740991 : Int64)), .second, .unset, .unset, .unset, .unset, .unset, .unset, .unset, .unset] [(.long q0)])) _
    refine XS.lload X0.here hx rfl (hb hby at_6) rfl ?_
    show Steps p.tables e below (s₁.setTop (mkF m 8 #[.val (.long q0), .second, .val (.long q1), .second, .val (.long (9007199254740991 : Int64)), .second, .unset, .unset, .unset, .unset, .unset, .unset, .unset, .unset] [(.long (9007199254740991 : Int64)), (.long q0)])) _
    refine XS.land X0.here hx rfl (hb hby at_8) rfl ?_
    show Steps p.tables e below (s₁.setTop (mkF m 9 #[.val (.long q0), .second, .val (.long q1), .second, .val (.long (9007199254740991 : Int64)), .second, .unset, .unset, .unset, .unset, .unset, .unset, .unset, .unset] [(.long (q0 &&& (9007199254740991 : Int64)))])) _
    refine XS.lstore X0.here hx rfl (hb hby at_9) rfl (l' := #[.val (.long q0), .second, .val (.long q1), .second, .val (.long (9007199254740991 : Int64)), .second, .val (.long (q0 &&& (9007199254740991 : Int64))), .second, .unset, .unset, .unset, .unset, .unset, .unset]) rfl ?_
    show Steps p.tables e below (s₁.setTop (mkF m 11 #[.val (.long q0), .second, .val (.long q1), .second, .val (.long (9007199254740991 : Int64)), .second, .val (.long (q0 &&& (9007199254740991 : Int64))), .second, .unset, .unset, .unset, .unset, .unset, .unset] [])) _
    refine XS.lload X0.here hx rfl (hb hby at_11) rfl ?_
    show Steps p.tables e below (s₁.setTop (mkF m 13 #[.val (.long q0), .second, .val (.long q1), .second, .val (.long (9007199254740991 : Int64)), .second, .val (.long (q0 &&& (9007199254740991 : Int64))), .second, .unset, .unset, .unset, .unset, .unset, .unset] [(.long (9007199254740991 : Int64))])) _
    refine XS.lload X0.here hx rfl (hb hby at_13) rfl ?_
    show Steps p.tables e below (s₁.setTop (mkF m 15 #[.val (.long q0), .second, .val (.long q1), .second, .val (.long (9007199254740991 : Int64)), .second, .val (.long (q0 &&& (9007199254740991 : Int64))), .second, .unset, .unset, .unset, .unset, .unset, .unset] [(.long (q0 &&& (9007199254740991 : Int64))), (.long (9007199254740991 : Int64))])) _
    refine XS.lsub X0.here hx rfl (hb hby at_15) rfl ?_
    show Steps p.tables e below (s₁.setTop (mkF m 16 #[.val (.long q0), .second, .val (.long q1), .second, .val (.long (9007199254740991 : Int64)), .second, .val (.long (q0 &&& (9007199254740991 : Int64))), .second, .unset, .unset, .unset, .unset, .unset, .unset] [(.long ((9007199254740991 : Int64) - (q0 &&& (9007199254740991 : Int64))))])) _
    refine XS.lstore X0.here hx rfl (hb hby at_16) rfl (l' := #[.val (.long q0), .second, .val (.long q1), .second, .val (.long (9007199254740991 : Int64)), .second, .val (.long (q0 &&& (9007199254740991 : Int64))), .second, .val (.long ((9007199254740991 : Int64) - (q0 &&& (9007199254740991 : Int64)))), .second, .unset, .unset, .unset, .unset]) rfl ?_
    show Steps p.tables e below (s₁.setTop (mkF m 18 #[.val (.long q0), .second, .val (.long q1), .second, .val (.long (9007199254740991 : Int64)), .second, .val (.long (q0 &&& (9007199254740991 : Int64))), .second, .val (.long ((9007199254740991 : Int64) - (q0 &&& (9007199254740991 : Int64)))), .second, .unset, .unset, .unset, .unset] [])) _
    refine XS.lloadN X0.here hx rfl (hb hby at_18) rfl ?_
    show Steps p.tables e below (s₁.setTop (mkF m 19 #[.val (.long q0), .second, .val (.long q1), .second, .val (.long (9007199254740991 : Int64)), .second, .val (.long (q0 &&& (9007199254740991 : Int64))), .second, .val (.long ((9007199254740991 : Int64) - (q0 &&& (9007199254740991 : Int64)))), .second, .unset, .unset, .unset, .unset] [(.long q1)])) _
    refine X0.ldc2Long hx hown (mvT hZ (hw _ (List.mem_of_getElem? (i := 1) rfl))) (g := (mkF m 19 #[.val (.long q0), .second, .val (.long q1), .second, .val (.long (9007199254740991 : Int64)), .second, .val (.long (q0 &&& (9007199254740991 : Int64))), .second, .val (.long ((9007199254740991 : Int64) - (q0 &&& (9007199254740991 : Int64)))), .second, .unset, .unset, .unset, .unset] [(.long q1)])) rfl (hb hby at_19) _ ?_
    show Steps p.tables e below (s₁.setTop (mkF m 22 #[.val (.long q0), .second, .val (.long q1), .second, .val (.long (9007199254740991 : Int64)), .second, .val (.long (q0 &&& (9007199254740991 : Int64))), .second, .val (.long ((9007199254740991 : Int64) - (q0 &&& (9007199254740991 : Int64)))), .second, .unset, .unset, .unset, .unset] [(.long (9223372036854775807 : Int64)), (.long q1)])) _
    refine XS.land X0.here hx rfl (hb hby at_22) rfl ?_
    show Steps p.tables e below (s₁.setTop (mkF m 23 #[.val (.long q0), .second, .val (.long q1), .second, .val (.long (9007199254740991 : Int64)), .second, .val (.long (q0 &&& (9007199254740991 : Int64))), .second, .val (.long ((9007199254740991 : Int64) - (q0 &&& (9007199254740991 : Int64)))), .second, .unset, .unset, .unset, .unset] [(.long (q1 &&& (9223372036854775807 : Int64)))])) _
    refine XS.lload X0.here hx rfl (hb hby at_23) rfl ?_
    show Steps p.tables e below (s₁.setTop (mkF m 25 #[.val (.long q0), .second, .val (.long q1), .second, .val (.long (9007199254740991 : Int64)), .second, .val (.long (q0 &&& (9007199254740991 : Int64))), .second, .val (.long ((9007199254740991 : Int64) - (q0 &&& (9007199254740991 : Int64)))), .second, .unset, .unset, .unset, .unset] [(.long ((9007199254740991 : Int64) - (q0 &&& (9007199254740991 : Int64)))), (.long (q1 &&& (9223372036854775807 : Int64)))])) _
    refine XS.lconst X0.here hx rfl (hb hby at_25) ?_
    show Steps p.tables e below (s₁.setTop (mkF m 26 #[.val (.long q0), .second, .val (.long q1), .second, .val (.long (9007199254740991 : Int64)), .second, .val (.long (q0 &&& (9007199254740991 : Int64))), .second, .val (.long ((9007199254740991 : Int64) - (q0 &&& (9007199254740991 : Int64)))), .second, .unset, .unset, .unset, .unset] [(.long (1 : Int64)), (.long ((9007199254740991 : Int64) - (q0 &&& (9007199254740991 : Int64)))), (.long (q1 &&& (9223372036854775807 : Int64)))])) _
    refine XS.ladd X0.here hx rfl (hb hby at_26) rfl ?_
    show Steps p.tables e below (s₁.setTop (mkF m 27 #[.val (.long q0), .second, .val (.long q1), .second, .val (.long (9007199254740991 : Int64)), .second, .val (.long (q0 &&& (9007199254740991 : Int64))), .second, .val (.long ((9007199254740991 : Int64) - (q0 &&& (9007199254740991 : Int64)))), .second, .unset, .unset, .unset, .unset] [(.long (f0_e1 q0)), (.long (q1 &&& (9223372036854775807 : Int64)))])) _
    refine XS.lrem X0.here hx rfl (hb hby at_27) rfl (own_nz q0) ?_
    show Steps p.tables e below (s₁.setTop (mkF m 28 #[.val (.long q0), .second, .val (.long q1), .second, .val (.long (9007199254740991 : Int64)), .second, .val (.long (q0 &&& (9007199254740991 : Int64))), .second, .val (.long ((9007199254740991 : Int64) - (q0 &&& (9007199254740991 : Int64)))), .second, .unset, .unset, .unset, .unset] [(.long (f0_e2 q0 q1))])) _
    refine XS.lstore X0.here hx rfl (hb hby at_28) rfl (l' := #[.val (.long q0), .second, .val (.long q1), .second, .val (.long (9007199254740991 : Int64)), .second, .val (.long (q0 &&& (9007199254740991 : Int64))), .second, .val (.long ((9007199254740991 : Int64) - (q0 &&& (9007199254740991 : Int64)))), .second, .val (.long (f0_e2 q0 q1)), .second, .unset, .unset]) rfl ?_
    show Steps p.tables e below (s₁.setTop (mkF m 30 #[.val (.long q0), .second, .val (.long q1), .second, .val (.long (9007199254740991 : Int64)), .second, .val (.long (q0 &&& (9007199254740991 : Int64))), .second, .val (.long ((9007199254740991 : Int64) - (q0 &&& (9007199254740991 : Int64)))), .second, .val (.long (f0_e2 q0 q1)), .second, .unset, .unset] [])) _
    refine XS.lload X0.here hx rfl (hb hby at_30) rfl ?_
    show Steps p.tables e below (s₁.setTop (mkF m 32 #[.val (.long q0), .second, .val (.long q1), .second, .val (.long (9007199254740991 : Int64)), .second, .val (.long (q0 &&& (9007199254740991 : Int64))), .second, .val (.long ((9007199254740991 : Int64) - (q0 &&& (9007199254740991 : Int64)))), .second, .val (.long (f0_e2 q0 q1)), .second, .unset, .unset] [(.long (q0 &&& (9007199254740991 : Int64)))])) _
    refine XS.lload X0.here hx rfl (hb hby at_32) rfl ?_
    show Steps p.tables e below (s₁.setTop (mkF m 34 #[.val (.long q0), .second, .val (.long q1), .second, .val (.long (9007199254740991 : Int64)), .second, .val (.long (q0 &&& (9007199254740991 : Int64))), .second, .val (.long ((9007199254740991 : Int64) - (q0 &&& (9007199254740991 : Int64)))), .second, .val (.long (f0_e2 q0 q1)), .second, .unset, .unset] [(.long (f0_e2 q0 q1)), (.long (q0 &&& (9007199254740991 : Int64)))])) _
    refine st1 _ ?_
    show Steps p.tables e below (T1.setTop (mkF m 37 #[.val (.long q0), .second, .val (.long q1), .second, .val (.long (9007199254740991 : Int64)), .second, .val (.long (q0 &&& (9007199254740991 : Int64))), .second, .val (.long ((9007199254740991 : Int64) - (q0 &&& (9007199254740991 : Int64)))), .second, .val (.long (f0_e2 q0 q1)), .second, .unset, .unset] [(.long (f1 (q0 &&& (9007199254740991 : Int64)) (f0_e2 q0 q1)))])) _
    refine XS.lstore X1.here hx rfl (hb hby at_37) rfl (l' := #[.val (.long q0), .second, .val (.long q1), .second, .val (.long (9007199254740991 : Int64)), .second, .val (.long (q0 &&& (9007199254740991 : Int64))), .second, .val (.long ((9007199254740991 : Int64) - (q0 &&& (9007199254740991 : Int64)))), .second, .val (.long (f0_e2 q0 q1)), .second, .val (.long (f1 (q0 &&& (9007199254740991 : Int64)) (f0_e2 q0 q1))), .second]) rfl ?_
    show Steps p.tables e below (T1.setTop (mkF m 39 #[.val (.long q0), .second, .val (.long q1), .second, .val (.long (9007199254740991 : Int64)), .second, .val (.long (q0 &&& (9007199254740991 : Int64))), .second, .val (.long ((9007199254740991 : Int64) - (q0 &&& (9007199254740991 : Int64)))), .second, .val (.long (f0_e2 q0 q1)), .second, .val (.long (f1 (q0 &&& (9007199254740991 : Int64)) (f0_e2 q0 q1))), .second] [])) _
    refine XS.lload X1.here hx rfl (hb hby at_39) rfl ?_
    show Steps p.tables e below (T1.setTop (mkF m 41 #[.val (.long q0), .second, .val (.long q1), .second, .val (.long (9007199254740991 : Int64)), .second, .val (.long (q0 &&& (9007199254740991 : Int64))), .second, .val (.long ((9007199254740991 : Int64) - (q0 &&& (9007199254740991 : Int64)))), .second, .val (.long (f0_e2 q0 q1)), .second, .val (.long (f1 (q0 &&& (9007199254740991 : Int64)) (f0_e2 q0 q1))), .second] [(.long (f1 (q0 &&& (9007199254740991 : Int64)) (f0_e2 q0 q1)))])) _
    refine XS.lload X1.here hx rfl (hb hby at_41) rfl ?_
    show Steps p.tables e below (T1.setTop (mkF m 43 #[.val (.long q0), .second, .val (.long q1), .second, .val (.long (9007199254740991 : Int64)), .second, .val (.long (q0 &&& (9007199254740991 : Int64))), .second, .val (.long ((9007199254740991 : Int64) - (q0 &&& (9007199254740991 : Int64)))), .second, .val (.long (f0_e2 q0 q1)), .second, .val (.long (f1 (q0 &&& (9007199254740991 : Int64)) (f0_e2 q0 q1))), .second] [(.long (q0 &&& (9007199254740991 : Int64))), (.long (f1 (q0 &&& (9007199254740991 : Int64)) (f0_e2 q0 q1)))])) _
    refine XS.lload X1.here hx rfl (hb hby at_43) rfl ?_
    show Steps p.tables e below (T1.setTop (mkF m 45 #[.val (.long q0), .second, .val (.long q1), .second, .val (.long (9007199254740991 : Int64)), .second, .val (.long (q0 &&& (9007199254740991 : Int64))), .second, .val (.long ((9007199254740991 : Int64) - (q0 &&& (9007199254740991 : Int64)))), .second, .val (.long (f0_e2 q0 q1)), .second, .val (.long (f1 (q0 &&& (9007199254740991 : Int64)) (f0_e2 q0 q1))), .second] [(.long (f0_e2 q0 q1)), (.long (q0 &&& (9007199254740991 : Int64))), (.long (f1 (q0 &&& (9007199254740991 : Int64)) (f0_e2 q0 q1)))])) _
    refine XS.ladd X1.here hx rfl (hb hby at_45) rfl ?_
    show Steps p.tables e below (T1.setTop (mkF m 46 #[.val (.long q0), .second, .val (.long q1), .second, .val (.long (9007199254740991 : Int64)), .second, .val (.long (q0 &&& (9007199254740991 : Int64))), .second, .val (.long ((9007199254740991 : Int64) - (q0 &&& (9007199254740991 : Int64)))), .second, .val (.long (f0_e2 q0 q1)), .second, .val (.long (f1 (q0 &&& (9007199254740991 : Int64)) (f0_e2 q0 q1))), .second] [(.long ((q0 &&& (9007199254740991 : Int64)) + (f0_e2 q0 q1))), (.long (f1 (q0 &&& (9007199254740991 : Int64)) (f0_e2 q0 q1)))])) _
    refine XS.lcmp X1.here hx rfl (hb hby at_46) rfl ?_
    exact kt)
  by_cases hc3 : (f0_e3 q0 q1) = (0 : Int32)
  · obtain ⟨fs, hr, hrun, hended, hW, hsame⟩ := X1.leave (v := some (.int (1 : Int32))) (fun h => by rw [Bd.returns] at h; cases h)
    refine ⟨_, _, pre2 _ ?_, hrun, hended, _, _, rfl, ?_, ⟨_, rfl⟩, hW, hsame.mono (by decide) (by decide)⟩
    · show Steps p.tables e below (T1.setTop (mkF m 47 #[.val (.long q0), .second, .val (.long q1), .second, .val (.long (9007199254740991 : Int64)), .second, .val (.long (q0 &&& (9007199254740991 : Int64))), .second, .val (.long ((9007199254740991 : Int64) - (q0 &&& (9007199254740991 : Int64)))), .second, .val (.long (f0_e2 q0 q1)), .second, .val (.long (f1 (q0 &&& (9007199254740991 : Int64)) (f0_e2 q0 q1))), .second] [(.int (f0_e3 q0 q1))])) _
      refine XS.ifNo X1.here hx rfl (hb hby at_47) rfl ((if0 _ _).trans (teq hc3).2) ?_
      show Steps p.tables e below (T1.setTop (mkF m 50 #[.val (.long q0), .second, .val (.long q1), .second, .val (.long (9007199254740991 : Int64)), .second, .val (.long (q0 &&& (9007199254740991 : Int64))), .second, .val (.long ((9007199254740991 : Int64) - (q0 &&& (9007199254740991 : Int64)))), .second, .val (.long (f0_e2 q0 q1)), .second, .val (.long (f1 (q0 &&& (9007199254740991 : Int64)) (f0_e2 q0 q1))), .second] [])) _
      refine XS.iconst X1.here hx rfl (hb hby at_50) ?_
      show Steps p.tables e below (T1.setTop (mkF m 51 #[.val (.long q0), .second, .val (.long q1), .second, .val (.long (9007199254740991 : Int64)), .second, .val (.long (q0 &&& (9007199254740991 : Int64))), .second, .val (.long ((9007199254740991 : Int64) - (q0 &&& (9007199254740991 : Int64)))), .second, .val (.long (f0_e2 q0 q1)), .second, .val (.long (f1 (q0 &&& (9007199254740991 : Int64)) (f0_e2 q0 q1))), .second] [(.int (1 : Int32))])) _
      refine XS.goto X1.here hx rfl (pc0 := 51) (pc' := 55) rfl (hb hby at_51) (by decide) (by decide) ?_
      show Steps p.tables e below (T1.setTop (mkF m 55 #[.val (.long q0), .second, .val (.long q1), .second, .val (.long (9007199254740991 : Int64)), .second, .val (.long (q0 &&& (9007199254740991 : Int64))), .second, .val (.long ((9007199254740991 : Int64) - (q0 &&& (9007199254740991 : Int64)))), .second, .val (.long (f0_e2 q0 q1)), .second, .val (.long (f1 (q0 &&& (9007199254740991 : Int64)) (f0_e2 q0 q1))), .second] [(.int (1 : Int32))])) _
      exact retN X1 hx (t := .boolean) Bd.returns (by simp) (hb hby at_55) hr
    · show Q0 Z q0 q1 h0 n0 _ T1.heap _
      rw [e1]
      exact ⟨by rw [show f0 q0 q1 = (1 : Int32) from by unfold f0; rw [if_pos hc3]], N1⟩
  · obtain ⟨fs, hr, hrun, hended, hW, hsame⟩ := X1.leave (v := some (.int (0 : Int32))) (fun h => by rw [Bd.returns] at h; cases h)
    refine ⟨_, _, pre2 _ ?_, hrun, hended, _, _, rfl, ?_, ⟨_, rfl⟩, hW, hsame.mono (by decide) (by decide)⟩
    · show Steps p.tables e below (T1.setTop (mkF m 47 #[.val (.long q0), .second, .val (.long q1), .second, .val (.long (9007199254740991 : Int64)), .second, .val (.long (q0 &&& (9007199254740991 : Int64))), .second, .val (.long ((9007199254740991 : Int64) - (q0 &&& (9007199254740991 : Int64)))), .second, .val (.long (f0_e2 q0 q1)), .second, .val (.long (f1 (q0 &&& (9007199254740991 : Int64)) (f0_e2 q0 q1))), .second] [(.int (f0_e3 q0 q1))])) _
      refine XS.ifYes X1.here hx rfl (pc0 := 47) (pc' := 54) rfl (hb hby at_47) rfl ((if0 _ _).trans (feq hc3).2) (by decide) (by decide) ?_
      show Steps p.tables e below (T1.setTop (mkF m 54 #[.val (.long q0), .second, .val (.long q1), .second, .val (.long (9007199254740991 : Int64)), .second, .val (.long (q0 &&& (9007199254740991 : Int64))), .second, .val (.long ((9007199254740991 : Int64) - (q0 &&& (9007199254740991 : Int64)))), .second, .val (.long (f0_e2 q0 q1)), .second, .val (.long (f1 (q0 &&& (9007199254740991 : Int64)) (f0_e2 q0 q1))), .second] [])) _
      refine XS.iconst X1.here hx rfl (hb hby at_54) ?_
      show Steps p.tables e below (T1.setTop (mkF m 55 #[.val (.long q0), .second, .val (.long q1), .second, .val (.long (9007199254740991 : Int64)), .second, .val (.long (q0 &&& (9007199254740991 : Int64))), .second, .val (.long ((9007199254740991 : Int64) - (q0 &&& (9007199254740991 : Int64)))), .second, .val (.long (f0_e2 q0 q1)), .second, .val (.long (f1 (q0 &&& (9007199254740991 : Int64)) (f0_e2 q0 q1))), .second] [(.int (0 : Int32))])) _
      exact retN X1 hx (t := .boolean) Bd.returns (by simp) (hb hby at_55) hr
    · show Q0 Z q0 q1 h0 n0 _ T1.heap _
      rw [e1]
      exact ⟨by rw [show f0 q0 q1 = (0 : Int32) from by unfold f0; rw [if_neg hc3]], N1⟩
theorem own_law (q0 q1 : Int64) : f0 q0 q1 = 1 := by
  unfold f0
  rw [if_pos]
  show lcmpW (f1 (own_a q0) (own_b q0 q1)) (own_a q0 + own_b q0 q1) = 0
  rw [lw_eq]
  rfl
set_option maxRecDepth 65536 in
set_option maxHeartbeats 40000000 in
theorem comes_1 {Post : Tables → Env → Array Value → State → Outcome → State → Prop} (hpost : ∀ tb e args s v u, (limb_1_1.after args s (.returned v) u = true ∧ limb_1_2.after args s (.returned v) u = true ∧ True) → FrameEnd s (.returned v) u (Jvm.fieldLocs frame_1_writes args s ++ Jvm.arrayLocs frame_1_arrays args s ++ Jvm.staticLocs frame_1_statics s) 0 0 → Post tb e args s (.returned v) u) :
    ArmFor flags0 classFile x code maxLocals ret World_1 tables_1 room_1 Calls_1 rest_1 Pre_1 Post := by
  intro l hfl _ _ p e ha hc hk s m args below hf hA hF happ hP
  obtain ⟨hcalls, hrest, hpre⟩ := hP
  obtain ⟨-, -, -, hnamed, -, -, -, hat⟩ := (Spec.applies_iff hf).mp happ
  obtain ⟨hg, hn⟩ := and_e (Cond.before_iff.mp (show (Jvm.Cond.and given_1 narrow_1).before args s = true from hpre))
  obtain ⟨g1, g2⟩ := and_e hg
  obtain ⟨g3, g4⟩ := and_e g2
  obtain ⟨w0, w1, rfl⟩ : ∃ w0 w1 : Value, args = #[w0, w1] := by
    have hs : args.size = 2 := by simpa [Cond.value, given_1] using g1
    obtain ⟨L⟩ := args
    match L, hs with
    | [w0, w1], _ => exact ⟨w0, w1, rfl⟩
  have hw := fun d (hd : d ∈ tables_1) => atoms_spec (ws := Jvm.Cond.code x code maxLocals ret :: tables_1) hat d (List.mem_cons_of_mem _ hd)
  have hfit : Fit s := fun {y c} hc i hi => by
    obtain ⟨ha, rfl⟩ := Array.getElem?_eq_some_iff.mp hc
    have q := List.all_eq_true.mp ((Array.all_eq_true_iff_forall_mem.mp hF) _ (Array.getElem_mem ha)) i (List.mem_range.mpr hi)
    simpa [Array.getElem?_eq_getElem hi] using q
  obtain ⟨i0, ei0⟩ := isL_v g3
  obtain rfl : w0 = (.long i0) := Option.some.inj ei0
  obtain ⟨i1, ei1⟩ := isL_v g4
  obtain rfl : w1 = (.long i1) := Option.some.inj ei1
  obtain ⟨n, o, h1, h2, h3, _, L, rfl, ⟨rfl, N⟩, hq⟩ := rm0 l s _ hw tables_1 i0 i1 s.heap s.heap.size (Nat.le_refl _) p e ha hc hk s m _ below hf ((Spec.applies_iff_loose hf).mp happ).1 ⟨rfl, State.Warmed39.refl s, rfl⟩ trivial
  refine ⟨n, _, h1, h2, h3, hpost _ _ _ _ _ _ ⟨Cond.after_iff.mpr rfl, Cond.after_iff.mpr (eq_i res_at (Term.int_eval (1)) (by rw [own_law i0 i1])), trivial⟩ ⟨hq.1, hq.2.1, (hq.2.2.sift fun y hy => Or.inr (N y hy)).mono (by decide) (by decide)⟩⟩
theorem main_1_1 : Claimed_1_1 := comes_1 fun _ _ _ _ _ _ h hF => ⟨h.1, hF⟩
theorem main_1_2 : Claimed_1_2 := comes_1 fun _ _ _ _ _ _ h hF => ⟨h.2.1, hF⟩
end Jvm.Pilot.@@N@@
namespace Jvm.Pilot.@@N@@
open Jvm Jvm.ClassFile Sem Op Lib Jvm.Free Jvm.Stand Jvm.Pilot.@@N@@.Jvm.D
/-! MADE BY PROGRAM (witnessworld.py) out of the Statement's table words and the real class files: 9 classes; the members and pool entries that the words name. The judged class is class 1, her method 1. -/
namespace start1
open Jvm.ClassFile
def u (s : String) : CpInfo := .utf8 (stringToUtf16 s)
/-- a pool by its gaps: so many unusable entries, then the entry; so many at the end -/
def gap : Nat → List CpInfo → List CpInfo
  | 0, r => r
  | n + 1, r => .unusable :: gap n r
def poolList (es : List (Nat × CpInfo)) (last : Nat) : List CpInfo := es.foldr (fun e r => gap e.1 (e.2 :: r)) (gap last [])
def pool (es : List (Nat × CpInfo)) (last : Nat) : Array CpInfo := ⟨poolList es last⟩
def fileOf (pool : Array CpInfo) (this : Nat) (attrs : Array Attribute := #[]) (ms : Array MethodInfo := #[]) (fl : Nat := 33) (sup : Nat := 0) (ifs : Array Nat := #[]) (fds : Array FieldInfo := #[]) : ClassFile where
  minorVersion := 0
  majorVersion := 65
  constantPool := pool
  accessFlags := fl
  thisClass := this
  superClass := sup
  interfaces := ifs
  fields := fds
  methods := ms
  attributes := attrs
def plain (name : String) (sup : Option ClassId) : Class where
  name := name
  kind := .ordinary
  loader := none
  accessFlags := 33
  super := sup
  interfaces := #[]
  cf := none
  fields := #[]
  methods := #[]
  instanceTypes := #[]
  staticTypes := #[]
  resolved := #[]
  callSites := []
  init := .initialized
  statics := none
  mirror := none

def pool0 : Array CpInfo := pool [(5, u "<init>"), (0, u "()V"), (1, .class_ 10), (1, u "java/lang/Object")] 113

def k0m0 : Method := { name := "<init>", desc := "()V", sig := { parameters := [], returnType := none }, accessFlags := 1, code := none }
/-- java/lang/Object -/
def k0 : Class := { plain "java/lang/Object" none with
  accessFlags := 33
  interfaces := #[]
  cf := some (fileOf pool0 8 #[] #[{ accessFlags := 1, nameIndex := 5, descriptorIndex := 6, attributes := #[] }] 33 0 #[] #[])
  fields := #[]
  methods := #[k0m0]
  instanceTypes := #[]
  staticTypes := #[]
  resolved := Array.replicate 124 none
  statics := none }

def pool1 : Array CpInfo := pool [(2, .class_ 4), (1, u "java/lang/Object"), (0, u "<init>"), (0, u "()V"), (0, .class_ 8), (0, u "com/example/subscription_engine/subscriptionengine/SafeIntegers"), (0, .long 9007199254740991), (3, .long 9223372036854775807), (1, .methodref 7 16), (0, .nameAndType 17 18), (0, u "add"), (0, u "(JJ)J"), (0, .class_ 20), (0, u "com/example/subscription_engine/subscriptionengine/SafeIntegersAddPinLaw"), (2, u "law"), (0, u "(JJ)Z")] 3

def k1m0 : Method := { name := "<init>", desc := "()V", sig := { parameters := [], returnType := none }, accessFlags := 2, code := none }
def k1c1 : Code := { maxStack := 6, maxLocals := 14, code := code, exceptionTable := #[], attributes := #[] }
def k1m1 : Method := { name := "law", desc := "(JJ)Z", sig := { parameters := [.long, .long], returnType := some .boolean }, accessFlags := 9, code := some k1c1 }
/-- com/example/subscription_engine/subscriptionengine/SafeIntegersAddPinLaw -/
def k1 : Class := { plain "com/example/subscription_engine/subscriptionengine/SafeIntegersAddPinLaw" (some 0) with
  accessFlags := 49
  interfaces := #[]
  cf := some (fileOf pool1 19 #[] #[{ accessFlags := 2, nameIndex := 5, descriptorIndex := 6, attributes := #[] }, { accessFlags := 9, nameIndex := 23, descriptorIndex := 24, attributes := #[] }] 49 2 #[] #[])
  fields := #[]
  methods := #[k1m0, k1m1]
  instanceTypes := #[]
  staticTypes := #[]
  resolved := Array.replicate 28 none
  statics := none }

def pool2 : Array CpInfo := pool [(2, .class_ 4), (1, u "java/lang/Object"), (0, u "<init>"), (0, u "()V"), (0, .class_ 8), (0, u "com/example/subscription_engine/subscriptionengine/SafeIntegers"), (0, .long 9007199254740991), (1, .methodref 7 12), (0, .nameAndType 13 14), (0, u "requireInRange"), (0, u "(J)V"), (17, .methodref 7 33), (0, .nameAndType 34 35), (0, u "inRange"), (0, u "(J)Z"), (6, u "MAX"), (0, u "J"), (4, u "add"), (0, u "(JJ)J")] 20

def k2m0 : Method := { name := "<init>", desc := "()V", sig := { parameters := [], returnType := none }, accessFlags := 2, code := none }
def k2c1 : Code := { maxStack := 4, maxLocals := 2, code := prog_3_method_2_code, exceptionTable := #[], attributes := #[] }
def k2m1 : Method := { name := "inRange", desc := "(J)Z", sig := { parameters := [.long], returnType := some .boolean }, accessFlags := 9, code := some k2c1 }
def k2c2 : Code := { maxStack := 6, maxLocals := 4, code := prog_3_method_3_code, exceptionTable := #[], attributes := #[] }
def k2m2 : Method := { name := "add", desc := "(JJ)J", sig := { parameters := [.long, .long], returnType := some .long }, accessFlags := 9, code := some k2c2 }
def k2c3 : Code := { maxStack := 4, maxLocals := 2, code := prog_3_method_6_code, exceptionTable := #[], attributes := #[] }
def k2m3 : Method := { name := "requireInRange", desc := "(J)V", sig := { parameters := [.long], returnType := none }, accessFlags := 10, code := some k2c3 }
/-- com/example/subscription_engine/subscriptionengine/SafeIntegers -/
def k2 : Class := { plain "com/example/subscription_engine/subscriptionengine/SafeIntegers" (some 0) with
  accessFlags := 33
  interfaces := #[]
  cf := some (fileOf pool2 7 #[] #[{ accessFlags := 2, nameIndex := 5, descriptorIndex := 6, attributes := #[] }, { accessFlags := 9, nameIndex := 34, descriptorIndex := 35, attributes := #[] }, { accessFlags := 9, nameIndex := 48, descriptorIndex := 49, attributes := #[] }, { accessFlags := 10, nameIndex := 13, descriptorIndex := 14, attributes := #[] }] 33 2 #[] #[{ accessFlags := 25, nameIndex := 42, descriptorIndex := 43, attributes := #[] }])
  fields := #[{ name := "MAX", type := .long, accessFlags := 25, slot := 0, constantValue := 0 }]
  methods := #[k2m0, k2m1, k2m2, k2m3]
  instanceTypes := #[]
  staticTypes := #[.long]
  resolved := Array.replicate 70 none
  statics := none }

def pool3 : Array CpInfo := pool [(1, u "java/lang/Cloneable"), (0, .class_ 1), (0, u "java/lang/Object"), (0, .class_ 3)] 3

/-- java/lang/Cloneable -/
def k3 : Class := { plain "java/lang/Cloneable" (some 0) with
  accessFlags := 1537
  interfaces := #[]
  cf := some (fileOf pool3 2 #[] #[] 1537 4 #[] #[])
  fields := #[]
  methods := #[]
  instanceTypes := #[]
  staticTypes := #[]
  resolved := Array.replicate 8 none
  statics := none }

def pool4 : Array CpInfo := pool [(1, u "java/io/Serializable"), (0, .class_ 1), (0, u "java/lang/Object"), (0, .class_ 3)] 3

/-- java/io/Serializable -/
def k4 : Class := { plain "java/io/Serializable" (some 0) with
  accessFlags := 1537
  interfaces := #[]
  cf := some (fileOf pool4 2 #[] #[] 1537 4 #[] #[])
  fields := #[]
  methods := #[]
  instanceTypes := #[]
  staticTypes := #[]
  resolved := Array.replicate 8 none
  statics := none }

/-- the primitive byte -/
def k5 : Class := { plain "byte" none with kind := .primitive 'B', accessFlags := 0x411 }
/-- [B -/
def k6 : Class := { plain "[B" (some 0) with kind := .array 5 .byte, interfaces := #[3, 4], accessFlags := 1041 }

/-- the primitive int -/
def k7 : Class := { plain "int" none with kind := .primitive 'I', accessFlags := 0x411 }
/-- [I -/
def k8 : Class := { plain "[I" (some 0) with kind := .array 7 .int, interfaces := #[3, 4], accessFlags := 1041 }

def heap : Heap := #[]
def classes : Array Class := #[k0, k1, k2, k3, k4, k5, k6, k7, k8]
def interned : List (Array UInt16 × Addr) := []
def slotsUsed : Nat := 0
def theMethod : MethodId := ⟨1, 1⟩
def args0 : Array Value := #[.long 5, .long 5]
def aboutOver (below : List Frame) : State where
  vm := { classes := classes, interned := interned.toArray }
  heap := heap
  slotsUsed := slotsUsed
  threads := #[{ frames := .invoking theMethod args0 :: below }]
def below0 : List Frame := [.native { method := ⟨0, 0⟩, args := #[] }]
def about1 : State := aboutOver below0
def p0 : Program := .bare "" "" ""
def e0 : Env := launch0.env 0 0 0
theorem w_frames : about1.frames = Frame.invoking theMethod args0 :: below0 := rfl
set_option maxRecDepth 65536 in
theorem w_args : argsFit about1.vm theMethod args0 = true := by decide +kernel
set_option maxRecDepth 65536 in
theorem w_heap : heapFits about1 = true := by decide +kernel
set_option maxRecDepth 65536 in
theorem w_runnable : about1.curStatus? = some .runnable := by decide +kernel
set_option maxRecDepth 65536 in
theorem w_alone : about1.alone = true := by decide +kernel
set_option maxRecDepth 65536 in
theorem w_named : about1.methodNamed? x = some theMethod := by decide +kernel
set_option maxRecDepth 65536 in
theorem w_hears : about1.hears theMethod below0 = true := by decide +kernel
set_option maxRecDepth 65536 in
theorem w_ripe : about1.ripe theMethod args0 below0 = true := by decide +kernel
theorem w_running : about1.status = .running := rfl
set_option maxRecDepth 65536 in
theorem w_room : about1.hasRoom e0.platform room_1 = true :=
  launch0.hasRoom_least _ room_1 (by decide +kernel) (by decide +kernel) (by decide +kernel) (by decide +kernel) (by decide +kernel) (by decide +kernel)
theorem allAtoms_all (ts : List Jvm.Cond) (a : Array Jvm.Value) (st : Jvm.State) : (allAtoms ts).before a st = ts.all (fun c => c.before a st) := by
  induction ts with
  | nil => rfl
  | cons c t ih =>
    show (Jvm.Cond.and c (allAtoms t)).before a st = _
    rw [Jvm.Cond.before_and, ih, List.all_cons]
def words1 : List Jvm.Cond := Jvm.Cond.code x code maxLocals ret :: tables_1
/-- a 'code' word, met by the world's own term for the bytes: nothing is compared byte by byte -/
theorem code_word {y : MethodName} {bytes : ByteArray} {mx : Nat} {rt : Option FieldType} {a : Array Value} {s : State} {m : MethodId} {meth : Method} {c : Code} (h1 : s.methodNamed? y = some m) (h2 : s.vm.method? m = some meth) (h3 : meth.code = some c) (h4 : c.code = bytes)
    (h5 : (c.maxLocals == mx && c.exceptionTable.isEmpty && decide (c.maxStack ≤ mostOperands) && decide (meth.sig.returnType = rt) && !meth.locks && decide (parseMethodDescriptor y.desc = some meth.sig)) = true) : (Jvm.Cond.code y bytes mx rt).before a s = true := by
  simp only [Bool.and_eq_true, beq_iff_eq, Bool.not_eq_true', decide_eq_true_eq] at h5
  obtain ⟨⟨⟨⟨⟨g1, g2⟩, g3⟩, g4⟩, g5⟩, g6⟩ := h5
  simp [Cond.before, Cond.holds, Cond.value, h1, h2, h3, h4, g1, g2, g3, g4, g5, g6]
def isCode : Jvm.Cond → Bool
  | .code _ _ _ _ => true
  | _ => false
theorem all_split {L : List Jvm.Cond} {P : Jvm.Cond → Bool} (h1 : L.all (fun c => isCode c || P c) = true) (h2 : ∀ c ∈ L.filter isCode, P c = true) : L.all P = true := by
  refine List.all_eq_true.mpr fun c hc => ?_
  have h := List.all_eq_true.mp h1 c hc
  rcases Bool.eq_false_or_eq_true (isCode c) with hi | hi
  · exact h2 c (List.mem_filter.mpr ⟨hc, hi⟩)
  · simpa [hi] using h
set_option maxRecDepth 65536 in
theorem w_c0 : (Jvm.Cond.code x code maxLocals ret).before args0 about1 = true := code_word (m := ⟨1, 1⟩) (meth := k1m1) (c := k1c1) (by decide +kernel) rfl rfl rfl (by decide +kernel)
set_option maxRecDepth 65536 in
theorem w_c1 : (Jvm.Cond.code ({ cls := "com/example/subscription_engine/subscriptionengine/SafeIntegers", name := "add", desc := "(JJ)J" } : Jvm.MethodName) prog_3_method_3_code (4 : Nat) (Option.some Jvm.ClassFile.FieldType.long)).before args0 about1 = true := code_word (m := ⟨2, 2⟩) (meth := k2m2) (c := k2c2) (by decide +kernel) rfl rfl rfl (by decide +kernel)
set_option maxRecDepth 65536 in
theorem w_c2 : (Jvm.Cond.code ({ cls := "com/example/subscription_engine/subscriptionengine/SafeIntegers", name := "requireInRange", desc := "(J)V" } : Jvm.MethodName) prog_3_method_6_code (2 : Nat) (Option.none : Option Jvm.ClassFile.FieldType)).before args0 about1 = true := code_word (m := ⟨2, 3⟩) (meth := k2m3) (c := k2c3) (by decide +kernel) rfl rfl rfl (by decide +kernel)
set_option maxRecDepth 65536 in
theorem w_c3 : (Jvm.Cond.code ({ cls := "com/example/subscription_engine/subscriptionengine/SafeIntegers", name := "inRange", desc := "(J)Z" } : Jvm.MethodName) prog_3_method_2_code (2 : Nat) (Option.some Jvm.ClassFile.FieldType.boolean)).before args0 about1 = true := code_word (m := ⟨2, 1⟩) (meth := k2m1) (c := k2c1) (by decide +kernel) rfl rfl rfl (by decide +kernel)
def codes1 : List Jvm.Cond := [Jvm.Cond.code x code maxLocals ret, Jvm.Cond.code ({ cls := "com/example/subscription_engine/subscriptionengine/SafeIntegers", name := "add", desc := "(JJ)J" } : Jvm.MethodName) prog_3_method_3_code (4 : Nat) (Option.some Jvm.ClassFile.FieldType.long), Jvm.Cond.code ({ cls := "com/example/subscription_engine/subscriptionengine/SafeIntegers", name := "requireInRange", desc := "(J)V" } : Jvm.MethodName) prog_3_method_6_code (2 : Nat) (Option.none : Option Jvm.ClassFile.FieldType), Jvm.Cond.code ({ cls := "com/example/subscription_engine/subscriptionengine/SafeIntegers", name := "inRange", desc := "(J)Z" } : Jvm.MethodName) prog_3_method_2_code (2 : Nat) (Option.some Jvm.ClassFile.FieldType.boolean)]
set_option maxRecDepth 65536 in
theorem codes_eq : words1.filter isCode = codes1 := rfl
theorem w_codes : ∀ c ∈ words1.filter isCode, c.before args0 about1 = true := by
  rw [codes_eq]
  intro c hc
  simp only [codes1, List.mem_cons, List.not_mem_nil, or_false] at hc
  rcases hc with rfl | rfl | rfl | rfl
  · exact w_c0
  · exact w_c1
  · exact w_c2
  · exact w_c3
set_option maxRecDepth 65536 in
theorem w_t1 : words1.all (fun c => isCode c || c.before args0 about1) = true := by decide +kernel
theorem w_tables : (allAtoms (Jvm.Cond.code x code maxLocals ret :: tables_1)).before args0 about1 = true := by
  rw [allAtoms_all]
  show words1.all (fun c => c.before args0 about1) = true
  refine all_split ?_ w_codes
  rw [w_t1]
set_option maxRecDepth 65536 in
theorem w_case : (Jvm.Cond.and given_1 narrow_1).before args0 about1 = true := by decide +kernel
theorem w_applies : (headSpec (Jvm.Cond.code x code maxLocals ret :: tables_1) room_1).applies x e0.platform about1 = true :=
  (Spec.applies_iff w_frames).mpr ⟨w_running, w_runnable, w_alone, w_named, w_hears, w_ripe, w_room, w_tables⟩
theorem atStart : AtStart classFile x code maxLocals ret World_1 tables_1 room_1 Calls_1 rest_1 Pre_1 launch0 p0 e0 about1 theMethod args0 below0 :=
  ⟨lists_1, trivial, launch0.admits_env _ _ _, launch0.least_env, fairChoices_fair.cas, fairChoices_fair.clock, w_frames, w_args, w_heap, w_applies, trivial, trivial, w_case⟩
end start1
theorem witness_1 : WitnessClaimed_1 := ⟨start1.p0, start1.e0, start1.about1, start1.theMethod, start1.args0, start1.below0, start1.atStart⟩
end Jvm.Pilot.@@N@@

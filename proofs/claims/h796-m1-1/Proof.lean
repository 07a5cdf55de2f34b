import JvmDerived
import JvmDerived.Pilot.@@N@@Statement
import JvmDerived.Pilot.@@N@@Code
set_option linter.unusedVariables false
set_option linter.unusedSimpArgs false
namespace Jvm.RoadKit
open Sem ClassFile Op Lib Jvm.Stand Jvm.Free Jvm.LawKit
section New
variable {p : Program} {l : Launch} {e : Env} {R : Room} {s : State} {m : MethodId} {args : Array Value} {below : List Frame} {meth : Method} {c : Code} {T : State} {locs : List Loc} {cells slots : Nat}
theorem retI (X : Stand p l e R s m args below meth c T locs cells slots) (hx : p.tables.exec = Jvm.exec) {pc : Nat} {Ls : Array Slot} {z : Int32} {rest : List Value} (hret : meth.sig.returnType = some .int) (hd : decode c.code pc = .ok (.ireturn, 1)) {fs : List Frame}
    (hl : ∀ (f : JFrame) (acts : List Action), f.method = m → f.locked = none → f.entered = [] → (doReturn e (T.setTop f) acts (some (.int z))).1 = T.setFrames fs) : Steps p.tables e below (T.setTop (mkF m pc Ls (.int z :: rest))) (T.setFrames fs) := by
  have hm' : T.vm.method? m = some meth := X.method'
  have hn : narrow .int (.int z) = .int z := rfl
  show Steps p.tables e below (T.setTop { method := m, pc := pc, locals := Ls, stack := _ :: rest, locked := none }) _
  jvm_step X.here [X.here.top, hx, hd, hm', hret, hn]
  first | (intro acts; rw [hl _ acts rfl rfl rfl]) | rw [hl _ _ rfl rfl rfl]
  exact Steps.refl _
end New
end Jvm.RoadKit
namespace Jvm.Pilot.@@N@@
open Jvm Jvm.ClassFile Sem Op Lib Jvm.Free Jvm.Stand Jvm.LawKit Jvm.RoadKit Bundle Jvm.Pilot.@@N@@.Jvm.D
theorem d1_0 : decode jdk_29_method_61_code 0 = .ok (.lload_n 0, 1) := by decide +kernel
theorem d1_1 : decode jdk_29_method_61_code 1 = .ok (.lconst 0, 1) := by decide +kernel
theorem d1_2 : decode jdk_29_method_61_code 2 = .ok (.lcmp, 1) := by decide +kernel
theorem d1_3 : decode jdk_29_method_61_code 3 = .ok (.ifCond .ge 8, 3) := by decide +kernel
theorem d1_6 : decode jdk_29_method_61_code 6 = .ok (.lload_n 0, 1) := by decide +kernel
theorem d1_7 : decode jdk_29_method_61_code 7 = .ok (.lneg, 1) := by decide +kernel
theorem d1_8 : decode jdk_29_method_61_code 8 = .ok (.goto 4, 3) := by decide +kernel
theorem d1_11 : decode jdk_29_method_61_code 11 = .ok (.lload_n 0, 1) := by decide +kernel
theorem d1_12 : decode jdk_29_method_61_code 12 = .ok (.lreturn, 1) := by decide +kernel
theorem ef_1 (m : MethodId) (x0 : Int64) : entryFrame m #[(.long x0)] 2 = mkF m 0 #[.val (.long x0), .second] [] := by first | (simp [entryFrame, mkF, argsToLocals, Value.category]; done) | rfl
def f1 (q0 : Int64) : Int64 := (if (lcmpW q0 (0 : Int64)) < (0 : Int32) then (-q0) else q0)
def Q1 (Z : State) (q0 : Int64) (h0 : Heap) (n0 : Nat) (v : Option Value) (h : Heap) (L : List Loc) : Prop := v = some (.long (f1 q0)) ∧ Fr n0 L ∧ h = h0
set_option maxRecDepth 65536 in
set_option maxHeartbeats 40000000 in
theorem rm1 (l : Launch) (Z : State) (a0 : Array Value) (hw : ∀ d ∈ tables_1, d.before a0 Z = true) (ws : List Jvm.Cond) (q0 : Int64) (h0 : Heap) (n0 : Nat) (Z0 : n0 ≤ h0.size)  :
    MetFree l (⟨"java/lang/Math", "abs", "(J)J"⟩ : MethodName) (head1 (Jvm.Cond.code (⟨"java/lang/Math", "abs", "(J)J"⟩ : MethodName) jdk_29_method_61_code 2 (some .long) :: ws) ({ frames := 0, cells := 0, slots := 0, locals := 0 } : Room)) (fun a U => a = #[(.long q0)] ∧ Z.Warmed39 U.vm ∧ U.heap = h0) (fun _ _ _ _ _ => True) (fun _ U o U' => ∃ v L, o = .returned v ∧ Q1 Z q0 h0 n0 v U'.heap L ∧ FrameEnd U o U' L ({ frames := 0, cells := 0, slots := 0, locals := 0 } : Room).cells ({ frames := 0, cells := 0, slots := 0, locals := 0 } : Room).slots) := by
  refine MetFree.of_bodySF (Jvm.Free.JP.mathPlain rfl (by decide +kernel)) hisR ?_
  intro p e s m args below meth c s₁ Bd hml0 hP hK
  obtain ⟨rfl, hZ, hh⟩ := hP
  have hx := Bd.exec
  have hby := Bd.bytes
  have hml : c.maxLocals = 2 := hml0
  have hown : s.vm.findClass "java/lang/Math" = some m.cls := findClass_of_methodNamed Bd.named
  have hnm := (name_of_methodNamed Bd.named Bd.method).1
  have X0 : Stand p l e ({ frames := 0, cells := 0, slots := 0, locals := 0 } : Room) s m #[(.long q0)] below meth c s₁ [] 0 0 := Stand.of_body Bd
  have e0 : s₁.heap = h0 := by rw [← hh, Bd.state]; rfl
  have N0 := Fr.nil n0
  have K0 := Keep.refl h0 []
  have pre0 : ∀ t, Steps p.tables e below (s₁.setTop (mkF m 0 #[.val (.long q0), .second] [])) t → Steps p.tables e below (s₁.setTop (entryFrame m #[(.long q0)] 2)) t := fun t k => castTop (ef_1 m q0) k
  have pre1 : ∀ t, Steps p.tables e below (s₁.setTop (mkF m 3 #[.val (.long q0), .second] [(.int (lcmpW q0 (0 : Int64)))])) t → Steps p.tables e below (s₁.setTop (entryFrame m #[(.long q0)] 2)) t := fun t kt => pre0 t (by
    show Steps p.tables e below (s₁.setTop (mkF m 0 #[.val (.long q0), .second] [])) _
    refine XS.lloadN X0.here hx rfl (hb hby d1_0) rfl ?_
    show Steps p.tables e below (s₁.setTop (mkF m 1 #[.val (.long q0), .second] [(.long q0)])) _
    refine XS.lconst X0.here hx rfl (hb hby d1_1) ?_
    show Steps p.tables e below (s₁.setTop (mkF m 2 #[.val (.long q0), .second] [(.long (0 : Int64)), (.long q0)])) _
    refine XS.lcmp X0.here hx rfl (hb hby d1_2) rfl ?_
    exact kt)
  by_cases hc2 : (lcmpW q0 (0 : Int64)) < (0 : Int32)
  · obtain ⟨fs, hr, hrun, hended, hW, hsame⟩ := X0.leave (v := some (.long (-q0))) (fun h => by rw [Bd.returns] at h; cases h)
    refine ⟨_, _, pre1 _ ?_, hrun, hended, _, _, rfl, ?_, ⟨_, rfl⟩, hW, hsame.mono (by decide) (by decide)⟩
    · show Steps p.tables e below (s₁.setTop (mkF m 3 #[.val (.long q0), .second] [(.int (lcmpW q0 (0 : Int64)))])) _
      refine XS.ifNo X0.here hx rfl (hb hby d1_3) rfl ((if0 _ _).trans (tlt hc2).2.1) ?_
      show Steps p.tables e below (s₁.setTop (mkF m 6 #[.val (.long q0), .second] [])) _
      refine XS.lloadN X0.here hx rfl (hb hby d1_6) rfl ?_
      show Steps p.tables e below (s₁.setTop (mkF m 7 #[.val (.long q0), .second] [(.long q0)])) _
      refine XS.lneg X0.here hx rfl (hb hby d1_7) rfl ?_
      show Steps p.tables e below (s₁.setTop (mkF m 8 #[.val (.long q0), .second] [(.long (-q0))])) _
      refine XS.goto X0.here hx rfl (pc0 := 8) (pc' := 12) rfl (hb hby d1_8) (by decide) (by decide) ?_
      show Steps p.tables e below (s₁.setTop (mkF m 12 #[.val (.long q0), .second] [(.long (-q0))])) _
      jvm_step X0.here [X0.here.top, hx, (hb hby d1_12), X0.method', Bd.returns, narrow]
      first | (intro acts; rw [hr _ acts rfl rfl rfl]) | rw [hr _ _ rfl rfl rfl]
      exact Steps.refl _
    · show Q1 Z q0 h0 n0 _ s₁.heap _
      rw [e0]
      exact ⟨by rw [show f1 q0 = (-q0) from by unfold f1; rw [if_pos hc2]], N0, rfl⟩
  · obtain ⟨fs, hr, hrun, hended, hW, hsame⟩ := X0.leave (v := some (.long q0)) (fun h => by rw [Bd.returns] at h; cases h)
    refine ⟨_, _, pre1 _ ?_, hrun, hended, _, _, rfl, ?_, ⟨_, rfl⟩, hW, hsame.mono (by decide) (by decide)⟩
    · show Steps p.tables e below (s₁.setTop (mkF m 3 #[.val (.long q0), .second] [(.int (lcmpW q0 (0 : Int64)))])) _
      refine XS.ifYes X0.here hx rfl (pc0 := 3) (pc' := 11) rfl (hb hby d1_3) rfl ((if0 _ _).trans (flt hc2).2.1) (by decide) (by decide) ?_
      show Steps p.tables e below (s₁.setTop (mkF m 11 #[.val (.long q0), .second] [])) _
      refine XS.lloadN X0.here hx rfl (hb hby d1_11) rfl ?_
      show Steps p.tables e below (s₁.setTop (mkF m 12 #[.val (.long q0), .second] [(.long q0)])) _
      jvm_step X0.here [X0.here.top, hx, (hb hby d1_12), X0.method', Bd.returns, narrow]
      first | (intro acts; rw [hr _ acts rfl rfl rfl]) | rw [hr _ _ rfl rfl rfl]
      exact Steps.refl _
    · show Q1 Z q0 h0 n0 _ s₁.heap _
      rw [e0]
      exact ⟨by rw [show f1 q0 = q0 from by unfold f1; rw [if_neg hc2]], N0, rfl⟩
theorem pn_0 : plainName "com/example/vestline/vestline/core/InstallmentCount" = true := by first | (simp [plainName, overriddenIn]; done) | decide +kernel
theorem d2_0 : decode prog_21_method_2_code 0 = .ok (.iload_n 0, 1) := by decide +kernel
theorem d2_1 : decode prog_21_method_2_code 1 = .ok (.iconst 1, 1) := by decide +kernel
theorem d2_2 : decode prog_21_method_2_code 2 = .ok (.if_icmp .lt 13, 3) := by decide +kernel
theorem d2_5 : decode prog_21_method_2_code 5 = .ok (.iload_n 0, 1) := by decide +kernel
theorem d2_6 : decode prog_21_method_2_code 6 = .ok (.bipush 120, 2) := by decide +kernel
theorem d2_8 : decode prog_21_method_2_code 8 = .ok (.if_icmp .gt 7, 3) := by decide +kernel
theorem d2_11 : decode prog_21_method_2_code 11 = .ok (.iconst 1, 1) := by decide +kernel
theorem d2_12 : decode prog_21_method_2_code 12 = .ok (.goto 4, 3) := by decide +kernel
theorem d2_15 : decode prog_21_method_2_code 15 = .ok (.iconst 0, 1) := by decide +kernel
theorem d2_16 : decode prog_21_method_2_code 16 = .ok (.ireturn, 1) := by decide +kernel
theorem ef_2 (m : MethodId) (x0 : Int32) : entryFrame m #[(.int x0)] 1 = mkF m 0 #[.val (.int x0)] [] := by first | (simp [entryFrame, mkF, argsToLocals, Value.category]; done) | rfl
def f2 (p0 : Int32) : Int32 := (if p0 < (1 : Int32) then (0 : Int32) else (if (120 : Int32) < p0 then (0 : Int32) else (1 : Int32)))
def Q2 (Z : State) (p0 : Int32) (h0 : Heap) (n0 : Nat) (v : Option Value) (h : Heap) (L : List Loc) : Prop := v = some (.int (f2 p0)) ∧ Fr n0 L ∧ h = h0
set_option maxRecDepth 65536 in
set_option maxHeartbeats 40000000 in
theorem rm2 (l : Launch) (Z : State) (a0 : Array Value) (hw : ∀ d ∈ tables_1, d.before a0 Z = true) (ws : List Jvm.Cond) (p0 : Int32) (h0 : Heap) (n0 : Nat) (Z0 : n0 ≤ h0.size)  :
    MetFree l (⟨"com/example/vestline/vestline/core/InstallmentCount", "admits", "(I)Z"⟩ : MethodName) (head1 (Jvm.Cond.code (⟨"com/example/vestline/vestline/core/InstallmentCount", "admits", "(I)Z"⟩ : MethodName) prog_21_method_2_code 1 (some .boolean) :: ws) ({ frames := 0, cells := 0, slots := 0, locals := 0 } : Room)) (fun a U => a = #[(.int p0)] ∧ Z.Warmed39 U.vm ∧ U.heap = h0) (fun _ _ _ _ _ => True) (fun _ U o U' => ∃ v L, o = .returned v ∧ Q2 Z p0 h0 n0 v U'.heap L ∧ FrameEnd U o U' L ({ frames := 0, cells := 0, slots := 0, locals := 0 } : Room).cells ({ frames := 0, cells := 0, slots := 0, locals := 0 } : Room).slots) := by
  refine MetFree.of_bodySF (plainFor_of_name pn_0) hisR ?_
  intro p e s m args below meth c s₁ Bd hml0 hP hK
  obtain ⟨rfl, hZ, hh⟩ := hP
  have hx := Bd.exec
  have hby := Bd.bytes
  have hml : c.maxLocals = 1 := hml0
  have hown : s.vm.findClass "com/example/vestline/vestline/core/InstallmentCount" = some m.cls := findClass_of_methodNamed Bd.named
  have hnm := (name_of_methodNamed Bd.named Bd.method).1
  have X0 : Stand p l e ({ frames := 0, cells := 0, slots := 0, locals := 0 } : Room) s m #[(.int p0)] below meth c s₁ [] 0 0 := Stand.of_body Bd
  have e0 : s₁.heap = h0 := by rw [← hh, Bd.state]; rfl
  have N0 := Fr.nil n0
  have K0 := Keep.refl h0 []
  have pre0 : ∀ t, Steps p.tables e below (s₁.setTop (mkF m 0 #[.val (.int p0)] [])) t → Steps p.tables e below (s₁.setTop (entryFrame m #[(.int p0)] 1)) t := fun t k => castTop (ef_2 m p0) k
  have pre1 : ∀ t, Steps p.tables e below (s₁.setTop (mkF m 2 #[.val (.int p0)] [(.int (1 : Int32)), (.int p0)])) t → Steps p.tables e below (s₁.setTop (entryFrame m #[(.int p0)] 1)) t := fun t kt => pre0 t (by
    show Steps p.tables e below (s₁.setTop (mkF m 0 #[.val (.int p0)] [])) _
    refine XS.iloadN X0.here hx rfl (hb hby d2_0) rfl ?_
    show Steps p.tables e below (s₁.setTop (mkF m 1 #[.val (.int p0)] [(.int p0)])) _
    refine XS.iconst X0.here hx rfl (hb hby d2_1) ?_
    exact kt)
  by_cases hc2 : p0 < (1 : Int32)
  · obtain ⟨fs, hr, hrun, hended, hW, hsame⟩ := X0.leave (v := some (.int (0 : Int32))) (fun h => by rw [Bd.returns] at h; cases h)
    refine ⟨_, _, pre1 _ ?_, hrun, hended, _, _, rfl, ?_, ⟨_, rfl⟩, hW, hsame.mono (by decide) (by decide)⟩
    · show Steps p.tables e below (s₁.setTop (mkF m 2 #[.val (.int p0)] [(.int (1 : Int32)), (.int p0)])) _
      refine XS.icmpYes X0.here hx rfl (pc0 := 2) (pc' := 15) rfl (hb hby d2_2) rfl (tlt hc2).1 (by decide) (by decide) ?_
      show Steps p.tables e below (s₁.setTop (mkF m 15 #[.val (.int p0)] [])) _
      refine XS.iconst X0.here hx rfl (hb hby d2_15) ?_
      show Steps p.tables e below (s₁.setTop (mkF m 16 #[.val (.int p0)] [(.int (0 : Int32))])) _
      exact retN X0 hx (t := .boolean) Bd.returns (by simp) (hb hby d2_16) hr
    · show Q2 Z p0 h0 n0 _ s₁.heap _
      rw [e0]
      exact ⟨by rw [show f2 p0 = (0 : Int32) from by unfold f2; rw [if_pos hc2]], N0, rfl⟩
  · have pre3 : ∀ t, Steps p.tables e below (s₁.setTop (mkF m 8 #[.val (.int p0)] [(.int (120 : Int32)), (.int p0)])) t → Steps p.tables e below (s₁.setTop (entryFrame m #[(.int p0)] 1)) t := fun t kt => pre1 t (by
      show Steps p.tables e below (s₁.setTop (mkF m 2 #[.val (.int p0)] [(.int (1 : Int32)), (.int p0)])) _
      refine XS.icmpNo X0.here hx rfl (hb hby d2_2) rfl (flt hc2).1 ?_
      show Steps p.tables e below (s₁.setTop (mkF m 5 #[.val (.int p0)] [])) _
      refine XS.iloadN X0.here hx rfl (hb hby d2_5) rfl ?_
      show Steps p.tables e below (s₁.setTop (mkF m 6 #[.val (.int p0)] [(.int p0)])) _
      refine XS.bipush X0.here hx rfl (hb hby d2_6) ?_
      exact kt)
    by_cases hc4 : (120 : Int32) < p0
    · obtain ⟨fs, hr, hrun, hended, hW, hsame⟩ := X0.leave (v := some (.int (0 : Int32))) (fun h => by rw [Bd.returns] at h; cases h)
      refine ⟨_, _, pre3 _ ?_, hrun, hended, _, _, rfl, ?_, ⟨_, rfl⟩, hW, hsame.mono (by decide) (by decide)⟩
      · show Steps p.tables e below (s₁.setTop (mkF m 8 #[.val (.int p0)] [(.int (120 : Int32)), (.int p0)])) _
        refine XS.icmpYes X0.here hx rfl (pc0 := 8) (pc' := 15) rfl (hb hby d2_8) rfl (tlt hc4).2.2.1 (by decide) (by decide) ?_
        show Steps p.tables e below (s₁.setTop (mkF m 15 #[.val (.int p0)] [])) _
        refine XS.iconst X0.here hx rfl (hb hby d2_15) ?_
        show Steps p.tables e below (s₁.setTop (mkF m 16 #[.val (.int p0)] [(.int (0 : Int32))])) _
        exact retN X0 hx (t := .boolean) Bd.returns (by simp) (hb hby d2_16) hr
      · show Q2 Z p0 h0 n0 _ s₁.heap _
        rw [e0]
        exact ⟨by rw [show f2 p0 = (0 : Int32) from by unfold f2; rw [if_neg hc2, if_pos hc4]], N0, rfl⟩
    · obtain ⟨fs, hr, hrun, hended, hW, hsame⟩ := X0.leave (v := some (.int (1 : Int32))) (fun h => by rw [Bd.returns] at h; cases h)
      refine ⟨_, _, pre3 _ ?_, hrun, hended, _, _, rfl, ?_, ⟨_, rfl⟩, hW, hsame.mono (by decide) (by decide)⟩
      · show Steps p.tables e below (s₁.setTop (mkF m 8 #[.val (.int p0)] [(.int (120 : Int32)), (.int p0)])) _
        refine XS.icmpNo X0.here hx rfl (hb hby d2_8) rfl (flt hc4).2.2.1 ?_
        show Steps p.tables e below (s₁.setTop (mkF m 11 #[.val (.int p0)] [])) _
        refine XS.iconst X0.here hx rfl (hb hby d2_11) ?_
        show Steps p.tables e below (s₁.setTop (mkF m 12 #[.val (.int p0)] [(.int (1 : Int32))])) _
        refine XS.goto X0.here hx rfl (pc0 := 12) (pc' := 16) rfl (hb hby d2_12) (by decide) (by decide) ?_
        show Steps p.tables e below (s₁.setTop (mkF m 16 #[.val (.int p0)] [(.int (1 : Int32))])) _
        exact retN X0 hx (t := .boolean) Bd.returns (by simp) (hb hby d2_16) hr
      · show Q2 Z p0 h0 n0 _ s₁.heap _
        rw [e0]
        exact ⟨by rw [show f2 p0 = (1 : Int32) from by unfold f2; rw [if_neg hc2, if_neg hc4]], N0, rfl⟩
theorem pd_0 : parseMethodDescriptor "(J)J" = some ⟨[.long], some .long⟩ := by decide +kernel
theorem pd_1 : parseMethodDescriptor "(I)Z" = some ⟨[.int], some .boolean⟩ := by decide +kernel
theorem pn_1 : plainName "com/example/vestline/vestline/core/InstallmentCountAdmitsPinLaw" = true := by first | (simp [plainName, overriddenIn]; done) | decide +kernel
theorem ef_0 (m : MethodId) (x0 : Int32) : entryFrame m #[(.int x0)] maxLocals = mkF m 0 #[.val (.int x0), .unset, .unset, .unset, .unset] [] := by first | (simp [entryFrame, mkF, argsToLocals, Value.category, maxLocals]; done) | rfl
def f0_e1 (p0 : Int32) : Int32 := (lcmpW (f1 (((2 : Int64) * (p0.toInt64)) - (121 : Int64))) (119 : Int64))
def f0_s0_27001 (p0 : Int32) : Int32 := (if (0 : Int32) < (f0_e1 p0) then (0 : Int32) else (1 : Int32))
def f0_s0_63002  : Int32 := (if (f2 (121 : Int32)) = (0 : Int32) then (1 : Int32) else (0 : Int32))
def f0_s0_63003  : Int32 := (if (f2 (1 : Int32)) = (0 : Int32) then (0 : Int32) else (if (f2 (120 : Int32)) = (0 : Int32) then (0 : Int32) else (if (f2 (0 : Int32)) = (0 : Int32) then f0_s0_63002 else (0 : Int32))))
def f0 (p0 : Int32) : Int32 := (if f0_s0_63003 = (0 : Int32) then (0 : Int32) else (if (f2 p0) = (f0_s0_27001 p0) then (1 : Int32) else (0 : Int32)))
def Q0 (Z : State) (p0 : Int32) (h0 : Heap) (n0 : Nat) (v : Option Value) (h : Heap) (L : List Loc) : Prop := v = some (.int (f0 p0)) ∧ Fr n0 L
set_option maxRecDepth 65536 in
set_option maxHeartbeats 40000000 in
theorem rm0 (l : Launch) (Z : State) (a0 : Array Value) (hw : ∀ d ∈ tables_1, d.before a0 Z = true) (ws : List Jvm.Cond) (p0 : Int32) (h0 : Heap) (n0 : Nat) (Z0 : n0 ≤ h0.size)  :
    MetFree l x (head1 (Jvm.Cond.code x code maxLocals ret :: ws) room_1) (fun a U => a = #[(.int p0)] ∧ Z.Warmed39 U.vm ∧ U.heap = h0) (fun _ _ _ _ _ => True) (fun _ U o U' => ∃ v L, o = .returned v ∧ Q0 Z p0 h0 n0 v U'.heap L ∧ FrameEnd U o U' L room_1.cells room_1.slots) := by
  refine MetFree.of_bodySF (plainFor_of_name pn_1) hisR ?_
  intro p e s m args below meth c s₁ Bd hml0 hP hK
  obtain ⟨rfl, hZ, hh⟩ := hP
  have hx := Bd.exec
  have hby := Bd.bytes
  have hml : c.maxLocals = 5 := hml0
  have hown : s.vm.findClass "com/example/vestline/vestline/core/InstallmentCountAdmitsPinLaw" = some m.cls := findClass_of_methodNamed Bd.named
  have hnm := (name_of_methodNamed Bd.named Bd.method).1
  have X0 : Stand p l e room_1 s m #[(.int p0)] below meth c s₁ [] 0 0 := Stand.of_body Bd
  have e0 : s₁.heap = h0 := by rw [← hh, Bd.state]; rfl
  have N0 := Fr.nil n0
  have K0 := Keep.refl h0 []
  have pre0 : ∀ t, Steps p.tables e below (s₁.setTop (mkF m 0 #[.val (.int p0), .unset, .unset, .unset, .unset] [])) t → Steps p.tables e below (s₁.setTop (entryFrame m #[(.int p0)] maxLocals)) t := fun t k => castTop (ef_0 m p0) k
  obtain ⟨_, _, ⟨T1, L1, k1, n1⟩, -, X1, ⟨Lc1, hQ1, l1, y1, z1⟩, st1⟩ := Jvm.LawKit.callS X0 hx (y := (⟨"java/lang/Math", "abs", "(J)J"⟩ : MethodName)) hown (mvT hZ (hw _ (List.mem_of_getElem? (i := 2) rfl))) (mvT hZ (hw _ (List.mem_of_getElem? (i := 3) rfl))) (mvT hZ (hw _ (List.mem_of_getElem? (i := 4) rfl))) (mvT hZ (hw _ (List.mem_of_getElem? (i := 5) rfl))) (by decide) (backOf (W := 0) (rm1 l Z a0 hw [] (((2 : Int64) * (p0.toInt64)) - (121 : Int64)) h0 n0 Z0) hZ (hw _ (List.mem_of_getElem? (i := 5) rfl)) (hw _ (List.mem_of_getElem? (i := 4) rfl)) (by decide) (by decide)) (g := (mkF m 10 #[.val (.int p0), .unset, .unset, .unset, .unset] [(.long (((2 : Int64) * (p0.toInt64)) - (121 : Int64)))])) rfl (by rw [hml]; rfl) (argsL := [(.long (((2 : Int64) * (p0.toInt64)) - (121 : Int64)))]) (rest := []) (lenOf pd_0 rfl) rfl (by show 2 * 0 + _ ≤ _; exact Nat.le_of_eq rfl) (hb hby at_10) (fun _ _ => ⟨rfl, e0, (by decide : 0 + 0 ≤ _), (by decide : 0 + 0 ≤ _)⟩)
  dsimp only [Pt.U, Pt.locs, Pt.cells, Pt.slots] at X1 l1 y1 z1 st1 hQ1
  subst l1 y1 z1
  obtain ⟨rfl, N1q, e1⟩ := hQ1
  have N1 := Fr.app N0 N1q
  have pre2 : ∀ t, Steps p.tables e below (T1.setTop (mkF m 19 #[.val (.int p0), .val (.long (f1 (((2 : Int64) * (p0.toInt64)) - (121 : Int64)))), .second, .unset, .unset] [(.int (f0_e1 p0))])) t → Steps p.tables e below (s₁.setTop (entryFrame m #[(.int p0)] maxLocals)) t := fun t kt => pre0 t (by
    show Steps p.tables e below (s₁.setTop (mkF m 0 #[.val (.int p0), .unset, .unset, .unset, .unset] [])) _
    refine X0.ldc2Long hx hown (mvT hZ (hw _ (List.mem_of_getElem? (i := 0) rfl))) (g := (mkF m 0 #[.val (.int p0), .unset, .unset, .unset, .unset] [])) rfl (hb hby at_0) _ ?_
    show Steps p.tables e below (s₁.setTop (mkF m 3 #[.val (.int p0), .unset, .unset, .unset, .unset] [(.long (2 : Int64))])) _
    refine XS.iloadN X0.here hx rfl (hb hby at_3) rfl ?_
    show Steps p.tables e below (s₁.setTop (mkF m 4 #[.val (.int p0), .unset, .unset, .unset, .unset] [(.int p0), (.long (2 : Int64))])) _
    refine XS.i2l X0.here hx rfl (hb hby at_4) rfl ?_
    show Steps p.tables e below (s₁.setTop (mkF m 5 #[.val (.int p0), .unset, .unset, .unset, .unset] [(.long (p0.toInt64)), (.long (2 : Int64))])) _
    refine XS.lmul X0.here hx rfl (hb hby at_5) rfl ?_
    show Steps p.tables e below (s₁.setTop (mkF m 6 #[.val (.int p0), .unset, .unset, .unset, .unset] [(.long ((2 : Int64) * (p0.toInt64)))])) _
    refine X0.ldc2Long hx hown (mvT hZ (hw _ (List.mem_of_getElem? (i := 1) rfl))) (g := (mkF m 6 #[.val (.int p0), .unset, .unset, .unset, .unset] [(.long ((2 : Int64) * (p0.toInt64)))])) rfl (hb hby at_6) _ ?_
    show Steps p.tables e below (s₁.setTop (mkF m 9 #[.val (.int p0), .unset, .unset, .unset, .unset] [(.long (121 : Int64)), (.long ((2 : Int64) * (p0.toInt64)))])) _
    refine XS.lsub X0.here hx rfl (hb hby at_9) rfl ?_
    show Steps p.tables e below (s₁.setTop (mkF m 10 #[.val (.int p0), .unset, .unset, .unset, .unset] [(.long (((2 : Int64) * (p0.toInt64)) - (121 : Int64)))])) _
    refine st1 _ ?_
    show Steps p.tables e below (T1.setTop (mkF m 13 #[.val (.int p0), .unset, .unset, .unset, .unset] [(.long (f1 (((2 : Int64) * (p0.toInt64)) - (121 : Int64))))])) _
    refine XS.lstoreN X1.here hx rfl (hb hby at_13) rfl (l' := #[.val (.int p0), .val (.long (f1 (((2 : Int64) * (p0.toInt64)) - (121 : Int64)))), .second, .unset, .unset]) rfl ?_
    show Steps p.tables e below (T1.setTop (mkF m 14 #[.val (.int p0), .val (.long (f1 (((2 : Int64) * (p0.toInt64)) - (121 : Int64)))), .second, .unset, .unset] [])) _
    refine XS.lloadN X1.here hx rfl (hb hby at_14) rfl ?_
    show Steps p.tables e below (T1.setTop (mkF m 15 #[.val (.int p0), .val (.long (f1 (((2 : Int64) * (p0.toInt64)) - (121 : Int64)))), .second, .unset, .unset] [(.long (f1 (((2 : Int64) * (p0.toInt64)) - (121 : Int64))))])) _
    refine X1.ldc2Long hx hown (mvT hZ (hw _ (List.mem_of_getElem? (i := 6) rfl))) (g := (mkF m 15 #[.val (.int p0), .val (.long (f1 (((2 : Int64) * (p0.toInt64)) - (121 : Int64)))), .second, .unset, .unset] [(.long (f1 (((2 : Int64) * (p0.toInt64)) - (121 : Int64))))])) rfl (hb hby at_15) _ ?_
    show Steps p.tables e below (T1.setTop (mkF m 18 #[.val (.int p0), .val (.long (f1 (((2 : Int64) * (p0.toInt64)) - (121 : Int64)))), .second, .unset, .unset] [(.long (119 : Int64)), (.long (f1 (((2 : Int64) * (p0.toInt64)) - (121 : Int64))))])) _
    refine XS.lcmp X1.here hx rfl (hb hby at_18) rfl ?_
    exact kt)
  have pre4 : ∀ t, Steps p.tables e below (T1.setTop (mkF m 27 #[.val (.int p0), .val (.long (f1 (((2 : Int64) * (p0.toInt64)) - (121 : Int64)))), .second, .unset, .unset] [(.int (f0_s0_27001 p0))])) t → Steps p.tables e below (s₁.setTop (entryFrame m #[(.int p0)] maxLocals)) t := by
    intro t kt
    by_cases hc3 : (0 : Int32) < (f0_e1 p0)
    · have hj : (f0_s0_27001 p0) = (0 : Int32) := by unfold f0_s0_27001; rw [if_pos hc3]
      rw [hj] at kt
      refine pre2 t ?_
      show Steps p.tables e below (T1.setTop (mkF m 19 #[.val (.int p0), .val (.long (f1 (((2 : Int64) * (p0.toInt64)) - (121 : Int64)))), .second, .unset, .unset] [(.int (f0_e1 p0))])) _
      refine XS.ifYes X1.here hx rfl (pc0 := 19) (pc' := 26) rfl (hb hby at_19) rfl ((if0 _ _).trans (tlt hc3).2.2.1) (by decide) (by decide) ?_
      show Steps p.tables e below (T1.setTop (mkF m 26 #[.val (.int p0), .val (.long (f1 (((2 : Int64) * (p0.toInt64)) - (121 : Int64)))), .second, .unset, .unset] [])) _
      refine XS.iconst X1.here hx rfl (hb hby at_26) ?_
      exact kt
    · have hj : (f0_s0_27001 p0) = (1 : Int32) := by unfold f0_s0_27001; rw [if_neg hc3]
      rw [hj] at kt
      refine pre2 t ?_
      show Steps p.tables e below (T1.setTop (mkF m 19 #[.val (.int p0), .val (.long (f1 (((2 : Int64) * (p0.toInt64)) - (121 : Int64)))), .second, .unset, .unset] [(.int (f0_e1 p0))])) _
      refine XS.ifNo X1.here hx rfl (hb hby at_19) rfl ((if0 _ _).trans (flt hc3).2.2.1) ?_
      show Steps p.tables e below (T1.setTop (mkF m 22 #[.val (.int p0), .val (.long (f1 (((2 : Int64) * (p0.toInt64)) - (121 : Int64)))), .second, .unset, .unset] [])) _
      refine XS.iconst X1.here hx rfl (hb hby at_22) ?_
      show Steps p.tables e below (T1.setTop (mkF m 23 #[.val (.int p0), .val (.long (f1 (((2 : Int64) * (p0.toInt64)) - (121 : Int64)))), .second, .unset, .unset] [(.int (1 : Int32))])) _
      refine XS.goto X1.here hx rfl (pc0 := 23) (pc' := 27) rfl (hb hby at_23) (by decide) (by decide) ?_
      exact kt
  obtain ⟨_, _, ⟨T5, L5, k5, n5⟩, -, X5, ⟨Lc5, hQ5, l5, y5, z5⟩, st5⟩ := Jvm.LawKit.callS X1 hx (y := (⟨"com/example/vestline/vestline/core/InstallmentCount", "admits", "(I)Z"⟩ : MethodName)) hown (mvT hZ (hw _ (List.mem_of_getElem? (i := 7) rfl))) (mvT hZ (hw _ (List.mem_of_getElem? (i := 8) rfl))) (mvT hZ (hw _ (List.mem_of_getElem? (i := 9) rfl))) (mvT hZ (hw _ (List.mem_of_getElem? (i := 10) rfl))) (by decide) (backOf (W := 0) (rm2 l Z a0 hw [] (1 : Int32) h0 n0 Z0) hZ (hw _ (List.mem_of_getElem? (i := 10) rfl)) (hw _ (List.mem_of_getElem? (i := 9) rfl)) (by decide) (by decide)) (g := (mkF m 29 #[.val (.int p0), .val (.long (f1 (((2 : Int64) * (p0.toInt64)) - (121 : Int64)))), .second, .val (.int (f0_s0_27001 p0)), .unset] [(.int (1 : Int32))])) rfl (by rw [hml]; rfl) (argsL := [(.int (1 : Int32))]) (rest := []) (lenOf pd_1 rfl) rfl (by show 2 * 0 + _ ≤ _; exact Nat.le_of_eq rfl) (hb hby at_29) (fun _ _ => ⟨rfl, e1, (by decide : 0 + 0 ≤ _), (by decide : 0 + 0 ≤ _)⟩)
  dsimp only [Pt.U, Pt.locs, Pt.cells, Pt.slots] at X5 l5 y5 z5 st5 hQ5
  subst l5 y5 z5
  obtain ⟨rfl, N5q, e5⟩ := hQ5
  have N5 := Fr.app N1 N5q
  have pre6 : ∀ t, Steps p.tables e below (T5.setTop (mkF m 32 #[.val (.int p0), .val (.long (f1 (((2 : Int64) * (p0.toInt64)) - (121 : Int64)))), .second, .val (.int (f0_s0_27001 p0)), .unset] [(.int (f2 (1 : Int32)))])) t → Steps p.tables e below (s₁.setTop (entryFrame m #[(.int p0)] maxLocals)) t := fun t kt => pre4 t (by
    show Steps p.tables e below (T1.setTop (mkF m 27 #[.val (.int p0), .val (.long (f1 (((2 : Int64) * (p0.toInt64)) - (121 : Int64)))), .second, .unset, .unset] [(.int (f0_s0_27001 p0))])) _
    refine XS.istoreN X1.here hx rfl (hb hby at_27) rfl (l' := #[.val (.int p0), .val (.long (f1 (((2 : Int64) * (p0.toInt64)) - (121 : Int64)))), .second, .val (.int (f0_s0_27001 p0)), .unset]) rfl ?_
    show Steps p.tables e below (T1.setTop (mkF m 28 #[.val (.int p0), .val (.long (f1 (((2 : Int64) * (p0.toInt64)) - (121 : Int64)))), .second, .val (.int (f0_s0_27001 p0)), .unset] [])) _
    refine XS.iconst X1.here hx rfl (hb hby at_28) ?_
    show Steps p.tables e below (T1.setTop (mkF m 29 #[.val (.int p0), .val (.long (f1 (((2 : Int64) * (p0.toInt64)) - (121 : Int64)))), .second, .val (.int (f0_s0_27001 p0)), .unset] [(.int (1 : Int32))])) _
    refine st5 _ ?_
    exact kt)
  obtain ⟨T18, L18, X18, e18, N18, pre18⟩ : ∃ (T' : State) (L' : List Loc), Stand p l e room_1 s m #[(.int p0)] below meth c T' L' 0 0 ∧ T'.heap = h0 ∧ Fr n0 L' ∧ ∀ t, Steps p.tables e below (T'.setTop (mkF m 63 #[.val (.int p0), .val (.long (f1 (((2 : Int64) * (p0.toInt64)) - (121 : Int64)))), .second, .val (.int (f0_s0_27001 p0)), .unset] [(.int f0_s0_63003)])) t → Steps p.tables e below (s₁.setTop (entryFrame m #[(.int p0)] maxLocals)) t := by
    by_cases hc7 : (f2 (1 : Int32)) = (0 : Int32)
    · refine ⟨T5, _, X5, e5, N5, fun t kt => ?_⟩
      have hj : f0_s0_63003 = (0 : Int32) := by unfold f0_s0_63003; rw [if_pos hc7]
      rw [hj] at kt
      refine pre6 t ?_
      show Steps p.tables e below (T5.setTop (mkF m 32 #[.val (.int p0), .val (.long (f1 (((2 : Int64) * (p0.toInt64)) - (121 : Int64)))), .second, .val (.int (f0_s0_27001 p0)), .unset] [(.int (f2 (1 : Int32)))])) _
      refine XS.ifYes X5.here hx rfl (pc0 := 32) (pc' := 62) rfl (hb hby at_32) rfl ((if0 _ _).trans (teq hc7).1) (by decide) (by decide) ?_
      show Steps p.tables e below (T5.setTop (mkF m 62 #[.val (.int p0), .val (.long (f1 (((2 : Int64) * (p0.toInt64)) - (121 : Int64)))), .second, .val (.int (f0_s0_27001 p0)), .unset] [])) _
      refine XS.iconst X5.here hx rfl (hb hby at_62) ?_
      exact kt
    · obtain ⟨_, _, ⟨T8, L8, k8, n8⟩, -, X8, ⟨Lc8, hQ8, l8, y8, z8⟩, st8⟩ := Jvm.LawKit.callS X5 hx (y := (⟨"com/example/vestline/vestline/core/InstallmentCount", "admits", "(I)Z"⟩ : MethodName)) hown (mvT hZ (hw _ (List.mem_of_getElem? (i := 7) rfl))) (mvT hZ (hw _ (List.mem_of_getElem? (i := 8) rfl))) (mvT hZ (hw _ (List.mem_of_getElem? (i := 9) rfl))) (mvT hZ (hw _ (List.mem_of_getElem? (i := 10) rfl))) (by decide) (backOf (W := 0) (rm2 l Z a0 hw [] (120 : Int32) h0 n0 Z0) hZ (hw _ (List.mem_of_getElem? (i := 10) rfl)) (hw _ (List.mem_of_getElem? (i := 9) rfl)) (by decide) (by decide)) (g := (mkF m 37 #[.val (.int p0), .val (.long (f1 (((2 : Int64) * (p0.toInt64)) - (121 : Int64)))), .second, .val (.int (f0_s0_27001 p0)), .unset] [(.int (120 : Int32))])) rfl (by rw [hml]; rfl) (argsL := [(.int (120 : Int32))]) (rest := []) (lenOf pd_1 rfl) rfl (by show 2 * 0 + _ ≤ _; exact Nat.le_of_eq rfl) (hb hby at_37) (fun _ _ => ⟨rfl, e5, (by decide : 0 + 0 ≤ _), (by decide : 0 + 0 ≤ _)⟩)
      dsimp only [Pt.U, Pt.locs, Pt.cells, Pt.slots] at X8 l8 y8 z8 st8 hQ8
      subst l8 y8 z8
      obtain ⟨rfl, N8q, e8⟩ := hQ8
      have N8 := Fr.app N5 N8q
      have pre9 : ∀ t, Steps p.tables e below (T8.setTop (mkF m 40 #[.val (.int p0), .val (.long (f1 (((2 : Int64) * (p0.toInt64)) - (121 : Int64)))), .second, .val (.int (f0_s0_27001 p0)), .unset] [(.int (f2 (120 : Int32)))])) t → Steps p.tables e below (s₁.setTop (entryFrame m #[(.int p0)] maxLocals)) t := fun t kt => pre6 t (by
        show Steps p.tables e below (T5.setTop (mkF m 32 #[.val (.int p0), .val (.long (f1 (((2 : Int64) * (p0.toInt64)) - (121 : Int64)))), .second, .val (.int (f0_s0_27001 p0)), .unset] [(.int (f2 (1 : Int32)))])) _
        refine XS.ifNo X5.here hx rfl (hb hby at_32) rfl ((if0 _ _).trans (feq hc7).1) ?_
        show Steps p.tables e below (T5.setTop (mkF m 35 #[.val (.int p0), .val (.long (f1 (((2 : Int64) * (p0.toInt64)) - (121 : Int64)))), .second, .val (.int (f0_s0_27001 p0)), .unset] [])) _
        refine XS.bipush X5.here hx rfl (hb hby at_35) ?_
        show Steps p.tables e below (T5.setTop (mkF m 37 #[.val (.int p0), .val (.long (f1 (((2 : Int64) * (p0.toInt64)) - (121 : Int64)))), .second, .val (.int (f0_s0_27001 p0)), .unset] [(.int (120 : Int32))])) _
        refine st8 _ ?_
        exact kt)
      by_cases hc10 : (f2 (120 : Int32)) = (0 : Int32)
      · refine ⟨T8, _, X8, e8, N8, fun t kt => ?_⟩
        have hj : f0_s0_63003 = (0 : Int32) := by unfold f0_s0_63003; rw [if_neg hc7, if_pos hc10]
        rw [hj] at kt
        refine pre9 t ?_
        show Steps p.tables e below (T8.setTop (mkF m 40 #[.val (.int p0), .val (.long (f1 (((2 : Int64) * (p0.toInt64)) - (121 : Int64)))), .second, .val (.int (f0_s0_27001 p0)), .unset] [(.int (f2 (120 : Int32)))])) _
        refine XS.ifYes X8.here hx rfl (pc0 := 40) (pc' := 62) rfl (hb hby at_40) rfl ((if0 _ _).trans (teq hc10).1) (by decide) (by decide) ?_
        show Steps p.tables e below (T8.setTop (mkF m 62 #[.val (.int p0), .val (.long (f1 (((2 : Int64) * (p0.toInt64)) - (121 : Int64)))), .second, .val (.int (f0_s0_27001 p0)), .unset] [])) _
        refine XS.iconst X8.here hx rfl (hb hby at_62) ?_
        exact kt
      · obtain ⟨_, _, ⟨T11, L11, k11, n11⟩, -, X11, ⟨Lc11, hQ11, l11, y11, z11⟩, st11⟩ := Jvm.LawKit.callS X8 hx (y := (⟨"com/example/vestline/vestline/core/InstallmentCount", "admits", "(I)Z"⟩ : MethodName)) hown (mvT hZ (hw _ (List.mem_of_getElem? (i := 7) rfl))) (mvT hZ (hw _ (List.mem_of_getElem? (i := 8) rfl))) (mvT hZ (hw _ (List.mem_of_getElem? (i := 9) rfl))) (mvT hZ (hw _ (List.mem_of_getElem? (i := 10) rfl))) (by decide) (backOf (W := 0) (rm2 l Z a0 hw [] (0 : Int32) h0 n0 Z0) hZ (hw _ (List.mem_of_getElem? (i := 10) rfl)) (hw _ (List.mem_of_getElem? (i := 9) rfl)) (by decide) (by decide)) (g := (mkF m 44 #[.val (.int p0), .val (.long (f1 (((2 : Int64) * (p0.toInt64)) - (121 : Int64)))), .second, .val (.int (f0_s0_27001 p0)), .unset] [(.int (0 : Int32))])) rfl (by rw [hml]; rfl) (argsL := [(.int (0 : Int32))]) (rest := []) (lenOf pd_1 rfl) rfl (by show 2 * 0 + _ ≤ _; exact Nat.le_of_eq rfl) (hb hby at_44) (fun _ _ => ⟨rfl, e8, (by decide : 0 + 0 ≤ _), (by decide : 0 + 0 ≤ _)⟩)
        dsimp only [Pt.U, Pt.locs, Pt.cells, Pt.slots] at X11 l11 y11 z11 st11 hQ11
        subst l11 y11 z11
        obtain ⟨rfl, N11q, e11⟩ := hQ11
        have N11 := Fr.app N8 N11q
        have pre12 : ∀ t, Steps p.tables e below (T11.setTop (mkF m 47 #[.val (.int p0), .val (.long (f1 (((2 : Int64) * (p0.toInt64)) - (121 : Int64)))), .second, .val (.int (f0_s0_27001 p0)), .unset] [(.int (f2 (0 : Int32)))])) t → Steps p.tables e below (s₁.setTop (entryFrame m #[(.int p0)] maxLocals)) t := fun t kt => pre9 t (by
          show Steps p.tables e below (T8.setTop (mkF m 40 #[.val (.int p0), .val (.long (f1 (((2 : Int64) * (p0.toInt64)) - (121 : Int64)))), .second, .val (.int (f0_s0_27001 p0)), .unset] [(.int (f2 (120 : Int32)))])) _
          refine XS.ifNo X8.here hx rfl (hb hby at_40) rfl ((if0 _ _).trans (feq hc10).1) ?_
          show Steps p.tables e below (T8.setTop (mkF m 43 #[.val (.int p0), .val (.long (f1 (((2 : Int64) * (p0.toInt64)) - (121 : Int64)))), .second, .val (.int (f0_s0_27001 p0)), .unset] [])) _
          refine XS.iconst X8.here hx rfl (hb hby at_43) ?_
          show Steps p.tables e below (T8.setTop (mkF m 44 #[.val (.int p0), .val (.long (f1 (((2 : Int64) * (p0.toInt64)) - (121 : Int64)))), .second, .val (.int (f0_s0_27001 p0)), .unset] [(.int (0 : Int32))])) _
          refine st11 _ ?_
          exact kt)
        by_cases hc13 : (f2 (0 : Int32)) = (0 : Int32)
        · obtain ⟨_, _, ⟨T14, L14, k14, n14⟩, -, X14, ⟨Lc14, hQ14, l14, y14, z14⟩, st14⟩ := Jvm.LawKit.callS X11 hx (y := (⟨"com/example/vestline/vestline/core/InstallmentCount", "admits", "(I)Z"⟩ : MethodName)) hown (mvT hZ (hw _ (List.mem_of_getElem? (i := 7) rfl))) (mvT hZ (hw _ (List.mem_of_getElem? (i := 8) rfl))) (mvT hZ (hw _ (List.mem_of_getElem? (i := 9) rfl))) (mvT hZ (hw _ (List.mem_of_getElem? (i := 10) rfl))) (by decide) (backOf (W := 0) (rm2 l Z a0 hw [] (121 : Int32) h0 n0 Z0) hZ (hw _ (List.mem_of_getElem? (i := 10) rfl)) (hw _ (List.mem_of_getElem? (i := 9) rfl)) (by decide) (by decide)) (g := (mkF m 52 #[.val (.int p0), .val (.long (f1 (((2 : Int64) * (p0.toInt64)) - (121 : Int64)))), .second, .val (.int (f0_s0_27001 p0)), .unset] [(.int (121 : Int32))])) rfl (by rw [hml]; rfl) (argsL := [(.int (121 : Int32))]) (rest := []) (lenOf pd_1 rfl) rfl (by show 2 * 0 + _ ≤ _; exact Nat.le_of_eq rfl) (hb hby at_52) (fun _ _ => ⟨rfl, e11, (by decide : 0 + 0 ≤ _), (by decide : 0 + 0 ≤ _)⟩)
          dsimp only [Pt.U, Pt.locs, Pt.cells, Pt.slots] at X14 l14 y14 z14 st14 hQ14
          subst l14 y14 z14
          obtain ⟨rfl, N14q, e14⟩ := hQ14
          have N14 := Fr.app N11 N14q
          have pre15 : ∀ t, Steps p.tables e below (T14.setTop (mkF m 55 #[.val (.int p0), .val (.long (f1 (((2 : Int64) * (p0.toInt64)) - (121 : Int64)))), .second, .val (.int (f0_s0_27001 p0)), .unset] [(.int (f2 (121 : Int32)))])) t → Steps p.tables e below (s₁.setTop (entryFrame m #[(.int p0)] maxLocals)) t := fun t kt => pre12 t (by
            show Steps p.tables e below (T11.setTop (mkF m 47 #[.val (.int p0), .val (.long (f1 (((2 : Int64) * (p0.toInt64)) - (121 : Int64)))), .second, .val (.int (f0_s0_27001 p0)), .unset] [(.int (f2 (0 : Int32)))])) _
            refine XS.ifNo X11.here hx rfl (hb hby at_47) rfl ((if0 _ _).trans (teq hc13).2) ?_
            show Steps p.tables e below (T11.setTop (mkF m 50 #[.val (.int p0), .val (.long (f1 (((2 : Int64) * (p0.toInt64)) - (121 : Int64)))), .second, .val (.int (f0_s0_27001 p0)), .unset] [])) _
            refine XS.bipush X11.here hx rfl (hb hby at_50) ?_
            show Steps p.tables e below (T11.setTop (mkF m 52 #[.val (.int p0), .val (.long (f1 (((2 : Int64) * (p0.toInt64)) - (121 : Int64)))), .second, .val (.int (f0_s0_27001 p0)), .unset] [(.int (121 : Int32))])) _
            refine st14 _ ?_
            exact kt)
          have pre17 : ∀ t, Steps p.tables e below (T14.setTop (mkF m 63 #[.val (.int p0), .val (.long (f1 (((2 : Int64) * (p0.toInt64)) - (121 : Int64)))), .second, .val (.int (f0_s0_27001 p0)), .unset] [(.int f0_s0_63002)])) t → Steps p.tables e below (s₁.setTop (entryFrame m #[(.int p0)] maxLocals)) t := by
            intro t kt
            by_cases hc16 : (f2 (121 : Int32)) = (0 : Int32)
            · have hj : f0_s0_63002 = (1 : Int32) := by unfold f0_s0_63002; rw [if_pos hc16]
              rw [hj] at kt
              refine pre15 t ?_
              show Steps p.tables e below (T14.setTop (mkF m 55 #[.val (.int p0), .val (.long (f1 (((2 : Int64) * (p0.toInt64)) - (121 : Int64)))), .second, .val (.int (f0_s0_27001 p0)), .unset] [(.int (f2 (121 : Int32)))])) _
              refine XS.ifNo X14.here hx rfl (hb hby at_55) rfl ((if0 _ _).trans (teq hc16).2) ?_
              show Steps p.tables e below (T14.setTop (mkF m 58 #[.val (.int p0), .val (.long (f1 (((2 : Int64) * (p0.toInt64)) - (121 : Int64)))), .second, .val (.int (f0_s0_27001 p0)), .unset] [])) _
              refine XS.iconst X14.here hx rfl (hb hby at_58) ?_
              show Steps p.tables e below (T14.setTop (mkF m 59 #[.val (.int p0), .val (.long (f1 (((2 : Int64) * (p0.toInt64)) - (121 : Int64)))), .second, .val (.int (f0_s0_27001 p0)), .unset] [(.int (1 : Int32))])) _
              refine XS.goto X14.here hx rfl (pc0 := 59) (pc' := 63) rfl (hb hby at_59) (by decide) (by decide) ?_
              exact kt
            · have hj : f0_s0_63002 = (0 : Int32) := by unfold f0_s0_63002; rw [if_neg hc16]
              rw [hj] at kt
              refine pre15 t ?_
              show Steps p.tables e below (T14.setTop (mkF m 55 #[.val (.int p0), .val (.long (f1 (((2 : Int64) * (p0.toInt64)) - (121 : Int64)))), .second, .val (.int (f0_s0_27001 p0)), .unset] [(.int (f2 (121 : Int32)))])) _
              refine XS.ifYes X14.here hx rfl (pc0 := 55) (pc' := 62) rfl (hb hby at_55) rfl ((if0 _ _).trans (feq hc16).2) (by decide) (by decide) ?_
              show Steps p.tables e below (T14.setTop (mkF m 62 #[.val (.int p0), .val (.long (f1 (((2 : Int64) * (p0.toInt64)) - (121 : Int64)))), .second, .val (.int (f0_s0_27001 p0)), .unset] [])) _
              refine XS.iconst X14.here hx rfl (hb hby at_62) ?_
              exact kt
          refine ⟨T14, _, X14, e14, N14, fun t kt => ?_⟩
          have hj : f0_s0_63003 = f0_s0_63002 := by unfold f0_s0_63003; rw [if_neg hc7, if_neg hc10, if_pos hc13]
          rw [hj] at kt
          refine pre17 t ?_
          exact kt
        · refine ⟨T11, _, X11, e11, N11, fun t kt => ?_⟩
          have hj : f0_s0_63003 = (0 : Int32) := by unfold f0_s0_63003; rw [if_neg hc7, if_neg hc10, if_neg hc13]
          rw [hj] at kt
          refine pre12 t ?_
          show Steps p.tables e below (T11.setTop (mkF m 47 #[.val (.int p0), .val (.long (f1 (((2 : Int64) * (p0.toInt64)) - (121 : Int64)))), .second, .val (.int (f0_s0_27001 p0)), .unset] [(.int (f2 (0 : Int32)))])) _
          refine XS.ifYes X11.here hx rfl (pc0 := 47) (pc' := 62) rfl (hb hby at_47) rfl ((if0 _ _).trans (feq hc13).2) (by decide) (by decide) ?_
          show Steps p.tables e below (T11.setTop (mkF m 62 #[.val (.int p0), .val (.long (f1 (((2 : Int64) * (p0.toInt64)) - (121 : Int64)))), .second, .val (.int (f0_s0_27001 p0)), .unset] [])) _
          refine XS.iconst X11.here hx rfl (hb hby at_62) ?_
          exact kt
  have pre19 : ∀ t, Steps p.tables e below (T18.setTop (mkF m 67 #[.val (.int p0), .val (.long (f1 (((2 : Int64) * (p0.toInt64)) - (121 : Int64)))), .second, .val (.int (f0_s0_27001 p0)), .val (.int f0_s0_63003)] [(.int f0_s0_63003)])) t → Steps p.tables e below (s₁.setTop (entryFrame m #[(.int p0)] maxLocals)) t := fun t kt => pre18 t (by
    show Steps p.tables e below (T18.setTop (mkF m 63 #[.val (.int p0), .val (.long (f1 (((2 : Int64) * (p0.toInt64)) - (121 : Int64)))), .second, .val (.int (f0_s0_27001 p0)), .unset] [(.int f0_s0_63003)])) _
    refine XS.istore X18.here hx rfl (hb hby at_63) rfl (l' := #[.val (.int p0), .val (.long (f1 (((2 : Int64) * (p0.toInt64)) - (121 : Int64)))), .second, .val (.int (f0_s0_27001 p0)), .val (.int f0_s0_63003)]) rfl ?_
    show Steps p.tables e below (T18.setTop (mkF m 65 #[.val (.int p0), .val (.long (f1 (((2 : Int64) * (p0.toInt64)) - (121 : Int64)))), .second, .val (.int (f0_s0_27001 p0)), .val (.int f0_s0_63003)] [])) _
    refine XS.iload X18.here hx rfl (hb hby at_65) rfl ?_
    exact kt)
  by_cases hc20 : f0_s0_63003 = (0 : Int32)
  · obtain ⟨fs, hr, hrun, hended, hW, hsame⟩ := X18.leave (v := some (.int (0 : Int32))) (fun h => by rw [Bd.returns] at h; cases h)
    refine ⟨_, _, pre19 _ ?_, hrun, hended, _, _, rfl, ?_, ⟨_, rfl⟩, hW, hsame.mono (by decide) (by decide)⟩
    · show Steps p.tables e below (T18.setTop (mkF m 67 #[.val (.int p0), .val (.long (f1 (((2 : Int64) * (p0.toInt64)) - (121 : Int64)))), .second, .val (.int (f0_s0_27001 p0)), .val (.int f0_s0_63003)] [(.int f0_s0_63003)])) _
      refine XS.ifYes X18.here hx rfl (pc0 := 67) (pc' := 82) rfl (hb hby at_67) rfl ((if0 _ _).trans (teq hc20).1) (by decide) (by decide) ?_
      show Steps p.tables e below (T18.setTop (mkF m 82 #[.val (.int p0), .val (.long (f1 (((2 : Int64) * (p0.toInt64)) - (121 : Int64)))), .second, .val (.int (f0_s0_27001 p0)), .val (.int f0_s0_63003)] [])) _
      refine XS.iconst X18.here hx rfl (hb hby at_82) ?_
      show Steps p.tables e below (T18.setTop (mkF m 83 #[.val (.int p0), .val (.long (f1 (((2 : Int64) * (p0.toInt64)) - (121 : Int64)))), .second, .val (.int (f0_s0_27001 p0)), .val (.int f0_s0_63003)] [(.int (0 : Int32))])) _
      exact retN X18 hx (t := .boolean) Bd.returns (by simp) (hb hby at_83) hr
    · show Q0 Z p0 h0 n0 _ T18.heap _
      rw [e18]
      exact ⟨by rw [show f0 p0 = (0 : Int32) from by unfold f0; rw [if_pos hc20]], N18⟩
  · obtain ⟨_, _, ⟨T21, L21, k21, n21⟩, -, X21, ⟨Lc21, hQ21, l21, y21, z21⟩, st21⟩ := Jvm.LawKit.callS X18 hx (y := (⟨"com/example/vestline/vestline/core/InstallmentCount", "admits", "(I)Z"⟩ : MethodName)) hown (mvT hZ (hw _ (List.mem_of_getElem? (i := 7) rfl))) (mvT hZ (hw _ (List.mem_of_getElem? (i := 8) rfl))) (mvT hZ (hw _ (List.mem_of_getElem? (i := 9) rfl))) (mvT hZ (hw _ (List.mem_of_getElem? (i := 10) rfl))) (by decide) (backOf (W := 0) (rm2 l Z a0 hw [] p0 h0 n0 Z0) hZ (hw _ (List.mem_of_getElem? (i := 10) rfl)) (hw _ (List.mem_of_getElem? (i := 9) rfl)) (by decide) (by decide)) (g := (mkF m 71 #[.val (.int p0), .val (.long (f1 (((2 : Int64) * (p0.toInt64)) - (121 : Int64)))), .second, .val (.int (f0_s0_27001 p0)), .val (.int f0_s0_63003)] [(.int p0)])) rfl (by rw [hml]; rfl) (argsL := [(.int p0)]) (rest := []) (lenOf pd_1 rfl) rfl (by show 2 * 0 + _ ≤ _; exact Nat.le_of_eq rfl) (hb hby at_71) (fun _ _ => ⟨rfl, e18, (by decide : 0 + 0 ≤ _), (by decide : 0 + 0 ≤ _)⟩)
    dsimp only [Pt.U, Pt.locs, Pt.cells, Pt.slots] at X21 l21 y21 z21 st21 hQ21
    subst l21 y21 z21
    obtain ⟨rfl, N21q, e21⟩ := hQ21
    have N21 := Fr.app N18 N21q
    have pre22 : ∀ t, Steps p.tables e below (T21.setTop (mkF m 75 #[.val (.int p0), .val (.long (f1 (((2 : Int64) * (p0.toInt64)) - (121 : Int64)))), .second, .val (.int (f0_s0_27001 p0)), .val (.int f0_s0_63003)] [(.int (f0_s0_27001 p0)), (.int (f2 p0))])) t → Steps p.tables e below (s₁.setTop (entryFrame m #[(.int p0)] maxLocals)) t := fun t kt => pre19 t (by
      show Steps p.tables e below (T18.setTop (mkF m 67 #[.val (.int p0), .val (.long (f1 (((2 : Int64) * (p0.toInt64)) - (121 : Int64)))), .second, .val (.int (f0_s0_27001 p0)), .val (.int f0_s0_63003)] [(.int f0_s0_63003)])) _
      refine XS.ifNo X18.here hx rfl (hb hby at_67) rfl ((if0 _ _).trans (feq hc20).1) ?_
      show Steps p.tables e below (T18.setTop (mkF m 70 #[.val (.int p0), .val (.long (f1 (((2 : Int64) * (p0.toInt64)) - (121 : Int64)))), .second, .val (.int (f0_s0_27001 p0)), .val (.int f0_s0_63003)] [])) _
      refine XS.iloadN X18.here hx rfl (hb hby at_70) rfl ?_
      show Steps p.tables e below (T18.setTop (mkF m 71 #[.val (.int p0), .val (.long (f1 (((2 : Int64) * (p0.toInt64)) - (121 : Int64)))), .second, .val (.int (f0_s0_27001 p0)), .val (.int f0_s0_63003)] [(.int p0)])) _
      refine st21 _ ?_
      show Steps p.tables e below (T21.setTop (mkF m 74 #[.val (.int p0), .val (.long (f1 (((2 : Int64) * (p0.toInt64)) - (121 : Int64)))), .second, .val (.int (f0_s0_27001 p0)), .val (.int f0_s0_63003)] [(.int (f2 p0))])) _
      refine XS.iloadN X21.here hx rfl (hb hby at_74) rfl ?_
      exact kt)
    by_cases hc23 : (f2 p0) = (f0_s0_27001 p0)
    · obtain ⟨fs, hr, hrun, hended, hW, hsame⟩ := X21.leave (v := some (.int (1 : Int32))) (fun h => by rw [Bd.returns] at h; cases h)
      refine ⟨_, _, pre22 _ ?_, hrun, hended, _, _, rfl, ?_, ⟨_, rfl⟩, hW, hsame.mono (by decide) (by decide)⟩
      · show Steps p.tables e below (T21.setTop (mkF m 75 #[.val (.int p0), .val (.long (f1 (((2 : Int64) * (p0.toInt64)) - (121 : Int64)))), .second, .val (.int (f0_s0_27001 p0)), .val (.int f0_s0_63003)] [(.int (f0_s0_27001 p0)), (.int (f2 p0))])) _
        refine XS.icmpNo X21.here hx rfl (hb hby at_75) rfl (teq hc23).2 ?_
        show Steps p.tables e below (T21.setTop (mkF m 78 #[.val (.int p0), .val (.long (f1 (((2 : Int64) * (p0.toInt64)) - (121 : Int64)))), .second, .val (.int (f0_s0_27001 p0)), .val (.int f0_s0_63003)] [])) _
        refine XS.iconst X21.here hx rfl (hb hby at_78) ?_
        show Steps p.tables e below (T21.setTop (mkF m 79 #[.val (.int p0), .val (.long (f1 (((2 : Int64) * (p0.toInt64)) - (121 : Int64)))), .second, .val (.int (f0_s0_27001 p0)), .val (.int f0_s0_63003)] [(.int (1 : Int32))])) _
        refine XS.goto X21.here hx rfl (pc0 := 79) (pc' := 83) rfl (hb hby at_79) (by decide) (by decide) ?_
        show Steps p.tables e below (T21.setTop (mkF m 83 #[.val (.int p0), .val (.long (f1 (((2 : Int64) * (p0.toInt64)) - (121 : Int64)))), .second, .val (.int (f0_s0_27001 p0)), .val (.int f0_s0_63003)] [(.int (1 : Int32))])) _
        exact retN X21 hx (t := .boolean) Bd.returns (by simp) (hb hby at_83) hr
      · show Q0 Z p0 h0 n0 _ T21.heap _
        rw [e21]
        exact ⟨by rw [show f0 p0 = (1 : Int32) from by unfold f0; rw [if_neg hc20, if_pos hc23]], N21⟩
    · obtain ⟨fs, hr, hrun, hended, hW, hsame⟩ := X21.leave (v := some (.int (0 : Int32))) (fun h => by rw [Bd.returns] at h; cases h)
      refine ⟨_, _, pre22 _ ?_, hrun, hended, _, _, rfl, ?_, ⟨_, rfl⟩, hW, hsame.mono (by decide) (by decide)⟩
      · show Steps p.tables e below (T21.setTop (mkF m 75 #[.val (.int p0), .val (.long (f1 (((2 : Int64) * (p0.toInt64)) - (121 : Int64)))), .second, .val (.int (f0_s0_27001 p0)), .val (.int f0_s0_63003)] [(.int (f0_s0_27001 p0)), (.int (f2 p0))])) _
        refine XS.icmpYes X21.here hx rfl (pc0 := 75) (pc' := 82) rfl (hb hby at_75) rfl (feq hc23).2 (by decide) (by decide) ?_
        show Steps p.tables e below (T21.setTop (mkF m 82 #[.val (.int p0), .val (.long (f1 (((2 : Int64) * (p0.toInt64)) - (121 : Int64)))), .second, .val (.int (f0_s0_27001 p0)), .val (.int f0_s0_63003)] [])) _
        refine XS.iconst X21.here hx rfl (hb hby at_82) ?_
        show Steps p.tables e below (T21.setTop (mkF m 83 #[.val (.int p0), .val (.long (f1 (((2 : Int64) * (p0.toInt64)) - (121 : Int64)))), .second, .val (.int (f0_s0_27001 p0)), .val (.int f0_s0_63003)] [(.int (0 : Int32))])) _
        exact retN X21 hx (t := .boolean) Bd.returns (by simp) (hb hby at_83) hr
      · show Q0 Z p0 h0 n0 _ T21.heap _
        rw [e21]
        exact ⟨by rw [show f0 p0 = (0 : Int32) from by unfold f0; rw [if_neg hc20, if_neg hc23]], N21⟩
theorem own_edges : f0_s0_63003 = 1 := by decide +kernel
theorem own_law (p0 : Int32) : f0 p0 = 1 := by
  unfold f0
  rw [own_edges, if_neg (by decide), if_pos]
  unfold f0_s0_27001 f0_e1 f1 f2
  simp only [lw_lt, lw_eq, lw_gt]
  have e1 : (1 : Int32).toInt = 1 := rfl
  have e120 : (120 : Int32).toInt = 120 := rfl
  have l0 : (0 : Int64).toInt = 0 := rfl
  have l2 : (2 : Int64).toInt = 2 := rfl
  have l119 : (119 : Int64).toInt = 119 := rfl
  have l121 : (121 : Int64).toInt = 121 := rfl
  have r := rng32 p0
  have c := c_i2l p0
  have m1 := c_lmul 2 p0.toInt64
  have r1 := rng64 (2 * p0.toInt64)
  have m2 := c_lsub (2 * p0.toInt64) 121
  have r2 := rng64 (2 * p0.toInt64 - 121)
  have m3 := c_lneg (2 * p0.toInt64 - 121)
  have r3 := rng64 (-(2 * p0.toInt64 - 121))
  simp only [Int32.lt_iff_toInt_lt, Int64.lt_iff_toInt_lt]
  rw [l2, c] at m1
  have v1 : (2 * p0.toInt64).toInt = 2 * p0.toInt := by omega
  have v2 : (2 * p0.toInt64 - 121).toInt = 2 * p0.toInt - 121 := by omega
  have v3 : (-(2 * p0.toInt64 - 121)).toInt = -(2 * p0.toInt - 121) := by omega
  by_cases a : (2 * p0.toInt64 - 121).toInt < (0 : Int64).toInt
  · rw [if_pos a]
    by_cases b : p0.toInt < (1 : Int32).toInt
    · rw [if_pos b, if_pos (by omega)]
    · rw [if_neg b, if_neg (by omega), if_neg (by omega)]
  · rw [if_neg a]
    by_cases b : (120 : Int32).toInt < p0.toInt
    · rw [if_neg (by omega), if_pos b, if_pos (by omega)]
    · rw [if_neg (by omega), if_neg b, if_neg (by omega)]
set_option maxRecDepth 65536 in
set_option maxHeartbeats 40000000 in
theorem comes_1 {Post : Tables → Env → Array Value → State → Outcome → State → Prop} (hpost : ∀ tb e args s v u, (limb_1_1.after args s (.returned v) u = true ∧ limb_1_2.after args s (.returned v) u = true ∧ True) → FrameEnd s (.returned v) u (Jvm.fieldLocs frame_1_writes args s ++ Jvm.arrayLocs frame_1_arrays args s ++ Jvm.staticLocs frame_1_statics s) 0 0 → Post tb e args s (.returned v) u) :
    ArmFor flags0 classFile x code maxLocals ret World_1 tables_1 room_1 Calls_1 rest_1 Pre_1 Post := by
  intro l hfl _ _ p e ha hc hk s m args below hf hA hF happ hP
  obtain ⟨hcalls, hrest, hpre⟩ := hP
  obtain ⟨-, -, -, hnamed, -, -, -, hat⟩ := (Spec.applies_iff hf).mp happ
  obtain ⟨hg, hn⟩ := and_e (Cond.before_iff.mp (show (Jvm.Cond.and given_1 narrow_1).before args s = true from hpre))
  obtain ⟨g1, g2⟩ := and_e hg
  obtain ⟨w0, rfl⟩ : ∃ w0 : Value, args = #[w0] := by
    have hs : args.size = 1 := by simpa [Cond.value, given_1] using g1
    obtain ⟨L⟩ := args
    match L, hs with
    | [w0], _ => exact ⟨w0, rfl⟩
  have hw := fun d (hd : d ∈ tables_1) => atoms_spec (ws := Jvm.Cond.code x code maxLocals ret :: tables_1) hat d (List.mem_cons_of_mem _ hd)
  have hfit : Fit s := fun {y c} hc i hi => by
    obtain ⟨ha, rfl⟩ := Array.getElem?_eq_some_iff.mp hc
    have q := List.all_eq_true.mp ((Array.all_eq_true_iff_forall_mem.mp hF) _ (Array.getElem_mem ha)) i (List.mem_range.mpr hi)
    simpa [Array.getElem?_eq_getElem hi] using q
  obtain ⟨i0, ei0⟩ := is_v g2
  obtain rfl : w0 = (.int i0) := Option.some.inj ei0
  obtain ⟨n, o, h1, h2, h3, _, L, rfl, ⟨rfl, N⟩, hq⟩ := rm0 l s _ hw tables_1 i0 s.heap s.heap.size (Nat.le_refl _) p e ha hc hk s m _ below hf ((Spec.applies_iff_loose hf).mp happ).1 ⟨rfl, State.Warmed39.refl s, rfl⟩ trivial
  refine ⟨n, _, h1, h2, h3, hpost _ _ _ _ _ _ ⟨Cond.after_iff.mpr rfl, Cond.after_iff.mpr (eq_i res_at (Term.int_eval (1)) (by rw [own_law i0])), trivial⟩ ⟨hq.1, hq.2.1, (hq.2.2.sift fun y hy => Or.inr (N y hy)).mono (by decide) (by decide)⟩⟩
theorem main_1_1 : Claimed_1_1 := comes_1 fun _ _ _ _ _ _ h hF => ⟨h.1, hF⟩
theorem main_1_2 : Claimed_1_2 := comes_1 fun _ _ _ _ _ _ h hF => ⟨h.2.1, hF⟩
end Jvm.Pilot.@@N@@
namespace Jvm.Pilot.@@N@@
open Jvm Jvm.ClassFile Sem Op Lib Jvm.Free Jvm.Stand Jvm.Pilot.@@N@@.Jvm.D
/-! MADE BY PROGRAM (witnessworld.py) out of the Statement's table words and the real class files: 10 classes; the members and pool entries that the words name. The judged class is class 1, her method 1. -/
namespace start1
open Jvm.ClassFile
def u (s : String) : CpInfo := .utf8 (stringToUtf16 s)
/-- a pool by its gaps: so many unusable entries, then the entry; so many at the end -/
def gap : Nat → List CpInfo → List CpInfo
  | 0, r => r
  | n + 1, r => .unusable :: gap n r
def poolList (es : List (Nat × CpInfo)) (last : Nat) : List CpInfo := es.foldr (fun e r => gap e.1 (e.2 :: r)) (gap last [])
def pool (es : List (Nat × CpInfo)) (last : Nat) : Array CpInfo := ⟨poolList es last⟩
def fileOf (pool : Array CpInfo) (this : Nat) (attrs : Array Attribute := #[]) (ms : Array MethodInfo := #[]) (fl : Nat := 33) (sup : Nat := 0) (ifs : Array Nat := #[]) (fds : Array FieldInfo := #[]) : ClassFile where
  minorVersion := 0
  majorVersion := 65
  constantPool := pool
  accessFlags := fl
  thisClass := this
  superClass := sup
  interfaces := ifs
  fields := fds
  methods := ms
  attributes := attrs
def plain (name : String) (sup : Option ClassId) : Class where
  name := name
  kind := .ordinary
  loader := none
  accessFlags := 33
  super := sup
  interfaces := #[]
  cf := none
  fields := #[]
  methods := #[]
  instanceTypes := #[]
  staticTypes := #[]
  resolved := #[]
  callSites := []
  init := .initialized
  statics := none
  mirror := none

def pool0 : Array CpInfo := pool [(5, u "<init>"), (0, u "()V"), (1, .class_ 10), (1, u "java/lang/Object")] 113

def k0m0 : Method := { name := "<init>", desc := "()V", sig := { parameters := [], returnType := none }, accessFlags := 1, code := none }
/-- java/lang/Object -/
def k0 : Class := { plain "java/lang/Object" none with
  accessFlags := 33
  interfaces := #[]
  cf := some (fileOf pool0 8 #[] #[{ accessFlags := 1, nameIndex := 5, descriptorIndex := 6, attributes := #[] }] 33 0 #[] #[])
  fields := #[]
  methods := #[k0m0]
  instanceTypes := #[]
  staticTypes := #[]
  resolved := Array.replicate 124 none
  statics := none }

def pool1 : Array CpInfo := pool [(2, .class_ 4), (1, u "java/lang/Object"), (0, u "<init>"), (0, u "()V"), (0, .long 2), (1, .long 121), (1, .methodref 12 13), (0, .class_ 14), (0, .nameAndType 15 16), (0, u "java/lang/Math"), (0, u "abs"), (0, u "(J)J"), (0, .long 119), (1, .methodref 20 21), (0, .class_ 22), (0, .nameAndType 23 24), (0, u "com/example/vestline/vestline/core/InstallmentCount"), (0, u "admits"), (0, u "(I)Z"), (0, .class_ 26), (0, u "com/example/vestline/vestline/core/InstallmentCountAdmitsPinLaw"), (2, u "law")] 3

def k1m0 : Method := { name := "<init>", desc := "()V", sig := { parameters := [], returnType := none }, accessFlags := 2, code := none }
def k1c1 : Code := { maxStack := 4, maxLocals := 5, code := code, exceptionTable := #[], attributes := #[] }
def k1m1 : Method := { name := "law", desc := "(I)Z", sig := { parameters := [.int], returnType := some .boolean }, accessFlags := 9, code := some k1c1 }
/-- com/example/vestline/vestline/core/InstallmentCountAdmitsPinLaw -/
def k1 : Class := { plain "com/example/vestline/vestline/core/InstallmentCountAdmitsPinLaw" (some 0) with
  accessFlags := 49
  interfaces := #[]
  cf := some (fileOf pool1 25 #[] #[{ accessFlags := 2, nameIndex := 5, descriptorIndex := 6, attributes := #[] }, { accessFlags := 9, nameIndex := 29, descriptorIndex := 24, attributes := #[] }] 49 2 #[] #[])
  fields := #[]
  methods := #[k1m0, k1m1]
  instanceTypes := #[]
  staticTypes := #[]
  resolved := Array.replicate 33 none
  statics := none }

def pool2 : Array CpInfo := pool [(1, .class_ 2), (0, u "java/lang/Math"), (1, .class_ 6), (1, u "java/lang/Object"), (0, u "<init>"), (0, u "()V"), (89, .class_ 100), (1, u "java/lang/Math$RandomNumberGeneratorHolder"), (23, u "abs"), (0, u "(J)J"), (46, u "negativeZeroFloatBits"), (0, u "J"), (2, u "negativeZeroDoubleBits"), (68, u "$assertionsDisabled"), (0, u "Z"), (91, u "twoToTheDoubleScaleDown"), (0, u "D"), (4, u "twoToTheDoubleScaleUp"), (9, u "E"), (3, u "PI"), (2, u "TAU"), (2, u "DEGREES_TO_RADIANS"), (0, u "RADIANS_TO_DEGREES")] 94

def k2m0 : Method := { name := "<init>", desc := "()V", sig := { parameters := [], returnType := none }, accessFlags := 2, code := none }
def k2c1 : Code := { maxStack := 4, maxLocals := 2, code := jdk_29_method_61_code, exceptionTable := #[], attributes := #[] }
def k2m1 : Method := { name := "abs", desc := "(J)J", sig := { parameters := [.long], returnType := some .long }, accessFlags := 9, code := some k2c1 }
/-- java/lang/Math -/
def k2 : Class := { plain "java/lang/Math" (some 0) with
  accessFlags := 49
  interfaces := #[]
  cf := some (fileOf pool2 1 #[.nestMembers #[98]] #[{ accessFlags := 2, nameIndex := 7, descriptorIndex := 8, attributes := #[] }, { accessFlags := 9, nameIndex := 124, descriptorIndex := 125, attributes := #[] }] 49 4 #[] #[{ accessFlags := 25, nameIndex := 354, descriptorIndex := 339, attributes := #[] }, { accessFlags := 25, nameIndex := 358, descriptorIndex := 339, attributes := #[] }, { accessFlags := 25, nameIndex := 361, descriptorIndex := 339, attributes := #[] }, { accessFlags := 26, nameIndex := 364, descriptorIndex := 339, attributes := #[] }, { accessFlags := 26, nameIndex := 365, descriptorIndex := 339, attributes := #[] }, { accessFlags := 26, nameIndex := 172, descriptorIndex := 173, attributes := #[] }, { accessFlags := 26, nameIndex := 176, descriptorIndex := 173, attributes := #[] }, { accessFlags := 8, nameIndex := 344, descriptorIndex := 339, attributes := #[] }, { accessFlags := 8, nameIndex := 338, descriptorIndex := 339, attributes := #[] }, { accessFlags := 4120, nameIndex := 245, descriptorIndex := 246, attributes := #[] }])
  fields := #[{ name := "E", type := .double, accessFlags := 25, slot := 0, constantValue := 0 }, { name := "PI", type := .double, accessFlags := 25, slot := 1, constantValue := 0 }, { name := "TAU", type := .double, accessFlags := 25, slot := 2, constantValue := 0 }, { name := "DEGREES_TO_RADIANS", type := .double, accessFlags := 26, slot := 3, constantValue := 0 }, { name := "RADIANS_TO_DEGREES", type := .double, accessFlags := 26, slot := 4, constantValue := 0 }, { name := "negativeZeroFloatBits", type := .long, accessFlags := 26, slot := 5, constantValue := 0 }, { name := "negativeZeroDoubleBits", type := .long, accessFlags := 26, slot := 6, constantValue := 0 }, { name := "twoToTheDoubleScaleUp", type := .double, accessFlags := 8, slot := 7, constantValue := 0 }, { name := "twoToTheDoubleScaleDown", type := .double, accessFlags := 8, slot := 8, constantValue := 0 }, { name := "$assertionsDisabled", type := .boolean, accessFlags := 4120, slot := 9, constantValue := 0 }]
  methods := #[k2m0, k2m1]
  instanceTypes := #[]
  staticTypes := #[.double, .double, .double, .double, .double, .long, .long, .double, .double, .boolean]
  resolved := Array.replicate 460 none
  statics := none }

def pool3 : Array CpInfo := pool [(2, .class_ 4), (1, u "java/lang/Object"), (0, u "<init>"), (0, u "()V"), (0, .class_ 8), (0, u "com/example/vestline/vestline/core/InstallmentCount"), (7, u "LEAST"), (0, u "I"), (2, u "MOST"), (3, u "admits"), (0, u "(I)Z")] 24

def k3m0 : Method := { name := "<init>", desc := "()V", sig := { parameters := [], returnType := none }, accessFlags := 2, code := none }
def k3c1 : Code := { maxStack := 2, maxLocals := 1, code := prog_21_method_2_code, exceptionTable := #[], attributes := #[] }
def k3m1 : Method := { name := "admits", desc := "(I)Z", sig := { parameters := [.int], returnType := some .boolean }, accessFlags := 9, code := some k3c1 }
/-- com/example/vestline/vestline/core/InstallmentCount -/
def k3 : Class := { plain "com/example/vestline/vestline/core/InstallmentCount" (some 0) with
  accessFlags := 49
  interfaces := #[]
  cf := some (fileOf pool3 7 #[] #[{ accessFlags := 2, nameIndex := 5, descriptorIndex := 6, attributes := #[] }, { accessFlags := 9, nameIndex := 24, descriptorIndex := 25, attributes := #[] }] 49 2 #[] #[{ accessFlags := 25, nameIndex := 16, descriptorIndex := 17, attributes := #[] }, { accessFlags := 25, nameIndex := 20, descriptorIndex := 17, attributes := #[] }])
  fields := #[{ name := "LEAST", type := .int, accessFlags := 25, slot := 0, constantValue := 0 }, { name := "MOST", type := .int, accessFlags := 25, slot := 1, constantValue := 0 }]
  methods := #[k3m0, k3m1]
  instanceTypes := #[]
  staticTypes := #[.int, .int]
  resolved := Array.replicate 50 none
  statics := none }

def pool4 : Array CpInfo := pool [(1, u "java/lang/Cloneable"), (0, .class_ 1), (0, u "java/lang/Object"), (0, .class_ 3)] 3

/-- java/lang/Cloneable -/
def k4 : Class := { plain "java/lang/Cloneable" (some 0) with
  accessFlags := 1537
  interfaces := #[]
  cf := some (fileOf pool4 2 #[] #[] 1537 4 #[] #[])
  fields := #[]
  methods := #[]
  instanceTypes := #[]
  staticTypes := #[]
  resolved := Array.replicate 8 none
  statics := none }

def pool5 : Array CpInfo := pool [(1, u "java/io/Serializable"), (0, .class_ 1), (0, u "java/lang/Object"), (0, .class_ 3)] 3

/-- java/io/Serializable -/
def k5 : Class := { plain "java/io/Serializable" (some 0) with
  accessFlags := 1537
  interfaces := #[]
  cf := some (fileOf pool5 2 #[] #[] 1537 4 #[] #[])
  fields := #[]
  methods := #[]
  instanceTypes := #[]
  staticTypes := #[]
  resolved := Array.replicate 8 none
  statics := none }

/-- the primitive byte -/
def k6 : Class := { plain "byte" none with kind := .primitive 'B', accessFlags := 0x411 }
/-- [B -/
def k7 : Class := { plain "[B" (some 0) with kind := .array 6 .byte, interfaces := #[4, 5], accessFlags := 1041 }

/-- the primitive int -/
def k8 : Class := { plain "int" none with kind := .primitive 'I', accessFlags := 0x411 }
/-- [I -/
def k9 : Class := { plain "[I" (some 0) with kind := .array 8 .int, interfaces := #[4, 5], accessFlags := 1041 }

def heap : Heap := #[]
def classes : Array Class := #[k0, k1, k2, k3, k4, k5, k6, k7, k8, k9]
def interned : List (Array UInt16 × Addr) := []
def slotsUsed : Nat := 0
def theMethod : MethodId := ⟨1, 1⟩
def args0 : Array Value := #[.int 5]
def aboutOver (below : List Frame) : State where
  vm := { classes := classes, interned := interned.toArray }
  heap := heap
  slotsUsed := slotsUsed
  threads := #[{ frames := .invoking theMethod args0 :: below }]
def below0 : List Frame := [.native { method := ⟨0, 0⟩, args := #[] }]
def about1 : State := aboutOver below0
def p0 : Program := .bare "" "" ""
def e0 : Env := launch0.env 0 0 0
theorem w_frames : about1.frames = Frame.invoking theMethod args0 :: below0 := rfl
set_option maxRecDepth 65536 in
theorem w_args : argsFit about1.vm theMethod args0 = true := by decide +kernel
set_option maxRecDepth 65536 in
theorem w_heap : heapFits about1 = true := by decide +kernel
set_option maxRecDepth 65536 in
theorem w_runnable : about1.curStatus? = some .runnable := by decide +kernel
set_option maxRecDepth 65536 in
theorem w_alone : about1.alone = true := by decide +kernel
set_option maxRecDepth 65536 in
theorem w_named : about1.methodNamed? x = some theMethod := by decide +kernel
set_option maxRecDepth 65536 in
theorem w_hears : about1.hears theMethod below0 = true := by decide +kernel
set_option maxRecDepth 65536 in
theorem w_ripe : about1.ripe theMethod args0 below0 = true := by decide +kernel
theorem w_running : about1.status = .running := rfl
set_option maxRecDepth 65536 in
theorem w_room : about1.hasRoom e0.platform room_1 = true :=
  launch0.hasRoom_least _ room_1 (by decide +kernel) (by decide +kernel) (by decide +kernel) (by decide +kernel) (by decide +kernel) (by decide +kernel)
theorem allAtoms_all (ts : List Jvm.Cond) (a : Array Jvm.Value) (st : Jvm.State) : (allAtoms ts).before a st = ts.all (fun c => c.before a st) := by
  induction ts with
  | nil => rfl
  | cons c t ih =>
    show (Jvm.Cond.and c (allAtoms t)).before a st = _
    rw [Jvm.Cond.before_and, ih, List.all_cons]
def words1 : List Jvm.Cond := Jvm.Cond.code x code maxLocals ret :: tables_1
/-- a 'code' word, met by the world's own term for the bytes: nothing is compared byte by byte -/
theorem code_word {y : MethodName} {bytes : ByteArray} {mx : Nat} {rt : Option FieldType} {a : Array Value} {s : State} {m : MethodId} {meth : Method} {c : Code} (h1 : s.methodNamed? y = some m) (h2 : s.vm.method? m = some meth) (h3 : meth.code = some c) (h4 : c.code = bytes)
    (h5 : (c.maxLocals == mx && c.exceptionTable.isEmpty && decide (c.maxStack ≤ mostOperands) && decide (meth.sig.returnType = rt) && !meth.locks && decide (parseMethodDescriptor y.desc = some meth.sig)) = true) : (Jvm.Cond.code y bytes mx rt).before a s = true := by
  simp only [Bool.and_eq_true, beq_iff_eq, Bool.not_eq_true', decide_eq_true_eq] at h5
  obtain ⟨⟨⟨⟨⟨g1, g2⟩, g3⟩, g4⟩, g5⟩, g6⟩ := h5
  simp [Cond.before, Cond.holds, Cond.value, h1, h2, h3, h4, g1, g2, g3, g4, g5, g6]
def isCode : Jvm.Cond → Bool
  | .code _ _ _ _ => true
  | _ => false
theorem all_split {L : List Jvm.Cond} {P : Jvm.Cond → Bool} (h1 : L.all (fun c => isCode c || P c) = true) (h2 : ∀ c ∈ L.filter isCode, P c = true) : L.all P = true := by
  refine List.all_eq_true.mpr fun c hc => ?_
  have h := List.all_eq_true.mp h1 c hc
  rcases Bool.eq_false_or_eq_true (isCode c) with hi | hi
  · exact h2 c (List.mem_filter.mpr ⟨hc, hi⟩)
  · simpa [hi] using h
set_option maxRecDepth 65536 in
theorem w_c0 : (Jvm.Cond.code x code maxLocals ret).before args0 about1 = true := code_word (m := ⟨1, 1⟩) (meth := k1m1) (c := k1c1) (by decide +kernel) rfl rfl rfl (by decide +kernel)
set_option maxRecDepth 65536 in
theorem w_c1 : (Jvm.Cond.code ({ cls := "java/lang/Math", name := "abs", desc := "(J)J" } : Jvm.MethodName) jdk_29_method_61_code (2 : Nat) (Option.some Jvm.ClassFile.FieldType.long)).before args0 about1 = true := code_word (m := ⟨2, 1⟩) (meth := k2m1) (c := k2c1) (by decide +kernel) rfl rfl rfl (by decide +kernel)
set_option maxRecDepth 65536 in
theorem w_c2 : (Jvm.Cond.code ({ cls := "com/example/vestline/vestline/core/InstallmentCount", name := "admits", desc := "(I)Z" } : Jvm.MethodName) prog_21_method_2_code (1 : Nat) (Option.some Jvm.ClassFile.FieldType.boolean)).before args0 about1 = true := code_word (m := ⟨3, 1⟩) (meth := k3m1) (c := k3c1) (by decide +kernel) rfl rfl rfl (by decide +kernel)
def codes1 : List Jvm.Cond := [Jvm.Cond.code x code maxLocals ret, Jvm.Cond.code ({ cls := "java/lang/Math", name := "abs", desc := "(J)J" } : Jvm.MethodName) jdk_29_method_61_code (2 : Nat) (Option.some Jvm.ClassFile.FieldType.long), Jvm.Cond.code ({ cls := "com/example/vestline/vestline/core/InstallmentCount", name := "admits", desc := "(I)Z" } : Jvm.MethodName) prog_21_method_2_code (1 : Nat) (Option.some Jvm.ClassFile.FieldType.boolean)]
set_option maxRecDepth 65536 in
theorem codes_eq : words1.filter isCode = codes1 := rfl
theorem w_codes : ∀ c ∈ words1.filter isCode, c.before args0 about1 = true := by
  rw [codes_eq]
  intro c hc
  simp only [codes1, List.mem_cons, List.not_mem_nil, or_false] at hc
  rcases hc with rfl | rfl | rfl
  · exact w_c0
  · exact w_c1
  · exact w_c2
set_option maxRecDepth 65536 in
theorem w_t1 : words1.all (fun c => isCode c || c.before args0 about1) = true := by decide +kernel
theorem w_tables : (allAtoms (Jvm.Cond.code x code maxLocals ret :: tables_1)).before args0 about1 = true := by
  rw [allAtoms_all]
  show words1.all (fun c => c.before args0 about1) = true
  refine all_split ?_ w_codes
  rw [w_t1]
set_option maxRecDepth 65536 in
theorem w_case : (Jvm.Cond.and given_1 narrow_1).before args0 about1 = true := by decide +kernel
theorem w_applies : (headSpec (Jvm.Cond.code x code maxLocals ret :: tables_1) room_1).applies x e0.platform about1 = true :=
  (Spec.applies_iff w_frames).mpr ⟨w_running, w_runnable, w_alone, w_named, w_hears, w_ripe, w_room, w_tables⟩
theorem atStart : AtStart classFile x code maxLocals ret World_1 tables_1 room_1 Calls_1 rest_1 Pre_1 launch0 p0 e0 about1 theMethod args0 below0 :=
  ⟨lists_1, trivial, launch0.admits_env _ _ _, launch0.least_env, fairChoices_fair.cas, fairChoices_fair.clock, w_frames, w_args, w_heap, w_applies, trivial, trivial, w_case⟩
end start1
theorem witness_1 : WitnessClaimed_1 := ⟨start1.p0, start1.e0, start1.about1, start1.theMethod, start1.args0, start1.below0, start1.atStart⟩
end Jvm.Pilot.@@N@@

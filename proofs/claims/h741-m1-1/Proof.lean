import JvmDerived
import JvmDerived.Pilot.@@N@@Statement
import JvmDerived.Pilot.@@N@@Code
set_option linter.unusedVariables false
set_option linter.unusedSimpArgs false
namespace Jvm.RoadKit
open Sem ClassFile Op Lib Jvm.Stand Jvm.Free Jvm.LawKit
section New
variable {p : Program} {l : Launch} {e : Env} {R : Room} {s : State} {m : MethodId} {args : Array Value} {below : List Frame} {meth : Method} {c : Code} {T : State} {locs : List Loc} {cells slots : Nat}
theorem retI (X : Stand p l e R s m args below meth c T locs cells slots) (hx : p.tables.exec = Jvm.exec) {pc : Nat} {Ls : Array Slot} {z : Int32} {rest : List Value} (hret : meth.sig.returnType = some .int) (hd : decode c.code pc = .ok (.ireturn, 1)) {fs : List Frame}
    (hl : ∀ (f : JFrame) (acts : List Action), f.method = m → f.locked = none → f.entered = [] → (doReturn e (T.setTop f) acts (some (.int z))).1 = T.setFrames fs) : Steps p.tables e below (T.setTop (mkF m pc Ls (.int z :: rest))) (T.setFrames fs) := by
  have hm' : T.vm.method? m = some meth := X.method'
  have hn : narrow .int (.int z) = .int z := rfl
  show Steps p.tables e below (T.setTop { method := m, pc := pc, locals := Ls, stack := _ :: rest, locked := none }) _
  jvm_step X.here [X.here.top, hx, hd, hm', hret, hn]
  first | (intro acts; rw [hl _ acts rfl rfl rfl]) | rw [hl _ _ rfl rfl rfl]
  exact Steps.refl _
end New
end Jvm.RoadKit
namespace Jvm.Pilot.@@N@@
open Jvm Jvm.ClassFile Sem Op Lib Jvm.Free Jvm.Stand Jvm.LawKit Jvm.RoadKit Bundle Jvm.Pilot.@@N@@.Jvm.D
theorem pn_0 : plainName "com/example/subscription_engine/subscriptionengine/SafeIntegers" = true := by first | (simp [plainName, overriddenIn]; done) | decide +kernel
theorem d1_0 : decode prog_3_method_2_code 0 = .ok (.lload_n 0, 1) := by decide +kernel
theorem d1_1 : decode prog_3_method_2_code 1 = .ok (.lconst 0, 1) := by decide +kernel
theorem d1_2 : decode prog_3_method_2_code 2 = .ok (.lcmp, 1) := by decide +kernel
theorem d1_3 : decode prog_3_method_2_code 3 = .ok (.ifCond .lt 15, 3) := by decide +kernel
theorem d1_6 : decode prog_3_method_2_code 6 = .ok (.lload_n 0, 1) := by decide +kernel
theorem d1_7 : decode prog_3_method_2_code 7 = .ok (.ldc2_w 9, 3) := by decide +kernel
theorem d1_10 : decode prog_3_method_2_code 10 = .ok (.lcmp, 1) := by decide +kernel
theorem d1_11 : decode prog_3_method_2_code 11 = .ok (.ifCond .gt 7, 3) := by decide +kernel
theorem d1_14 : decode prog_3_method_2_code 14 = .ok (.iconst 1, 1) := by decide +kernel
theorem d1_15 : decode prog_3_method_2_code 15 = .ok (.goto 4, 3) := by decide +kernel
theorem d1_18 : decode prog_3_method_2_code 18 = .ok (.iconst 0, 1) := by decide +kernel
theorem d1_19 : decode prog_3_method_2_code 19 = .ok (.ireturn, 1) := by decide +kernel
theorem ef_1 (m : MethodId) (x0 : Int64) : entryFrame m #[(.long x0)] 2 = mkF m 0 #[.val (.long x0), .second] [] := by first | (simp [entryFrame, mkF, argsToLocals, Value.category]; done) | rfl
def f1 (q0 : Int64) : Int32 := (if (lcmpW q0 (0 : Int64)) < (0 : Int32) then (0 : Int32) else (if (0 : Int32) < (lcmpW q0 (9007199254740991 : Int64)) then (0 : Int32) else (1 : Int32)))
def Q1 (Z : State) (q0 : Int64) (h0 : Heap) (n0 : Nat) (v : Option Value) (h : Heap) (L : List Loc) : Prop := v = some (.int (f1 q0)) ∧ Fr n0 L ∧ h = h0
set_option maxRecDepth 65536 in
set_option maxHeartbeats 40000000 in
theorem rm1 (l : Launch) (Z : State) (a0 : Array Value) (hw : ∀ d ∈ tables_1, d.before a0 Z = true) (ws : List Jvm.Cond) (q0 : Int64) (h0 : Heap) (n0 : Nat) (Z0 : n0 ≤ h0.size)  :
    MetFree l (⟨"com/example/subscription_engine/subscriptionengine/SafeIntegers", "inRange", "(J)Z"⟩ : MethodName) (head1 (Jvm.Cond.code (⟨"com/example/subscription_engine/subscriptionengine/SafeIntegers", "inRange", "(J)Z"⟩ : MethodName) prog_3_method_2_code 2 (some .boolean) :: ws) ({ frames := 0, cells := 0, slots := 0, locals := 0 } : Room)) (fun a U => a = #[(.long q0)] ∧ Z.Warmed39 U.vm ∧ U.heap = h0) (fun _ _ _ _ _ => True) (fun _ U o U' => ∃ v L, o = .returned v ∧ Q1 Z q0 h0 n0 v U'.heap L ∧ FrameEnd U o U' L ({ frames := 0, cells := 0, slots := 0, locals := 0 } : Room).cells ({ frames := 0, cells := 0, slots := 0, locals := 0 } : Room).slots) := by
  refine MetFree.of_bodySF (plainFor_of_name pn_0) hisR ?_
  intro p e s m args below meth c s₁ Bd hml0 hP hK
  obtain ⟨rfl, hZ, hh⟩ := hP
  have hx := Bd.exec
  have hby := Bd.bytes
  have hml : c.maxLocals = 2 := hml0
  have hown : s.vm.findClass "com/example/subscription_engine/subscriptionengine/SafeIntegers" = some m.cls := findClass_of_methodNamed Bd.named
  have hnm := (name_of_methodNamed Bd.named Bd.method).1
  have X0 : Stand p l e ({ frames := 0, cells := 0, slots := 0, locals := 0 } : Room) s m #[(.long q0)] below meth c s₁ [] 0 0 := Stand.of_body Bd
  have e0 : s₁.heap = h0 := by rw [← hh, Bd.state]; rfl
  have N0 := Fr.nil n0
  have K0 := Keep.refl h0 []
  have pre0 : ∀ t, Steps p.tables e below (s₁.setTop (mkF m 0 #[.val (.long q0), .second] [])) t → Steps p.tables e below (s₁.setTop (entryFrame m #[(.long q0)] 2)) t := fun t k => castTop (ef_1 m q0) k
  have pre1 : ∀ t, Steps p.tables e below (s₁.setTop (mkF m 3 #[.val (.long q0), .second] [(.int (lcmpW q0 (0 : Int64)))])) t → Steps p.tables e below (s₁.setTop (entryFrame m #[(.long q0)] 2)) t := fun t kt => pre0 t (by
    show Steps p.tables e below (s₁.setTop (mkF m 0 #[.val (.long q0), .second] [])) _
    refine XS.lloadN X0.here hx rfl (hb hby d1_0) rfl ?_
    show Steps p.tables e below (s₁.setTop (mkF m 1 #[.val (.long q0), .second] [(.long q0)])) _
    refine XS.lconst X0.here hx rfl (hb hby d1_1) ?_
    show Steps p.tables e below (s₁.setTop (mkF m 2 #[.val (.long q0), .second] [(.long (0 : Int64)), (.long q0)])) _
    refine XS.lcmp X0.here hx rfl (hb hby d1_2) rfl ?_
    exact kt)
  by_cases hc2 : (lcmpW q0 (0 : Int64)) < (0 : Int32)
  · obtain ⟨fs, hr, hrun, hended, hW, hsame⟩ := X0.leave (v := some (.int (0 : Int32))) (fun h => by rw [Bd.returns] at h; cases h)
    refine ⟨_, _, pre1 _ ?_, hrun, hended, _, _, rfl, ?_, ⟨_, rfl⟩, hW, hsame.mono (by decide) (by decide)⟩
    · show Steps p.tables e below (s₁.setTop (mkF m 3 #[.val (.long q0), .second] [(.int (lcmpW q0 (0 : Int64)))])) _
      refine XS.ifYes X0.here hx rfl (pc0 := 3) (pc' := 18) rfl (hb hby d1_3) rfl ((if0 _ _).trans (tlt hc2).1) (by decide) (by decide) ?_
      show Steps p.tables e below (s₁.setTop (mkF m 18 #[.val (.long q0), .second] [])) _
      refine XS.iconst X0.here hx rfl (hb hby d1_18) ?_
      show Steps p.tables e below (s₁.setTop (mkF m 19 #[.val (.long q0), .second] [(.int (0 : Int32))])) _
      exact retN X0 hx (t := .boolean) Bd.returns (by simp) (hb hby d1_19) hr
    · show Q1 Z q0 h0 n0 _ s₁.heap _
      rw [e0]
      exact ⟨by rw [show f1 q0 = (0 : Int32) from by unfold f1; rw [if_pos hc2]], N0, rfl⟩
  · have pre3 : ∀ t, Steps p.tables e below (s₁.setTop (mkF m 11 #[.val (.long q0), .second] [(.int (lcmpW q0 (9007199254740991 : Int64)))])) t → Steps p.tables e below (s₁.setTop (entryFrame m #[(.long q0)] 2)) t := fun t kt => pre1 t (by
      show Steps p.tables e below (s₁.setTop (mkF m 3 #[.val (.long q0), .second] [(.int (lcmpW q0 (0 : Int64)))])) _
      refine XS.ifNo X0.here hx rfl (hb hby d1_3) rfl ((if0 _ _).trans (flt hc2).1) ?_
      show Steps p.tables e below (s₁.setTop (mkF m 6 #[.val (.long q0), .second] [])) _
      refine XS.lloadN X0.here hx rfl (hb hby d1_6) rfl ?_
      show Steps p.tables e below (s₁.setTop (mkF m 7 #[.val (.long q0), .second] [(.long q0)])) _
      refine X0.ldc2Long hx hown (mvT hZ (hw _ (List.mem_of_getElem? (i := 5) rfl))) (g := (mkF m 7 #[.val (.long q0), .second] [(.long q0)])) rfl (hb hby d1_7) _ ?_
      show Steps p.tables e below (s₁.setTop (mkF m 10 #[.val (.long q0), .second] [(.long (9007199254740991 : Int64)), (.long q0)])) _
      refine XS.lcmp X0.here hx rfl (hb hby d1_10) rfl ?_
      exact kt)
    by_cases hc4 : (0 : Int32) < (lcmpW q0 (9007199254740991 : Int64))
    · obtain ⟨fs, hr, hrun, hended, hW, hsame⟩ := X0.leave (v := some (.int (0 : Int32))) (fun h => by rw [Bd.returns] at h; cases h)
      refine ⟨_, _, pre3 _ ?_, hrun, hended, _, _, rfl, ?_, ⟨_, rfl⟩, hW, hsame.mono (by decide) (by decide)⟩
      · show Steps p.tables e below (s₁.setTop (mkF m 11 #[.val (.long q0), .second] [(.int (lcmpW q0 (9007199254740991 : Int64)))])) _
        refine XS.ifYes X0.here hx rfl (pc0 := 11) (pc' := 18) rfl (hb hby d1_11) rfl ((if0 _ _).trans (tlt hc4).2.2.1) (by decide) (by decide) ?_
        show Steps p.tables e below (s₁.setTop (mkF m 18 #[.val (.long q0), .second] [])) _
        refine XS.iconst X0.here hx rfl (hb hby d1_18) ?_
        show Steps p.tables e below (s₁.setTop (mkF m 19 #[.val (.long q0), .second] [(.int (0 : Int32))])) _
        exact retN X0 hx (t := .boolean) Bd.returns (by simp) (hb hby d1_19) hr
      · show Q1 Z q0 h0 n0 _ s₁.heap _
        rw [e0]
        exact ⟨by rw [show f1 q0 = (0 : Int32) from by unfold f1; rw [if_neg hc2, if_pos hc4]], N0, rfl⟩
    · obtain ⟨fs, hr, hrun, hended, hW, hsame⟩ := X0.leave (v := some (.int (1 : Int32))) (fun h => by rw [Bd.returns] at h; cases h)
      refine ⟨_, _, pre3 _ ?_, hrun, hended, _, _, rfl, ?_, ⟨_, rfl⟩, hW, hsame.mono (by decide) (by decide)⟩
      · show Steps p.tables e below (s₁.setTop (mkF m 11 #[.val (.long q0), .second] [(.int (lcmpW q0 (9007199254740991 : Int64)))])) _
        refine XS.ifNo X0.here hx rfl (hb hby d1_11) rfl ((if0 _ _).trans (flt hc4).2.2.1) ?_
        show Steps p.tables e below (s₁.setTop (mkF m 14 #[.val (.long q0), .second] [])) _
        refine XS.iconst X0.here hx rfl (hb hby d1_14) ?_
        show Steps p.tables e below (s₁.setTop (mkF m 15 #[.val (.long q0), .second] [(.int (1 : Int32))])) _
        refine XS.goto X0.here hx rfl (pc0 := 15) (pc' := 19) rfl (hb hby d1_15) (by decide) (by decide) ?_
        show Steps p.tables e below (s₁.setTop (mkF m 19 #[.val (.long q0), .second] [(.int (1 : Int32))])) _
        exact retN X0 hx (t := .boolean) Bd.returns (by simp) (hb hby d1_19) hr
      · show Q1 Z q0 h0 n0 _ s₁.heap _
        rw [e0]
        exact ⟨by rw [show f1 q0 = (1 : Int32) from by unfold f1; rw [if_neg hc2, if_neg hc4]], N0, rfl⟩
theorem pd_0 : parseMethodDescriptor "(J)Z" = some ⟨[.long], some .boolean⟩ := by decide +kernel
theorem pn_1 : plainName "com/example/subscription_engine/subscriptionengine/SafeIntegersInRangePinLaw" = true := by first | (simp [plainName, overriddenIn]; done) | decide +kernel
theorem ef_0 (m : MethodId) (x0 : Int64) (x1 : Int32) (x2 : Int32) : entryFrame m #[(.long x0), (.int x1), (.int x2)] maxLocals = mkF m 0 #[.val (.long x0), .second, .val (.int x1), .val (.int x2), .unset, .unset, .unset, .unset, .unset, .unset] [] := by first | (simp [entryFrame, mkF, argsToLocals, Value.category, maxLocals]; done) | rfl
def f0_l7_89001 (q0 : Int64) (p1 : Int32) (p2 : Int32) : Int64 := (if (p1 &&& (3 : Int32)) = (0 : Int32) then q0 else (if (p1 &&& (3 : Int32)) = (1 : Int32) then ((p2 % (1024 : Int32)).toInt64) else (if (p1 &&& (3 : Int32)) = (2 : Int32) then ((9007199254740991 : Int64) + ((p2 % (1024 : Int32)).toInt64)) else (if (lcmpW (q0 &&& (1024 : Int64)) (0 : Int64)) = (0 : Int32) then ((9223372036854775807 : Int64) - (q0 &&& (1023 : Int64))) else ((-9223372036854775808 : Int64) + (q0 &&& (1023 : Int64)))))))
def f0_e1 (q0 : Int64) (p1 : Int32) (p2 : Int32) : Int64 := (((f0_l7_89001 q0 p1 p2).toUInt64 >>> ((53 : Int32) &&& 0x3f).toInt64.toUInt64).toInt64)
def f0_s0_104002 (q0 : Int64) (p1 : Int32) (p2 : Int32) : Int32 := (if (lcmpW (f0_e1 q0 p1 p2) (0 : Int64)) = (0 : Int32) then (1 : Int32) else (0 : Int32))
def f0 (q0 : Int64) (p1 : Int32) (p2 : Int32) : Int32 := (if (f1 (f0_l7_89001 q0 p1 p2)) = (f0_s0_104002 q0 p1 p2) then (1 : Int32) else (0 : Int32))
def Q0 (Z : State) (q0 : Int64) (p1 : Int32) (p2 : Int32) (h0 : Heap) (n0 : Nat) (v : Option Value) (h : Heap) (L : List Loc) : Prop := v = some (.int (f0 q0 p1 p2)) ∧ Fr n0 L
set_option maxRecDepth 65536 in
set_option maxHeartbeats 40000000 in
theorem rm0 (l : Launch) (Z : State) (a0 : Array Value) (hw : ∀ d ∈ tables_1, d.before a0 Z = true) (ws : List Jvm.Cond) (q0 : Int64) (p1 : Int32) (p2 : Int32) (h0 : Heap) (n0 : Nat) (Z0 : n0 ≤ h0.size)  :
    MetFree l x (head1 (Jvm.Cond.code x code maxLocals ret :: ws) room_1) (fun a U => a = #[(.long q0), (.int p1), (.int p2)] ∧ Z.Warmed39 U.vm ∧ U.heap = h0) (fun _ _ _ _ _ => True) (fun _ U o U' => ∃ v L, o = .returned v ∧ Q0 Z q0 p1 p2 h0 n0 v U'.heap L ∧ FrameEnd U o U' L room_1.cells room_1.slots) := by
  refine MetFree.of_bodySF (plainFor_of_name pn_1) hisR ?_
  intro p e s m args below meth c s₁ Bd hml0 hP hK
  obtain ⟨rfl, hZ, hh⟩ := hP
  have hx := Bd.exec
  have hby := Bd.bytes
  have hml : c.maxLocals = 10 := hml0
  have hown : s.vm.findClass "com/example/subscription_engine/subscriptionengine/SafeIntegersInRangePinLaw" = some m.cls := findClass_of_methodNamed Bd.named
  have hnm := (name_of_methodNamed Bd.named Bd.method).1
  have X0 : Stand p l e room_1 s m #[(.long q0), (.int p1), (.int p2)] below meth c s₁ [] 0 0 := Stand.of_body Bd
  have e0 : s₁.heap = h0 := by rw [← hh, Bd.state]; rfl
  have N0 := Fr.nil n0
  have K0 := Keep.refl h0 []
  have pre0 : ∀ t, Steps p.tables e below (s₁.setTop (mkF m 0 #[.val (.long q0), .second, .val (.int p1), .val (.int p2), .unset, .unset, .unset, .unset, .unset, .unset] [])) t → Steps p.tables e below (s₁.setTop (entryFrame m #[(.long q0), (.int p1), (.int p2)] maxLocals)) t := fun t k => castTop (ef_0 m q0 p1 p2) k
  have pre1 : ∀ t, Steps p.tables e below (s₁.setTop (mkF m 15 #[.val (.long q0), .second, .val (.int p1), .val (.int p2), .val (.int (p1 &&& (3 : Int32))), .val (.long ((p2 % (1024 : Int32)).toInt64)), .second, .unset, .unset, .unset] [(.int (p1 &&& (3 : Int32)))])) t → Steps p.tables e below (s₁.setTop (entryFrame m #[(.long q0), (.int p1), (.int p2)] maxLocals)) t := fun t kt => pre0 t (by
    show Steps p.tables e below (s₁.setTop (mkF m 0 #[.val (.long q0), .second, .val (.int p1), .val (.int p2), .unset, .unset, .unset, .unset, .unset, .unset] [])) _
    refine XS.iloadN X0.here hx rfl (hb hby at_0) rfl ?_
    show Steps p.tables e below (s₁.setTop (mkF m 1 #[.val (.long q0), .second, .val (.int p1), .val (.int p2), .unset, .unset, .unset, .unset, .unset, .unset] [(.int p1)])) _
    refine XS.iconst X0.here hx rfl (hb hby at_1) ?_
    show Steps p.tables e below (s₁.setTop (mkF m 2 #[.val (.long q0), .second, .val (.int p1), .val (.int p2), .unset, .unset, .unset, .unset, .unset, .unset] [(.int (3 : Int32)), (.int p1)])) _
    refine XS.iand X0.here hx rfl (hb hby at_2) rfl ?_
    show Steps p.tables e below (s₁.setTop (mkF m 3 #[.val (.long q0), .second, .val (.int p1), .val (.int p2), .unset, .unset, .unset, .unset, .unset, .unset] [(.int (p1 &&& (3 : Int32)))])) _
    refine XS.istore X0.here hx rfl (hb hby at_3) rfl (l' := #[.val (.long q0), .second, .val (.int p1), .val (.int p2), .val (.int (p1 &&& (3 : Int32))), .unset, .unset, .unset, .unset, .unset]) rfl ?_
    show Steps p.tables e below (s₁.setTop (mkF m 5 #[.val (.long q0), .second, .val (.int p1), .val (.int p2), .val (.int (p1 &&& (3 : Int32))), .unset, .unset, .unset, .unset, .unset] [])) _
    refine XS.iloadN X0.here hx rfl (hb hby at_5) rfl ?_
    show Steps p.tables e below (s₁.setTop (mkF m 6 #[.val (.long q0), .second, .val (.int p1), .val (.int p2), .val (.int (p1 &&& (3 : Int32))), .unset, .unset, .unset, .unset, .unset] [(.int p2)])) _
    refine XS.sipush X0.here hx rfl (hb hby at_6) ?_
    show Steps p.tables e below (s₁.setTop (mkF m 9 #[.val (.long q0), .second, .val (.int p1), .val (.int p2), .val (.int (p1 &&& (3 : Int32))), .unset, .unset, .unset, .unset, .unset] [(.int (1024 : Int32)), (.int p2)])) _
    refine iremM X0 hx rfl (hb hby at_9) rfl (by decide) ?_
    show Steps p.tables e below (s₁.setTop (mkF m 10 #[.val (.long q0), .second, .val (.int p1), .val (.int p2), .val (.int (p1 &&& (3 : Int32))), .unset, .unset, .unset, .unset, .unset] [(.int (p2 % (1024 : Int32)))])) _
    refine XS.i2l X0.here hx rfl (hb hby at_10) rfl ?_
    show Steps p.tables e below (s₁.setTop (mkF m 11 #[.val (.long q0), .second, .val (.int p1), .val (.int p2), .val (.int (p1 &&& (3 : Int32))), .unset, .unset, .unset, .unset, .unset] [(.long ((p2 % (1024 : Int32)).toInt64))])) _
    refine XS.lstore X0.here hx rfl (hb hby at_11) rfl (l' := #[.val (.long q0), .second, .val (.int p1), .val (.int p2), .val (.int (p1 &&& (3 : Int32))), .val (.long ((p2 % (1024 : Int32)).toInt64)), .second, .unset, .unset, .unset]) rfl ?_
    show Steps p.tables e below (s₁.setTop (mkF m 13 #[.val (.long q0), .second, .val (.int p1), .val (.int p2), .val (.int (p1 &&& (3 : Int32))), .val (.long ((p2 % (1024 : Int32)).toInt64)), .second, .unset, .unset, .unset] [])) _
    refine XS.iload X0.here hx rfl (hb hby at_13) rfl ?_
    exact kt)
  have pre6 : ∀ t, Steps p.tables e below (s₁.setTop (mkF m 89 #[.val (.long q0), .second, .val (.int p1), .val (.int p2), .val (.int (p1 &&& (3 : Int32))), .val (.long ((p2 % (1024 : Int32)).toInt64)), .second, .val (.long (f0_l7_89001 q0 p1 p2)), .second, .unset] [])) t → Steps p.tables e below (s₁.setTop (entryFrame m #[(.long q0), (.int p1), (.int p2)] maxLocals)) t := by
    intro t kt
    by_cases hc2 : (p1 &&& (3 : Int32)) = (0 : Int32)
    · have hj : (f0_l7_89001 q0 p1 p2) = q0 := by unfold f0_l7_89001; rw [if_pos hc2]
      rw [hj] at kt
      refine pre1 t ?_
      show Steps p.tables e below (s₁.setTop (mkF m 15 #[.val (.long q0), .second, .val (.int p1), .val (.int p2), .val (.int (p1 &&& (3 : Int32))), .val (.long ((p2 % (1024 : Int32)).toInt64)), .second, .unset, .unset, .unset] [(.int (p1 &&& (3 : Int32)))])) _
      refine XS.ifNo X0.here hx rfl (hb hby at_15) rfl ((if0 _ _).trans (teq hc2).2) ?_
      show Steps p.tables e below (s₁.setTop (mkF m 18 #[.val (.long q0), .second, .val (.int p1), .val (.int p2), .val (.int (p1 &&& (3 : Int32))), .val (.long ((p2 % (1024 : Int32)).toInt64)), .second, .unset, .unset, .unset] [])) _
      refine XS.lloadN X0.here hx rfl (hb hby at_18) rfl ?_
      show Steps p.tables e below (s₁.setTop (mkF m 19 #[.val (.long q0), .second, .val (.int p1), .val (.int p2), .val (.int (p1 &&& (3 : Int32))), .val (.long ((p2 % (1024 : Int32)).toInt64)), .second, .unset, .unset, .unset] [(.long q0)])) _
      refine XS.lstore X0.here hx rfl (hb hby at_19) rfl (l' := #[.val (.long q0), .second, .val (.int p1), .val (.int p2), .val (.int (p1 &&& (3 : Int32))), .val (.long ((p2 % (1024 : Int32)).toInt64)), .second, .val (.long q0), .second, .unset]) rfl ?_
      show Steps p.tables e below (s₁.setTop (mkF m 21 #[.val (.long q0), .second, .val (.int p1), .val (.int p2), .val (.int (p1 &&& (3 : Int32))), .val (.long ((p2 % (1024 : Int32)).toInt64)), .second, .val (.long q0), .second, .unset] [])) _
      refine XS.goto X0.here hx rfl (pc0 := 21) (pc' := 89) rfl (hb hby at_21) (by decide) (by decide) ?_
      exact kt
    · by_cases hc3 : (p1 &&& (3 : Int32)) = (1 : Int32)
      · have hj : (f0_l7_89001 q0 p1 p2) = ((p2 % (1024 : Int32)).toInt64) := by unfold f0_l7_89001; rw [if_neg hc2, if_pos hc3]
        rw [hj] at kt
        refine pre1 t ?_
        show Steps p.tables e below (s₁.setTop (mkF m 15 #[.val (.long q0), .second, .val (.int p1), .val (.int p2), .val (.int (p1 &&& (3 : Int32))), .val (.long ((p2 % (1024 : Int32)).toInt64)), .second, .unset, .unset, .unset] [(.int (p1 &&& (3 : Int32)))])) _
        refine XS.ifYes X0.here hx rfl (pc0 := 15) (pc' := 24) rfl (hb hby at_15) rfl ((if0 _ _).trans (feq hc2).2) (by decide) (by decide) ?_
        show Steps p.tables e below (s₁.setTop (mkF m 24 #[.val (.long q0), .second, .val (.int p1), .val (.int p2), .val (.int (p1 &&& (3 : Int32))), .val (.long ((p2 % (1024 : Int32)).toInt64)), .second, .unset, .unset, .unset] [])) _
        refine XS.iload X0.here hx rfl (hb hby at_24) rfl ?_
        show Steps p.tables e below (s₁.setTop (mkF m 26 #[.val (.long q0), .second, .val (.int p1), .val (.int p2), .val (.int (p1 &&& (3 : Int32))), .val (.long ((p2 % (1024 : Int32)).toInt64)), .second, .unset, .unset, .unset] [(.int (p1 &&& (3 : Int32)))])) _
        refine XS.iconst X0.here hx rfl (hb hby at_26) ?_
        show Steps p.tables e below (s₁.setTop (mkF m 27 #[.val (.long q0), .second, .val (.int p1), .val (.int p2), .val (.int (p1 &&& (3 : Int32))), .val (.long ((p2 % (1024 : Int32)).toInt64)), .second, .unset, .unset, .unset] [(.int (1 : Int32)), (.int (p1 &&& (3 : Int32)))])) _
        refine XS.icmpNo X0.here hx rfl (hb hby at_27) rfl (teq hc3).2 ?_
        show Steps p.tables e below (s₁.setTop (mkF m 30 #[.val (.long q0), .second, .val (.int p1), .val (.int p2), .val (.int (p1 &&& (3 : Int32))), .val (.long ((p2 % (1024 : Int32)).toInt64)), .second, .unset, .unset, .unset] [])) _
        refine XS.lload X0.here hx rfl (hb hby at_30) rfl ?_
        show Steps p.tables e below (s₁.setTop (mkF m 32 #[.val (.long q0), .second, .val (.int p1), .val (.int p2), .val (.int (p1 &&& (3 : Int32))), .val (.long ((p2 % (1024 : Int32)).toInt64)), .second, .unset, .unset, .unset] [(.long ((p2 % (1024 : Int32)).toInt64))])) _
        refine XS.lstore X0.here hx rfl (hb hby at_32) rfl (l' := #[.val (.long q0), .second, .val (.int p1), .val (.int p2), .val (.int (p1 &&& (3 : Int32))), .val (.long ((p2 % (1024 : Int32)).toInt64)), .second, .val (.long ((p2 % (1024 : Int32)).toInt64)), .second, .unset]) rfl ?_
        show Steps p.tables e below (s₁.setTop (mkF m 34 #[.val (.long q0), .second, .val (.int p1), .val (.int p2), .val (.int (p1 &&& (3 : Int32))), .val (.long ((p2 % (1024 : Int32)).toInt64)), .second, .val (.long ((p2 % (1024 : Int32)).toInt64)), .second, .unset] [])) _
        refine XS.goto X0.here hx rfl (pc0 := 34) (pc' := 89) rfl (hb hby at_34) (by decide) (by decide) ?_
        exact kt
      · by_cases hc4 : (p1 &&& (3 : Int32)) = (2 : Int32)
        · have hj : (f0_l7_89001 q0 p1 p2) = ((9007199254740991 : Int64) + ((p2 % (1024 : Int32)).toInt64)) := by unfold f0_l7_89001; rw [if_neg hc2, if_neg hc3, if_pos hc4]
          rw [hj] at kt
          refine pre1 t ?_
          show Steps p.tables e below (s₁.setTop (mkF m 15 #[.val (.long q0), .second, .val (.int p1), .val (.int p2), .val (.int (p1 &&& (3 : Int32))), .val (.long ((p2 % (1024 : Int32)).toInt64)), .second, .unset, .unset, .unset] [(.int (p1 &&& (3 : Int32)))])) _
          refine XS.ifYes X0.here hx rfl (pc0 := 15) (pc' := 24) rfl (hb hby at_15) rfl ((if0 _ _).trans (feq hc2).2) (by decide) (by decide) ?_
          show Steps p.tables e below (s₁.setTop (mkF m 24 #[.val (.long q0), .second, .val (.int p1), .val (.int p2), .val (.int (p1 &&& (3 : Int32))), .val (.long ((p2 % (1024 : Int32)).toInt64)), .second, .unset, .unset, .unset] [])) _
          refine XS.iload X0.here hx rfl (hb hby at_24) rfl ?_
          show Steps p.tables e below (s₁.setTop (mkF m 26 #[.val (.long q0), .second, .val (.int p1), .val (.int p2), .val (.int (p1 &&& (3 : Int32))), .val (.long ((p2 % (1024 : Int32)).toInt64)), .second, .unset, .unset, .unset] [(.int (p1 &&& (3 : Int32)))])) _
          refine XS.iconst X0.here hx rfl (hb hby at_26) ?_
          show Steps p.tables e below (s₁.setTop (mkF m 27 #[.val (.long q0), .second, .val (.int p1), .val (.int p2), .val (.int (p1 &&& (3 : Int32))), .val (.long ((p2 % (1024 : Int32)).toInt64)), .second, .unset, .unset, .unset] [(.int (1 : Int32)), (.int (p1 &&& (3 : Int32)))])) _
          refine XS.icmpYes X0.here hx rfl (pc0 := 27) (pc' := 37) rfl (hb hby at_27) rfl (feq hc3).2 (by decide) (by decide) ?_
          show Steps p.tables e below (s₁.setTop (mkF m 37 #[.val (.long q0), .second, .val (.int p1), .val (.int p2), .val (.int (p1 &&& (3 : Int32))), .val (.long ((p2 % (1024 : Int32)).toInt64)), .second, .unset, .unset, .unset] [])) _
          refine XS.iload X0.here hx rfl (hb hby at_37) rfl ?_
          show Steps p.tables e below (s₁.setTop (mkF m 39 #[.val (.long q0), .second, .val (.int p1), .val (.int p2), .val (.int (p1 &&& (3 : Int32))), .val (.long ((p2 % (1024 : Int32)).toInt64)), .second, .unset, .unset, .unset] [(.int (p1 &&& (3 : Int32)))])) _
          refine XS.iconst X0.here hx rfl (hb hby at_39) ?_
          show Steps p.tables e below (s₁.setTop (mkF m 40 #[.val (.long q0), .second, .val (.int p1), .val (.int p2), .val (.int (p1 &&& (3 : Int32))), .val (.long ((p2 % (1024 : Int32)).toInt64)), .second, .unset, .unset, .unset] [(.int (2 : Int32)), (.int (p1 &&& (3 : Int32)))])) _
          refine XS.icmpNo X0.here hx rfl (hb hby at_40) rfl (teq hc4).2 ?_
          show Steps p.tables e below (s₁.setTop (mkF m 43 #[.val (.long q0), .second, .val (.int p1), .val (.int p2), .val (.int (p1 &&& (3 : Int32))), .val (.long ((p2 % (1024 : Int32)).toInt64)), .second, .unset, .unset, .unset] [])) _
          refine X0.ldc2Long hx hown (mvT hZ (hw _ (List.mem_of_getElem? (i := 0) rfl))) (g := (mkF m 43 #[.val (.long q0), .second, .val (.int p1), .val (.int p2), .val (.int (p1 &&& (3 : Int32))), .val (.long ((p2 % (1024 : Int32)).toInt64)), .second, .unset, .unset, .unset] [])) rfl (hb hby at_43) _ ?_
          show Steps p.tables e below (s₁.setTop (mkF m 46 #[.val (.long q0), .second, .val (.int p1), .val (.int p2), .val (.int (p1 &&& (3 : Int32))), .val (.long ((p2 % (1024 : Int32)).toInt64)), .second, .unset, .unset, .unset] [(.long (9007199254740991 : Int64))])) _
          refine XS.lload X0.here hx rfl (hb hby at_46) rfl ?_
          show Steps p.tables e below (s₁.setTop (mkF m 48 #[.val (.long q0), .second, .val (.int p1), .val (.int p2), .val (.int (p1 &&& (3 : Int32))), .val (.long ((p2 % (1024 : Int32)).toInt64)), .second, .unset, .unset, .unset] [(.long ((p2 % (1024 : Int32)).toInt64)), (.long (9007199254740991 : Int64))])) _
          refine XS.ladd X0.here hx rfl (hb hby at_48) rfl ?_
          show Steps p.tables e below (s₁.setTop (mkF m 49 #[.val (.long q0), .second, .val (.int p1), .val (.int p2), .val (.int (p1 &&& (3 : Int32))), .val (.long ((p2 % (1024 : Int32)).toInt64)), .second, .unset, .unset, .unset] [(.long ((9007199254740991 : Int64) + ((p2 % (1024 : Int32)).toInt64)))])) _
          refine XS.lstore X0.here hx rfl (hb hby at_49) rfl (l' := #[.val (.long q0), .second, .val (.int p1), .val (.int p2), .val (.int (p1 &&& (3 : Int32))), .val (.long ((p2 % (1024 : Int32)).toInt64)), .second, .val (.long ((9007199254740991 : Int64) + ((p2 % (1024 : Int32)).toInt64))), .second, .unset]) rfl ?_
          show Steps p.tables e below (s₁.setTop (mkF m 51 #[.val (.long q0), .second, .val (.int p1), .val (.int p2), .val (.int (p1 &&& (3 : Int32))), .val (.long ((p2 % (1024 : Int32)).toInt64)), .second, .val (.long ((9007199254740991 : Int64) + ((p2 % (1024 : Int32)).toInt64))), .second, .unset] [])) _
          refine XS.goto X0.here hx rfl (pc0 := 51) (pc' := 89) rfl (hb hby at_51) (by decide) (by decide) ?_
          exact kt
        · by_cases hc5 : (lcmpW (q0 &&& (1024 : Int64)) (0 : Int64)) = (0 : Int32)
          · have hj : (f0_l7_89001 q0 p1 p2) = ((9223372036854775807 : Int64) - (q0 &&& (1023 : Int64))) := by unfold f0_l7_89001; rw [if_neg hc2, if_neg hc3, if_neg hc4, if_pos hc5]
            rw [hj] at kt
            refine pre1 t ?_
            show Steps p.tables e below (s₁.setTop (mkF m 15 #[.val (.long q0), .second, .val (.int p1), .val (.int p2), .val (.int (p1 &&& (3 : Int32))), .val (.long ((p2 % (1024 : Int32)).toInt64)), .second, .unset, .unset, .unset] [(.int (p1 &&& (3 : Int32)))])) _
            refine XS.ifYes X0.here hx rfl (pc0 := 15) (pc' := 24) rfl (hb hby at_15) rfl ((if0 _ _).trans (feq hc2).2) (by decide) (by decide) ?_
            show Steps p.tables e below (s₁.setTop (mkF m 24 #[.val (.long q0), .second, .val (.int p1), .val (.int p2), .val (.int (p1 &&& (3 : Int32))), .val (.long ((p2 % (1024 : Int32)).toInt64)), .second, .unset, .unset, .unset] [])) _
            refine XS.iload X0.here hx rfl (hb hby at_24) rfl ?_
            show Steps p.tables e below (s₁.setTop (mkF m 26 #[.val (.long q0), .second, .val (.int p1), .val (.int p2), .val (.int (p1 &&& (3 : Int32))), .val (.long ((p2 % (1024 : Int32)).toInt64)), .second, .unset, .unset, .unset] [(.int (p1 &&& (3 : Int32)))])) _
            refine XS.iconst X0.here hx rfl (hb hby at_26) ?_
            show Steps p.tables e below (s₁.setTop (mkF m 27 #[.val (.long q0), .second, .val (.int p1), .val (.int p2), .val (.int (p1 &&& (3 : Int32))), .val (.long ((p2 % (1024 : Int32)).toInt64)), .second, .unset, .unset, .unset] [(.int (1 : Int32)), (.int (p1 &&& (3 : Int32)))])) _
            refine XS.icmpYes X0.here hx rfl (pc0 := 27) (pc' := 37) rfl (hb hby at_27) rfl (feq hc3).2 (by decide) (by decide) ?_
            show Steps p.tables e below (s₁.setTop (mkF m 37 #[.val (.long q0), .second, .val (.int p1), .val (.int p2), .val (.int (p1 &&& (3 : Int32))), .val (.long ((p2 % (1024 : Int32)).toInt64)), .second, .unset, .unset, .unset] [])) _
            refine XS.iload X0.here hx rfl (hb hby at_37) rfl ?_
            show Steps p.tables e below (s₁.setTop (mkF m 39 #[.val (.long q0), .second, .val (.int p1), .val (.int p2), .val (.int (p1 &&& (3 : Int32))), .val (.long ((p2 % (1024 : Int32)).toInt64)), .second, .unset, .unset, .unset] [(.int (p1 &&& (3 : Int32)))])) _
            refine XS.iconst X0.here hx rfl (hb hby at_39) ?_
            show Steps p.tables e below (s₁.setTop (mkF m 40 #[.val (.long q0), .second, .val (.int p1), .val (.int p2), .val (.int (p1 &&& (3 : Int32))), .val (.long ((p2 % (1024 : Int32)).toInt64)), .second, .unset, .unset, .unset] [(.int (2 : Int32)), (.int (p1 &&& (3 : Int32)))])) _
            refine XS.icmpYes X0.here hx rfl (pc0 := 40) (pc' := 54) rfl (hb hby at_40) rfl (feq hc4).2 (by decide) (by decide) ?_
            show Steps p.tables e below (s₁.setTop (mkF m 54 #[.val (.long q0), .second, .val (.int p1), .val (.int p2), .val (.int (p1 &&& (3 : Int32))), .val (.long ((p2 % (1024 : Int32)).toInt64)), .second, .unset, .unset, .unset] [])) _
            refine XS.lloadN X0.here hx rfl (hb hby at_54) rfl ?_
            show Steps p.tables e below (s₁.setTop (mkF m 55 #[.val (.long q0), .second, .val (.int p1), .val (.int p2), .val (.int (p1 &&& (3 : Int32))), .val (.long ((p2 % (1024 : Int32)).toInt64)), .second, .unset, .unset, .unset] [(.long q0)])) _
            refine X0.ldc2Long hx hown (mvT hZ (hw _ (List.mem_of_getElem? (i := 6) rfl))) (g := (mkF m 55 #[.val (.long q0), .second, .val (.int p1), .val (.int p2), .val (.int (p1 &&& (3 : Int32))), .val (.long ((p2 % (1024 : Int32)).toInt64)), .second, .unset, .unset, .unset] [(.long q0)])) rfl (hb hby at_55) _ ?_
            show Steps p.tables e below (s₁.setTop (mkF m 58 #[.val (.long q0), .second, .val (.int p1), .val (.int p2), .val (.int (p1 &&& (3 : Int32))), .val (.long ((p2 % (1024 : Int32)).toInt64)), .second, .unset, .unset, .unset] [(.long (1024 : Int64)), (.long q0)])) _
            refine XS.land X0.here hx rfl (hb hby at_58) rfl ?_
            show Steps p.tables e below (s₁.setTop (mkF m 59 #[.val (.long q0), .second, .val (.int p1), .val (.int p2), .val (.int (p1 &&& (3 : Int32))), .val (.long ((p2 % (1024 : Int32)).toInt64)), .second, .unset, .unset, .unset] [(.long (q0 &&& (1024 : Int64)))])) _
            refine XS.lconst X0.here hx rfl (hb hby at_59) ?_
            show Steps p.tables e below (s₁.setTop (mkF m 60 #[.val (.long q0), .second, .val (.int p1), .val (.int p2), .val (.int (p1 &&& (3 : Int32))), .val (.long ((p2 % (1024 : Int32)).toInt64)), .second, .unset, .unset, .unset] [(.long (0 : Int64)), (.long (q0 &&& (1024 : Int64)))])) _
            refine XS.lcmp X0.here hx rfl (hb hby at_60) rfl ?_
            show Steps p.tables e below (s₁.setTop (mkF m 61 #[.val (.long q0), .second, .val (.int p1), .val (.int p2), .val (.int (p1 &&& (3 : Int32))), .val (.long ((p2 % (1024 : Int32)).toInt64)), .second, .unset, .unset, .unset] [(.int (lcmpW (q0 &&& (1024 : Int64)) (0 : Int64)))])) _
            refine XS.ifYes X0.here hx rfl (pc0 := 61) (pc' := 78) rfl (hb hby at_61) rfl ((if0 _ _).trans (teq hc5).1) (by decide) (by decide) ?_
            show Steps p.tables e below (s₁.setTop (mkF m 78 #[.val (.long q0), .second, .val (.int p1), .val (.int p2), .val (.int (p1 &&& (3 : Int32))), .val (.long ((p2 % (1024 : Int32)).toInt64)), .second, .unset, .unset, .unset] [])) _
            refine X0.ldc2Long hx hown (mvT hZ (hw _ (List.mem_of_getElem? (i := 7) rfl))) (g := (mkF m 78 #[.val (.long q0), .second, .val (.int p1), .val (.int p2), .val (.int (p1 &&& (3 : Int32))), .val (.long ((p2 % (1024 : Int32)).toInt64)), .second, .unset, .unset, .unset] [])) rfl (hb hby at_78) _ ?_
            show Steps p.tables e below (s₁.setTop (mkF m 81 #[.val (.long q0), .second, .val (.int p1), .val (.int p2), .val (.int (p1 &&& (3 : Int32))), .val (.long ((p2 % (1024 : Int32)).toInt64)), .second, .unset, .unset, .unset] [(.long (9223372036854775807 : Int64))])) _
            refine XS.lloadN X0.here hx rfl (hb hby at_81) rfl ?_
            show Steps p.tables e below (s₁.setTop (mkF m 82 #[.val (.long q0), .second, .val (.int p1), .val (.int p2), .val (.int (p1 &&& (3 : Int32))), .val (.long ((p2 % (1024 : Int32)).toInt64)), .second, .unset, .unset, .unset] [(.long q0), (.long (9223372036854775807 : Int64))])) _
            refine X0.ldc2Long hx hown (mvT hZ (hw _ (List.mem_of_getElem? (i := 8) rfl))) (g := (mkF m 82 #[.val (.long q0), .second, .val (.int p1), .val (.int p2), .val (.int (p1 &&& (3 : Int32))), .val (.long ((p2 % (1024 : Int32)).toInt64)), .second, .unset, .unset, .unset] [(.long q0), (.long (9223372036854775807 : Int64))])) rfl (hb hby at_82) _ ?_
            show Steps p.tables e below (s₁.setTop (mkF m 85 #[.val (.long q0), .second, .val (.int p1), .val (.int p2), .val (.int (p1 &&& (3 : Int32))), .val (.long ((p2 % (1024 : Int32)).toInt64)), .second, .unset, .unset, .unset] [(.long (1023 : Int64)), (.long q0), (.long (9223372036854775807 : Int64))])) _
            refine XS.land X0.here hx rfl (hb hby at_85) rfl ?_
            show Steps p.tables e below (s₁.setTop (mkF m 86 #[.val (.long q0), .second, .val (.int p1), .val (.int p2), .val (.int (p1 &&& (3 : Int32))), .val (.long ((p2 % (1024 : Int32)).toInt64)), .second, .unset, .unset, .unset] [(.long (q0 &&& (1023 : Int64))), (.long (9223372036854775807 : Int64))])) _
            refine XS.lsub X0.here hx rfl (hb hby at_86) rfl ?_
            show Steps p.tables e below (s₁.setTop (mkF m 87 #[.val (.long q0), .second, .val (.int p1), .val (.int p2), .val (.int (p1 &&& (3 : Int32))), .val (.long ((p2 % (1024 : Int32)).toInt64)), .second, .unset, .unset, .unset] [(.long ((9223372036854775807 : Int64) - (q0 &&& (1023 : Int64))))])) _
            refine XS.lstore X0.here hx rfl (hb hby at_87) rfl (l' := #[.val (.long q0), .second, .val (.int p1), .val (.int p2), .val (.int (p1 &&& (3 : Int32))), .val (.long ((p2 % (1024 : Int32)).toInt64)), .second, .val (.long ((9223372036854775807 : Int64) - (q0 &&& (1023 : Int64)))), .second, .unset]) rfl ?_
            exact kt
          · have hj : (f0_l7_89001 q0 p1 p2) = ((-9223372036854775808 : Int64) + (q0 &&& (1023 : Int64))) := by unfold f0_l7_89001; rw [if_neg hc2, if_neg hc3, if_neg hc4, if_neg hc5]
            rw [hj] at kt
            refine pre1 t ?_
            show Steps p.tables e below (s₁.setTop (mkF m 15 #[.val (.long q0), .second, .val (.int p1), .val (.int p2), .val (.int (p1 &&& (3 : Int32))), .val (.long ((p2 % (1024 : Int32)).toInt64)), .second, .unset, .unset, .unset] [(.int (p1 &&& (3 : Int32)))])) _
            refine XS.ifYes X0.here hx rfl (pc0 := 15) (pc' := 24) rfl (hb hby at_15) rfl ((if0 _ _).trans (feq hc2).2) (by decide) (by decide) ?_
            show Steps p.tables e below (s₁.setTop (mkF m 24 #[.val (.long q0), .second, .val (.int p1), .val (.int p2), .val (.int (p1 &&& (3 : Int32))), .val (.long ((p2 % (1024 : Int32)).toInt64)), .second, .unset, .unset, .unset] [])) _
            refine XS.iload X0.here hx rfl (hb hby at_24) rfl ?_
            show Steps p.tables e below (s₁.setTop (mkF m 26 #[.val (.long q0), .second, .val (.int p1), .val (.int p2), .val (.int (p1 &&& (3 : Int32))), .val (.long ((p2 % (1024 : Int32)).toInt64)), .second, .unset, .unset, .unset] [(.int (p1 &&& (3 : Int32)))])) _
            refine XS.iconst X0.here hx rfl (hb hby at_26) ?_
            show Steps p.tables e below (s₁.setTop (mkF m 27 #[.val (.long q0), .second, .val (.int p1), .val (.int p2), .val (.int (p1 &&& (3 : Int32))), .val (.long ((p2 % (1024 : Int32)).toInt64)), .second, .unset, .unset, .unset] [(.int (1 : Int32)), (.int (p1 &&& (3 : Int32)))])) _
            refine XS.icmpYes X0.here hx rfl (pc0 := 27) (pc' := 37) rfl (hb hby at_27) rfl (feq hc3).2 (by decide) (by decide) ?_
            show Steps p.tables e below (s₁.setTop (mkF m 37 #[.val (.long q0), .second, .val (.int p1), .val (.int p2), .val (.int (p1 &&& (3 : Int32))), .val (.long ((p2 % (1024 : Int32)).toInt64)), .second, .unset, .unset, .unset] [])) _
            refine XS.iload X0.here hx rfl (hb hby at_37) rfl ?_
            show Steps p.tables e below (s₁.setTop (mkF m 39 #[.val (.long q0), .second, .val (.int p1), .val (.int p2), .val (.int (p1 &&& (3 : Int32))), .val (.long ((p2 % (1024 : Int32)).toInt64)), .second, .unset, .unset, .unset] [(.int (p1 &&& (3 : Int32)))])) _
            refine XS.iconst X0.here hx rfl (hb hby at_39) ?_
            show Steps p.tables e below (s₁.setTop (mkF m 40 #[.val (.long q0), .second, .val (.int p1), .val (.int p2), .val (.int (p1 &&& (3 : Int32))), .val (.long ((p2 % (1024 : Int32)).toInt64)), .second, .unset, .unset, .unset] [(.int (2 : Int32)), (.int (p1 &&& (3 : Int32)))])) _
            refine XS.icmpYes X0.here hx rfl (pc0 := 40) (pc' := 54) rfl (hb hby at_40) rfl (feq hc4).2 (by decide) (by decide) ?_
            show Steps p.tables e below (s₁.setTop (mkF m 54 #[.val (.long q0), .second, .val (.int p1), .val (.int p2), .val (.int (p1 &&& (3 : Int32))), .val (.long ((p2 % (1024 : Int32)).toInt64)), .second, .unset, .unset, .unset] [])) _
            refine XS.lloadN X0.here hx rfl (hb hby at_54) rfl ?_
            show Steps p.tables e below (s₁.setTop (mkF m 55 #[.val (.long q0), .second, .val (.int p1), .val (.int p2), .val (.int (p1 &&& (3 : Int32))), .val (.long ((p2 % (1024 : Int32)).toInt64)), .second, .unset, .unset, .unset] [(.long q0)])) _
            refine X0.ldc2Long hx hown (mvT hZ (hw _ (List.mem_of_getElem? (i := 6) rfl))) (g := (mkF m 55 #[.val (.long q0), .second, .val (.int p1), .val (.int p2), .val (.int (p1 &&& (3 : Int32))), .val (.long ((p2 % (1024 : Int32)).toInt64)), .second, .unset, .unset, .unset] [(.long q0)])) rfl (hb hby at_55) _ ?_
            show Steps p.tables e below (s₁.setTop (mkF m 58 #[.val (.long q0), .second, .val (.int p1), .val (.int p2), .val (.int (p1 &&& (3 : Int32))), .val (.long ((p2 % (1024 : Int32)).toInt64)), .second, .unset, .unset, .unset] [(.long (1024 : Int64)), (.long q0)])) _
            refine XS.land X0.here hx rfl (hb hby at_58) rfl ?_
            show Steps p.tables e below (s₁.setTop (mkF m 59 #[.val (.long q0), .second, .val (.int p1), .val (.int p2), .val (.int (p1 &&& (3 : Int32))), .val (.long ((p2 % (1024 : Int32)).toInt64)), .second, .unset, .unset, .unset] [(.long (q0 &&& (1024 : Int64)))])) _
            refine XS.lconst X0.here hx rfl (hb hby at_59) ?_
            show Steps p.tables e below (s₁.setTop (mkF m 60 #[.val (.long q0), .second, .val (.int p1), .val (.int p2), .val (.int (p1 &&& (3 : Int32))), .val (.long ((p2 % (1024 : Int32)).toInt64)), .second, .unset, .unset, .unset] [(.long (0 : Int64)), (.long (q0 &&& (1024 : Int64)))])) _
            refine XS.lcmp X0.here hx rfl (hb hby at_60) rfl ?_
            show Steps p.tables e below (s₁.setTop (mkF m 61 #[.val (.long q0), .second, .val (.int p1), .val (.int p2), .val (.int (p1 &&& (3 : Int32))), .val (.long ((p2 % (1024 : Int32)).toInt64)), .second, .unset, .unset, .unset] [(.int (lcmpW (q0 &&& (1024 : Int64)) (0 : Int64)))])) _
            refine XS.ifNo X0.here hx rfl (hb hby at_61) rfl ((if0 _ _).trans (feq hc5).1) ?_
            show Steps p.tables e below (s₁.setTop (mkF m 64 #[.val (.long q0), .second, .val (.int p1), .val (.int p2), .val (.int (p1 &&& (3 : Int32))), .val (.long ((p2 % (1024 : Int32)).toInt64)), .second, .unset, .unset, .unset] [])) _
            refine X0.ldc2Long hx hown (mvT hZ (hw _ (List.mem_of_getElem? (i := 9) rfl))) (g := (mkF m 64 #[.val (.long q0), .second, .val (.int p1), .val (.int p2), .val (.int (p1 &&& (3 : Int32))), .val (.long ((p2 % (1024 : Int32)).toInt64)), .second, .unset, .unset, .unset] [])) rfl (hb hby at_64) _ ?_
            show Steps p.tables e below (s₁.setTop (mkF m 67 #[.val (.long q0), .second, .val (.int p1), .val (.int p2), .val (.int (p1 &&& (3 : Int32))), .val (.long ((p2 % (1024 : Int32)).toInt64)), .second, .unset, .unset, .unset] [(.long (-9223372036854775808 : Int64))])) _
            refine XS.lloadN X0.here hx rfl (hb hby at_67) rfl ?_
            show Steps p.tables e below (s₁.setTop (mkF m 68 #[.val (.long q0), .second, .val (.int p1), .val (.int p2), .val (.int (p1 &&& (3 : Int32))), .val (.long ((p2 % (1024 : Int32)).toInt64)), .second, .unset, .unset, .unset] [(.long q0), (.long (-9223372036854775808 : Int64))])) _
            refine X0.ldc2Long hx hown (mvT hZ (hw _ (List.mem_of_getElem? (i := 8) rfl))) (g := (mkF m 68 #[.val (.long q0), .second, .val (.int p1), .val (.int p2), .val (.int (p1 &&& (3 : Int32))), .val (.long ((p2 % (1024 : Int32)).toInt64)), .second, .unset, .unset, .unset] [(.long q0), (.long (-9223372036854775808 : Int64))])) rfl (hb hby at_68) _ ?_
            show Steps p.tables e below (s₁.setTop (mkF m 71 #[.val (.long q0), .second, .val (.int p1), .val (.int p2), .val (.int (p1 &&& (3 : Int32))), .val (.long ((p2 % (1024 : Int32)).toInt64)), .second, .unset, .unset, .unset] [(.long (1023 : Int64)), (.long q0), (.long (-9223372036854775808 : Int64))])) _
            refine XS.land X0.here hx rfl (hb hby at_71) rfl ?_
            show Steps p.tables e below (s₁.setTop (mkF m 72 #[.val (.long q0), .second, .val (.int p1), .val (.int p2), .val (.int (p1 &&& (3 : Int32))), .val (.long ((p2 % (1024 : Int32)).toInt64)), .second, .unset, .unset, .unset] [(.long (q0 &&& (1023 : Int64))), (.long (-9223372036854775808 : Int64))])) _
            refine XS.ladd X0.here hx rfl (hb hby at_72) rfl ?_
            show Steps p.tables e below (s₁.setTop (mkF m 73 #[.val (.long q0), .second, .val (.int p1), .val (.int p2), .val (.int (p1 &&& (3 : Int32))), .val (.long ((p2 % (1024 : Int32)).toInt64)), .second, .unset, .unset, .unset] [(.long ((-9223372036854775808 : Int64) + (q0 &&& (1023 : Int64))))])) _
            refine XS.lstore X0.here hx rfl (hb hby at_73) rfl (l' := #[.val (.long q0), .second, .val (.int p1), .val (.int p2), .val (.int (p1 &&& (3 : Int32))), .val (.long ((p2 % (1024 : Int32)).toInt64)), .second, .val (.long ((-9223372036854775808 : Int64) + (q0 &&& (1023 : Int64)))), .second, .unset]) rfl ?_
            show Steps p.tables e below (s₁.setTop (mkF m 75 #[.val (.long q0), .second, .val (.int p1), .val (.int p2), .val (.int (p1 &&& (3 : Int32))), .val (.long ((p2 % (1024 : Int32)).toInt64)), .second, .val (.long ((-9223372036854775808 : Int64) + (q0 &&& (1023 : Int64)))), .second, .unset] [])) _
            refine XS.goto X0.here hx rfl (pc0 := 75) (pc' := 89) rfl (hb hby at_75) (by decide) (by decide) ?_
            exact kt
  have pre7 : ∀ t, Steps p.tables e below (s₁.setTop (mkF m 96 #[.val (.long q0), .second, .val (.int p1), .val (.int p2), .val (.int (p1 &&& (3 : Int32))), .val (.long ((p2 % (1024 : Int32)).toInt64)), .second, .val (.long (f0_l7_89001 q0 p1 p2)), .second, .unset] [(.int (lcmpW (f0_e1 q0 p1 p2) (0 : Int64)))])) t → Steps p.tables e below (s₁.setTop (entryFrame m #[(.long q0), (.int p1), (.int p2)] maxLocals)) t := fun t kt => pre6 t (by
    show Steps p.tables e below (s₁.setTop (mkF m 89 #[.val (.long q0), .second, .val (.int p1), .val (.int p2), .val (.int (p1 &&& (3 : Int32))), .val (.long ((p2 % (1024 : Int32)).toInt64)), .second, .val (.long (f0_l7_89001 q0 p1 p2)), .second, .unset] [])) _
    refine XS.lload X0.here hx rfl (hb hby at_89) rfl ?_
    show Steps p.tables e below (s₁.setTop (mkF m 91 #[.val (.long q0), .second, .val (.int p1), .val (.int p2), .val (.int (p1 &&& (3 : Int32))), .val (.long ((p2 % (1024 : Int32)).toInt64)), .second, .val (.long (f0_l7_89001 q0 p1 p2)), .second, .unset] [(.long (f0_l7_89001 q0 p1 p2))])) _
    refine XS.bipush X0.here hx rfl (hb hby at_91) ?_
    show Steps p.tables e below (s₁.setTop (mkF m 93 #[.val (.long q0), .second, .val (.int p1), .val (.int p2), .val (.int (p1 &&& (3 : Int32))), .val (.long ((p2 % (1024 : Int32)).toInt64)), .second, .val (.long (f0_l7_89001 q0 p1 p2)), .second, .unset] [(.int (53 : Int32)), (.long (f0_l7_89001 q0 p1 p2))])) _
    refine XS.lushr X0.here hx rfl (hb hby at_93) rfl ?_
    show Steps p.tables e below (s₁.setTop (mkF m 94 #[.val (.long q0), .second, .val (.int p1), .val (.int p2), .val (.int (p1 &&& (3 : Int32))), .val (.long ((p2 % (1024 : Int32)).toInt64)), .second, .val (.long (f0_l7_89001 q0 p1 p2)), .second, .unset] [(.long (f0_e1 q0 p1 p2))])) _
    refine XS.lconst X0.here hx rfl (hb hby at_94) ?_
    show Steps p.tables e below (s₁.setTop (mkF m 95 #[.val (.long q0), .second, .val (.int p1), .val (.int p2), .val (.int (p1 &&& (3 : Int32))), .val (.long ((p2 % (1024 : Int32)).toInt64)), .second, .val (.long (f0_l7_89001 q0 p1 p2)), .second, .unset] [(.long (0 : Int64)), (.long (f0_e1 q0 p1 p2))])) _
    refine XS.lcmp X0.here hx rfl (hb hby at_95) rfl ?_
    exact kt)
  have pre9 : ∀ t, Steps p.tables e below (s₁.setTop (mkF m 104 #[.val (.long q0), .second, .val (.int p1), .val (.int p2), .val (.int (p1 &&& (3 : Int32))), .val (.long ((p2 % (1024 : Int32)).toInt64)), .second, .val (.long (f0_l7_89001 q0 p1 p2)), .second, .unset] [(.int (f0_s0_104002 q0 p1 p2))])) t → Steps p.tables e below (s₁.setTop (entryFrame m #[(.long q0), (.int p1), (.int p2)] maxLocals)) t := by
    intro t kt
    by_cases hc8 : (lcmpW (f0_e1 q0 p1 p2) (0 : Int64)) = (0 : Int32)
    · have hj : (f0_s0_104002 q0 p1 p2) = (1 : Int32) := by unfold f0_s0_104002; rw [if_pos hc8]
      rw [hj] at kt
      refine pre7 t ?_
      show Steps p.tables e below (s₁.setTop (mkF m 96 #[.val (.long q0), .second, .val (.int p1), .val (.int p2), .val (.int (p1 &&& (3 : Int32))), .val (.long ((p2 % (1024 : Int32)).toInt64)), .second, .val (.long (f0_l7_89001 q0 p1 p2)), .second, .unset] [(.int (lcmpW (f0_e1 q0 p1 p2) (0 : Int64)))])) _
      refine XS.ifNo X0.here hx rfl (hb hby at_96) rfl ((if0 _ _).trans (teq hc8).2) ?_
      show Steps p.tables e below (s₁.setTop (mkF m 99 #[.val (.long q0), .second, .val (.int p1), .val (.int p2), .val (.int (p1 &&& (3 : Int32))), .val (.long ((p2 % (1024 : Int32)).toInt64)), .second, .val (.long (f0_l7_89001 q0 p1 p2)), .second, .unset] [])) _
      refine XS.iconst X0.here hx rfl (hb hby at_99) ?_
      show Steps p.tables e below (s₁.setTop (mkF m 100 #[.val (.long q0), .second, .val (.int p1), .val (.int p2), .val (.int (p1 &&& (3 : Int32))), .val (.long ((p2 % (1024 : Int32)).toInt64)), .second, .val (.long (f0_l7_89001 q0 p1 p2)), .second, .unset] [(.int (1 : Int32))])) _
      refine XS.goto X0.here hx rfl (pc0 := 100) (pc' := 104) rfl (hb hby at_100) (by decide) (by decide) ?_
      exact kt
    · have hj : (f0_s0_104002 q0 p1 p2) = (0 : Int32) := by unfold f0_s0_104002; rw [if_neg hc8]
      rw [hj] at kt
      refine pre7 t ?_
      show Steps p.tables e below (s₁.setTop (mkF m 96 #[.val (.long q0), .second, .val (.int p1), .val (.int p2), .val (.int (p1 &&& (3 : Int32))), .val (.long ((p2 % (1024 : Int32)).toInt64)), .second, .val (.long (f0_l7_89001 q0 p1 p2)), .second, .unset] [(.int (lcmpW (f0_e1 q0 p1 p2) (0 : Int64)))])) _
      refine XS.ifYes X0.here hx rfl (pc0 := 96) (pc' := 103) rfl (hb hby at_96) rfl ((if0 _ _).trans (feq hc8).2) (by decide) (by decide) ?_
      show Steps p.tables e below (s₁.setTop (mkF m 103 #[.val (.long q0), .second, .val (.int p1), .val (.int p2), .val (.int (p1 &&& (3 : Int32))), .val (.long ((p2 % (1024 : Int32)).toInt64)), .second, .val (.long (f0_l7_89001 q0 p1 p2)), .second, .unset] [])) _
      refine XS.iconst X0.here hx rfl (hb hby at_103) ?_
      exact kt
  obtain ⟨_, _, ⟨T10, L10, k10, n10⟩, -, X10, ⟨Lc10, hQ10, l10, y10, z10⟩, st10⟩ := Jvm.LawKit.callS X0 hx (y := (⟨"com/example/subscription_engine/subscriptionengine/SafeIntegers", "inRange", "(J)Z"⟩ : MethodName)) hown (mvT hZ (hw _ (List.mem_of_getElem? (i := 1) rfl))) (mvT hZ (hw _ (List.mem_of_getElem? (i := 2) rfl))) (mvT hZ (hw _ (List.mem_of_getElem? (i := 3) rfl))) (mvT hZ (hw _ (List.mem_of_getElem? (i := 4) rfl))) (by decide) (backOf (W := 0) (rm1 l Z a0 hw [] (f0_l7_89001 q0 p1 p2) h0 n0 Z0) hZ (hw _ (List.mem_of_getElem? (i := 4) rfl)) (hw _ (List.mem_of_getElem? (i := 3) rfl)) (by decide) (by decide)) (g := (mkF m 108 #[.val (.long q0), .second, .val (.int p1), .val (.int p2), .val (.int (p1 &&& (3 : Int32))), .val (.long ((p2 % (1024 : Int32)).toInt64)), .second, .val (.long (f0_l7_89001 q0 p1 p2)), .second, .val (.int (f0_s0_104002 q0 p1 p2))] [(.long (f0_l7_89001 q0 p1 p2))])) rfl (by rw [hml]; rfl) (argsL := [(.long (f0_l7_89001 q0 p1 p2))]) (rest := []) (lenOf pd_0 rfl) rfl (by show 2 * 0 + _ ≤ _; exact Nat.le_of_eq rfl) (hb hby at_108) (fun _ _ => ⟨rfl, e0, (by decide : 0 + 0 ≤ _), (by decide : 0 + 0 ≤ _)⟩)
  dsimp only [Pt.U, Pt.locs, Pt.cells, Pt.slots] at X10 l10 y10 z10 st10 hQ10
  subst l10 y10 z10
  obtain ⟨rfl, N10q, e10⟩ := hQ10
  have N10 := Fr.app N0 N10q
  have pre11 : ∀ t, Steps p.tables e below (T10.setTop (mkF m 113 #[.val (.long q0), .second, .val (.int p1), .val (.int p2), .val (.int (p1 &&& (3 : Int32))), .val (.long ((p2 % (1024 : Int32)).toInt64)), .second, .val (.long (f0_l7_89001 q0 p1 p2)), .second, .val (.int (f0_s0_104002 q0 p1 p2))] [(.int (f0_s0_104002 q0 p1 p2)), (.int (f1 (f0_l7_89001 q0 p1 p2)))])) t → Steps p.tables e below (s₁.setTop (entryFrame m #[(.long q0), (.int p1), (.int p2)] maxLocals)) t := fun t kt => pre9 t (by
    show Steps p.tables e below (s₁.setTop (mkF m 104 #[.val (.long q0), .second, .val (.int p1), .val (.int p2), .val (.int (p1 &&& (3 : Int32))), .val (.long ((p2 % (1024 : Int32)).toInt64)), .second, .val (.long (f0_l7_89001 q0 p1 p2)), .second, .unset] [(.int (f0_s0_104002 q0 p1 p2))])) _
    refine XS.istore X0.here hx rfl (hb hby at_104) rfl (l' := #[.val (.long q0), .second, .val (.int p1), .val (.int p2), .val (.int (p1 &&& (3 : Int32))), .val (.long ((p2 % (1024 : Int32)).toInt64)), .second, .val (.long (f0_l7_89001 q0 p1 p2)), .second, .val (.int (f0_s0_104002 q0 p1 p2))]) rfl ?_
    show Steps p.tables e below (s₁.setTop (mkF m 106 #[.val (.long q0), .second, .val (.int p1), .val (.int p2), .val (.int (p1 &&& (3 : Int32))), .val (.long ((p2 % (1024 : Int32)).toInt64)), .second, .val (.long (f0_l7_89001 q0 p1 p2)), .second, .val (.int (f0_s0_104002 q0 p1 p2))] [])) _
    refine XS.lload X0.here hx rfl (hb hby at_106) rfl ?_
    show Steps p.tables e below (s₁.setTop (mkF m 108 #[.val (.long q0), .second, .val (.int p1), .val (.int p2), .val (.int (p1 &&& (3 : Int32))), .val (.long ((p2 % (1024 : Int32)).toInt64)), .second, .val (.long (f0_l7_89001 q0 p1 p2)), .second, .val (.int (f0_s0_104002 q0 p1 p2))] [(.long (f0_l7_89001 q0 p1 p2))])) _
    refine st10 _ ?_
    show Steps p.tables e below (T10.setTop (mkF m 111 #[.val (.long q0), .second, .val (.int p1), .val (.int p2), .val (.int (p1 &&& (3 : Int32))), .val (.long ((p2 % (1024 : Int32)).toInt64)), .second, .val (.long (f0_l7_89001 q0 p1 p2)), .second, .val (.int (f0_s0_104002 q0 p1 p2))] [(.int (f1 (f0_l7_89001 q0 p1 p2)))])) _
    refine XS.iload X10.here hx rfl (hb hby at_111) rfl ?_
    exact kt)
  by_cases hc12 : (f1 (f0_l7_89001 q0 p1 p2)) = (f0_s0_104002 q0 p1 p2)
  · obtain ⟨fs, hr, hrun, hended, hW, hsame⟩ := X10.leave (v := some (.int (1 : Int32))) (fun h => by rw [Bd.returns] at h; cases h)
    refine ⟨_, _, pre11 _ ?_, hrun, hended, _, _, rfl, ?_, ⟨_, rfl⟩, hW, hsame.mono (by decide) (by decide)⟩
    · show Steps p.tables e below (T10.setTop (mkF m 113 #[.val (.long q0), .second, .val (.int p1), .val (.int p2), .val (.int (p1 &&& (3 : Int32))), .val (.long ((p2 % (1024 : Int32)).toInt64)), .second, .val (.long (f0_l7_89001 q0 p1 p2)), .second, .val (.int (f0_s0_104002 q0 p1 p2))] [(.int (f0_s0_104002 q0 p1 p2)), (.int (f1 (f0_l7_89001 q0 p1 p2)))])) _
      refine XS.icmpNo X10.here hx rfl (hb hby at_113) rfl (teq hc12).2 ?_
      show Steps p.tables e below (T10.setTop (mkF m 116 #[.val (.long q0), .second, .val (.int p1), .val (.int p2), .val (.int (p1 &&& (3 : Int32))), .val (.long ((p2 % (1024 : Int32)).toInt64)), .second, .val (.long (f0_l7_89001 q0 p1 p2)), .second, .val (.int (f0_s0_104002 q0 p1 p2))] [])) _
      refine XS.iconst X10.here hx rfl (hb hby at_116) ?_
      show Steps p.tables e below (T10.setTop (mkF m 117 #[.val (.long q0), .second, .val (.int p1), .val (.int p2), .val (.int (p1 &&& (3 : Int32))), .val (.long ((p2 % (1024 : Int32)).toInt64)), .second, .val (.long (f0_l7_89001 q0 p1 p2)), .second, .val (.int (f0_s0_104002 q0 p1 p2))] [(.int (1 : Int32))])) _
      refine XS.goto X10.here hx rfl (pc0 := 117) (pc' := 121) rfl (hb hby at_117) (by decide) (by decide) ?_
      show Steps p.tables e below (T10.setTop (mkF m 121 #[.val (.long q0), .second, .val (.int p1), .val (.int p2), .val (.int (p1 &&& (3 : Int32))), .val (.long ((p2 % (1024 : Int32)).toInt64)), .second, .val (.long (f0_l7_89001 q0 p1 p2)), .second, .val (.int (f0_s0_104002 q0 p1 p2))] [(.int (1 : Int32))])) _
      exact retN X10 hx (t := .boolean) Bd.returns (by simp) (hb hby at_121) hr
    · show Q0 Z q0 p1 p2 h0 n0 _ T10.heap _
      rw [e10]
      exact ⟨by rw [show f0 q0 p1 p2 = (1 : Int32) from by unfold f0; rw [if_pos hc12]], N10⟩
  · obtain ⟨fs, hr, hrun, hended, hW, hsame⟩ := X10.leave (v := some (.int (0 : Int32))) (fun h => by rw [Bd.returns] at h; cases h)
    refine ⟨_, _, pre11 _ ?_, hrun, hended, _, _, rfl, ?_, ⟨_, rfl⟩, hW, hsame.mono (by decide) (by decide)⟩
    · show Steps p.tables e below (T10.setTop (mkF m 113 #[.val (.long q0), .second, .val (.int p1), .val (.int p2), .val (.int (p1 &&& (3 : Int32))), .val (.long ((p2 % (1024 : Int32)).toInt64)), .second, .val (.long (f0_l7_89001 q0 p1 p2)), .second, .val (.int (f0_s0_104002 q0 p1 p2))] [(.int (f0_s0_104002 q0 p1 p2)), (.int (f1 (f0_l7_89001 q0 p1 p2)))])) _
      refine XS.icmpYes X10.here hx rfl (pc0 := 113) (pc' := 120) rfl (hb hby at_113) rfl (feq hc12).2 (by decide) (by decide) ?_
      show Steps p.tables e below (T10.setTop (mkF m 120 #[.val (.long q0), .second, .val (.int p1), .val (.int p2), .val (.int (p1 &&& (3 : Int32))), .val (.long ((p2 % (1024 : Int32)).toInt64)), .second, .val (.long (f0_l7_89001 q0 p1 p2)), .second, .val (.int (f0_s0_104002 q0 p1 p2))] [])) _
      refine XS.iconst X10.here hx rfl (hb hby at_120) ?_
      show Steps p.tables e below (T10.setTop (mkF m 121 #[.val (.long q0), .second, .val (.int p1), .val (.int p2), .val (.int (p1 &&& (3 : Int32))), .val (.long ((p2 % (1024 : Int32)).toInt64)), .second, .val (.long (f0_l7_89001 q0 p1 p2)), .second, .val (.int (f0_s0_104002 q0 p1 p2))] [(.int (0 : Int32))])) _
      exact retN X10 hx (t := .boolean) Bd.returns (by simp) (hb hby at_121) hr
    · show Q0 Z q0 p1 p2 h0 n0 _ T10.heap _
      rw [e10]
      exact ⟨by rw [show f0 q0 p1 p2 = (0 : Int32) from by unfold f0; rw [if_neg hc12]], N10⟩
theorem own_law (q0 : Int64) (p1 p2 : Int32) : f0 q0 p1 p2 = 1 := by
  unfold f0 f0_s0_104002 f0_e1
  generalize hv : f0_l7_89001 q0 p1 p2 = v
  unfold f1
  simp only [lw_lt, lw_eq, lw_gt]
  have e := c_lushr v 53 53 rfl (by decide)
  have e0 : (0 : Int64).toInt = 0 := rfl
  have eM : (9007199254740991 : Int64).toInt = 9007199254740991 := rfl
  have r := rng64 v
  have e2 : ((2 ^ 53 : Nat) : Int) = 9007199254740992 := by decide
  rw [e2] at e
  generalize (v.toUInt64 >>> ((53 : Int32) &&& 0x3f).toInt64.toUInt64).toInt64 = u at e ⊢
  by_cases a : v < 0
  · have a' := Int64.lt_iff_toInt_lt.mp a
    have n : ¬ u = 0 := fun q => by rw [q] at e; omega
    simp [a, n]
  · have a' : ¬ v.toInt < (0 : Int64).toInt := fun q => a (Int64.lt_iff_toInt_lt.mpr q)
    by_cases b : (9007199254740991 : Int64) < v
    · have b' := Int64.lt_iff_toInt_lt.mp b
      have n : ¬ u = 0 := fun q => by rw [q] at e; omega
      simp [a, b, n]
    · have b' : ¬ (9007199254740991 : Int64).toInt < v.toInt := fun q => b (Int64.lt_iff_toInt_lt.mpr q)
      have n : u = 0 := Int64.toInt_inj.mp (by omega)
      simp [a, b, n]
set_option maxRecDepth 65536 in
set_option maxHeartbeats 40000000 in
theorem comes_1 {Post : Tables → Env → Array Value → State → Outcome → State → Prop} (hpost : ∀ tb e args s v u, (limb_1_1.after args s (.returned v) u = true ∧ limb_1_2.after args s (.returned v) u = true ∧ True) → FrameEnd s (.returned v) u (Jvm.fieldLocs frame_1_writes args s ++ Jvm.arrayLocs frame_1_arrays args s ++ Jvm.staticLocs frame_1_statics s) 0 0 → Post tb e args s (.returned v) u) :
    ArmFor flags0 classFile x code maxLocals ret World_1 tables_1 room_1 Calls_1 rest_1 Pre_1 Post := by
  intro l hfl _ _ p e ha hc hk s m args below hf hA hF happ hP
  obtain ⟨hcalls, hrest, hpre⟩ := hP
  obtain ⟨-, -, -, hnamed, -, -, -, hat⟩ := (Spec.applies_iff hf).mp happ
  obtain ⟨hg, hn⟩ := and_e (Cond.before_iff.mp (show (Jvm.Cond.and given_1 narrow_1).before args s = true from hpre))
  obtain ⟨g1, g2⟩ := and_e hg
  obtain ⟨g3, g4⟩ := and_e g2
  obtain ⟨g5, g6⟩ := and_e g4
  obtain ⟨w0, w1, w2, rfl⟩ : ∃ w0 w1 w2 : Value, args = #[w0, w1, w2] := by
    have hs : args.size = 3 := by simpa [Cond.value, given_1] using g1
    obtain ⟨L⟩ := args
    match L, hs with
    | [w0, w1, w2], _ => exact ⟨w0, w1, w2, rfl⟩
  have hw := fun d (hd : d ∈ tables_1) => atoms_spec (ws := Jvm.Cond.code x code maxLocals ret :: tables_1) hat d (List.mem_cons_of_mem _ hd)
  have hfit : Fit s := fun {y c} hc i hi => by
    obtain ⟨ha, rfl⟩ := Array.getElem?_eq_some_iff.mp hc
    have q := List.all_eq_true.mp ((Array.all_eq_true_iff_forall_mem.mp hF) _ (Array.getElem_mem ha)) i (List.mem_range.mpr hi)
    simpa [Array.getElem?_eq_getElem hi] using q
  obtain ⟨i0, ei0⟩ := isL_v g3
  obtain rfl : w0 = (.long i0) := Option.some.inj ei0
  obtain ⟨i1, ei1⟩ := is_v g5
  obtain rfl : w1 = (.int i1) := Option.some.inj ei1
  obtain ⟨i2, ei2⟩ := is_v g6
  obtain rfl : w2 = (.int i2) := Option.some.inj ei2
  obtain ⟨n, o, h1, h2, h3, _, L, rfl, ⟨rfl, N⟩, hq⟩ := rm0 l s _ hw tables_1 i0 i1 i2 s.heap s.heap.size (Nat.le_refl _) p e ha hc hk s m _ below hf ((Spec.applies_iff_loose hf).mp happ).1 ⟨rfl, State.Warmed39.refl s, rfl⟩ trivial
  refine ⟨n, _, h1, h2, h3, hpost _ _ _ _ _ _ ⟨Cond.after_iff.mpr rfl, Cond.after_iff.mpr (eq_i res_at (Term.int_eval (1)) (by rw [own_law i0 i1 i2])), trivial⟩ ⟨hq.1, hq.2.1, (hq.2.2.sift fun y hy => Or.inr (N y hy)).mono (by decide) (by decide)⟩⟩
theorem main_1_1 : Claimed_1_1 := comes_1 fun _ _ _ _ _ _ h hF => ⟨h.1, hF⟩
theorem main_1_2 : Claimed_1_2 := comes_1 fun _ _ _ _ _ _ h hF => ⟨h.2.1, hF⟩
end Jvm.Pilot.@@N@@
namespace Jvm.Pilot.@@N@@
open Jvm Jvm.ClassFile Sem Op Lib Jvm.Free Jvm.Stand Jvm.Pilot.@@N@@.Jvm.D
/-! MADE BY PROGRAM (witnessworld.py) out of the Statement's table words and the real class files: 9 classes; the members and pool entries that the words name. The judged class is class 1, her method 1. -/
namespace start1
open Jvm.ClassFile
def u (s : String) : CpInfo := .utf8 (stringToUtf16 s)
/-- a pool by its gaps: so many unusable entries, then the entry; so many at the end -/
def gap : Nat → List CpInfo → List CpInfo
  | 0, r => r
  | n + 1, r => .unusable :: gap n r
def poolList (es : List (Nat × CpInfo)) (last : Nat) : List CpInfo := es.foldr (fun e r => gap e.1 (e.2 :: r)) (gap last [])
def pool (es : List (Nat × CpInfo)) (last : Nat) : Array CpInfo := ⟨poolList es last⟩
def fileOf (pool : Array CpInfo) (this : Nat) (attrs : Array Attribute := #[]) (ms : Array MethodInfo := #[]) (fl : Nat := 33) (sup : Nat := 0) (ifs : Array Nat := #[]) (fds : Array FieldInfo := #[]) : ClassFile where
  minorVersion := 0
  majorVersion := 65
  constantPool := pool
  accessFlags := fl
  thisClass := this
  superClass := sup
  interfaces := ifs
  fields := fds
  methods := ms
  attributes := attrs
def plain (name : String) (sup : Option ClassId) : Class where
  name := name
  kind := .ordinary
  loader := none
  accessFlags := 33
  super := sup
  interfaces := #[]
  cf := none
  fields := #[]
  methods := #[]
  instanceTypes := #[]
  staticTypes := #[]
  resolved := #[]
  callSites := []
  init := .initialized
  statics := none
  mirror := none

def pool0 : Array CpInfo := pool [(5, u "<init>"), (0, u "()V"), (1, .class_ 10), (1, u "java/lang/Object")] 113

def k0m0 : Method := { name := "<init>", desc := "()V", sig := { parameters := [], returnType := none }, accessFlags := 1, code := none }
/-- java/lang/Object -/
def k0 : Class := { plain "java/lang/Object" none with
  accessFlags := 33
  interfaces := #[]
  cf := some (fileOf pool0 8 #[] #[{ accessFlags := 1, nameIndex := 5, descriptorIndex := 6, attributes := #[] }] 33 0 #[] #[])
  fields := #[]
  methods := #[k0m0]
  instanceTypes := #[]
  staticTypes := #[]
  resolved := Array.replicate 124 none
  statics := none }

def pool1 : Array CpInfo := pool [(2, .class_ 4), (1, u "java/lang/Object"), (0, u "<init>"), (0, u "()V"), (0, .long 9007199254740991), (1, .long 1024), (3, .long 9223372036854775808), (1, .long 1023), (1, .long 9223372036854775807), (1, .methodref 20 21), (0, .class_ 22), (0, .nameAndType 23 24), (0, u "com/example/subscription_engine/subscriptionengine/SafeIntegers"), (0, u "inRange"), (0, u "(J)Z"), (0, .class_ 26), (0, u "com/example/subscription_engine/subscriptionengine/SafeIntegersInRangePinLaw"), (2, u "law"), (0, u "(JII)Z")] 3

def k1m0 : Method := { name := "<init>", desc := "()V", sig := { parameters := [], returnType := none }, accessFlags := 2, code := none }
def k1c1 : Code := { maxStack := 6, maxLocals := 10, code := code, exceptionTable := #[], attributes := #[] }
def k1m1 : Method := { name := "law", desc := "(JII)Z", sig := { parameters := [.long, .int, .int], returnType := some .boolean }, accessFlags := 9, code := some k1c1 }
/-- com/example/subscription_engine/subscriptionengine/SafeIntegersInRangePinLaw -/
def k1 : Class := { plain "com/example/subscription_engine/subscriptionengine/SafeIntegersInRangePinLaw" (some 0) with
  accessFlags := 49
  interfaces := #[]
  cf := some (fileOf pool1 25 #[] #[{ accessFlags := 2, nameIndex := 5, descriptorIndex := 6, attributes := #[] }, { accessFlags := 9, nameIndex := 29, descriptorIndex := 30, attributes := #[] }] 49 2 #[] #[])
  fields := #[]
  methods := #[k1m0, k1m1]
  instanceTypes := #[]
  staticTypes := #[]
  resolved := Array.replicate 34 none
  statics := none }

def pool2 : Array CpInfo := pool [(2, .class_ 4), (1, u "java/lang/Object"), (0, u "<init>"), (0, u "()V"), (0, .class_ 8), (0, u "com/example/subscription_engine/subscriptionengine/SafeIntegers"), (0, .long 9007199254740991), (24, u "inRange"), (0, u "(J)Z"), (6, u "MAX"), (0, u "J")] 26

def k2m0 : Method := { name := "<init>", desc := "()V", sig := { parameters := [], returnType := none }, accessFlags := 2, code := none }
def k2c1 : Code := { maxStack := 4, maxLocals := 2, code := prog_3_method_2_code, exceptionTable := #[], attributes := #[] }
def k2m1 : Method := { name := "inRange", desc := "(J)Z", sig := { parameters := [.long], returnType := some .boolean }, accessFlags := 9, code := some k2c1 }
/-- com/example/subscription_engine/subscriptionengine/SafeIntegers -/
def k2 : Class := { plain "com/example/subscription_engine/subscriptionengine/SafeIntegers" (some 0) with
  accessFlags := 33
  interfaces := #[]
  cf := some (fileOf pool2 7 #[] #[{ accessFlags := 2, nameIndex := 5, descriptorIndex := 6, attributes := #[] }, { accessFlags := 9, nameIndex := 34, descriptorIndex := 35, attributes := #[] }] 33 2 #[] #[{ accessFlags := 25, nameIndex := 42, descriptorIndex := 43, attributes := #[] }])
  fields := #[{ name := "MAX", type := .long, accessFlags := 25, slot := 0, constantValue := 0 }]
  methods := #[k2m0, k2m1]
  instanceTypes := #[]
  staticTypes := #[.long]
  resolved := Array.replicate 70 none
  statics := none }

def pool3 : Array CpInfo := pool [(1, u "java/lang/Cloneable"), (0, .class_ 1), (0, u "java/lang/Object"), (0, .class_ 3)] 3

/-- java/lang/Cloneable -/
def k3 : Class := { plain "java/lang/Cloneable" (some 0) with
  accessFlags := 1537
  interfaces := #[]
  cf := some (fileOf pool3 2 #[] #[] 1537 4 #[] #[])
  fields := #[]
  methods := #[]
  instanceTypes := #[]
  staticTypes := #[]
  resolved := Array.replicate 8 none
  statics := none }

def pool4 : Array CpInfo := pool [(1, u "java/io/Serializable"), (0, .class_ 1), (0, u "java/lang/Object"), (0, .class_ 3)] 3

/-- java/io/Serializable -/
def k4 : Class := { plain "java/io/Serializable" (some 0) with
  accessFlags := 1537
  interfaces := #[]
  cf := some (fileOf pool4 2 #[] #[] 1537 4 #[] #[])
  fields := #[]
  methods := #[]
  instanceTypes := #[]
  staticTypes := #[]
  resolved := Array.replicate 8 none
  statics := none }

/-- the primitive byte -/
def k5 : Class := { plain "byte" none with kind := .primitive 'B', accessFlags := 0x411 }
/-- [B -/
def k6 : Class := { plain "[B" (some 0) with kind := .array 5 .byte, interfaces := #[3, 4], accessFlags := 1041 }

/-- the primitive int -/
def k7 : Class := { plain "int" none with kind := .primitive 'I', accessFlags := 0x411 }
/-- [I -/
def k8 : Class := { plain "[I" (some 0) with kind := .array 7 .int, interfaces := #[3, 4], accessFlags := 1041 }

def heap : Heap := #[]
def classes : Array Class := #[k0, k1, k2, k3, k4, k5, k6, k7, k8]
def interned : List (Array UInt16 × Addr) := []
def slotsUsed : Nat := 0
def theMethod : MethodId := ⟨1, 1⟩
def args0 : Array Value := #[.long 5, .int 5, .int 5]
def aboutOver (below : List Frame) : State where
  vm := { classes := classes, interned := interned.toArray }
  heap := heap
  slotsUsed := slotsUsed
  threads := #[{ frames := .invoking theMethod args0 :: below }]
def below0 : List Frame := [.native { method := ⟨0, 0⟩, args := #[] }]
def about1 : State := aboutOver below0
def p0 : Program := .bare "" "" ""
def e0 : Env := launch0.env 0 0 0
theorem w_frames : about1.frames = Frame.invoking theMethod args0 :: below0 := rfl
set_option maxRecDepth 65536 in
theorem w_args : argsFit about1.vm theMethod args0 = true := by decide +kernel
set_option maxRecDepth 65536 in
theorem w_heap : heapFits about1 = true := by decide +kernel
set_option maxRecDepth 65536 in
theorem w_runnable : about1.curStatus? = some .runnable := by decide +kernel
set_option maxRecDepth 65536 in
theorem w_alone : about1.alone = true := by decide +kernel
set_option maxRecDepth 65536 in
theorem w_named : about1.methodNamed? x = some theMethod := by decide +kernel
set_option maxRecDepth 65536 in
theorem w_hears : about1.hears theMethod below0 = true := by decide +kernel
set_option maxRecDepth 65536 in
theorem w_ripe : about1.ripe theMethod args0 below0 = true := by decide +kernel
theorem w_running : about1.status = .running := rfl
set_option maxRecDepth 65536 in
theorem w_room : about1.hasRoom e0.platform room_1 = true :=
  launch0.hasRoom_least _ room_1 (by decide +kernel) (by decide +kernel) (by decide +kernel) (by decide +kernel) (by decide +kernel) (by decide +kernel)
theorem allAtoms_all (ts : List Jvm.Cond) (a : Array Jvm.Value) (st : Jvm.State) : (allAtoms ts).before a st = ts.all (fun c => c.before a st) := by
  induction ts with
  | nil => rfl
  | cons c t ih =>
    show (Jvm.Cond.and c (allAtoms t)).before a st = _
    rw [Jvm.Cond.before_and, ih, List.all_cons]
def words1 : List Jvm.Cond := Jvm.Cond.code x code maxLocals ret :: tables_1
/-- a 'code' word, met by the world's own term for the bytes: nothing is compared byte by byte -/
theorem code_word {y : MethodName} {bytes : ByteArray} {mx : Nat} {rt : Option FieldType} {a : Array Value} {s : State} {m : MethodId} {meth : Method} {c : Code} (h1 : s.methodNamed? y = some m) (h2 : s.vm.method? m = some meth) (h3 : meth.code = some c) (h4 : c.code = bytes)
    (h5 : (c.maxLocals == mx && c.exceptionTable.isEmpty && decide (c.maxStack ≤ mostOperands) && decide (meth.sig.returnType = rt) && !meth.locks && decide (parseMethodDescriptor y.desc = some meth.sig)) = true) : (Jvm.Cond.code y bytes mx rt).before a s = true := by
  simp only [Bool.and_eq_true, beq_iff_eq, Bool.not_eq_true', decide_eq_true_eq] at h5
  obtain ⟨⟨⟨⟨⟨g1, g2⟩, g3⟩, g4⟩, g5⟩, g6⟩ := h5
  simp [Cond.before, Cond.holds, Cond.value, h1, h2, h3, h4, g1, g2, g3, g4, g5, g6]
def isCode : Jvm.Cond → Bool
  | .code _ _ _ _ => true
  | _ => false
theorem all_split {L : List Jvm.Cond} {P : Jvm.Cond → Bool} (h1 : L.all (fun c => isCode c || P c) = true) (h2 : ∀ c ∈ L.filter isCode, P c = true) : L.all P = true := by
  refine List.all_eq_true.mpr fun c hc => ?_
  have h := List.all_eq_true.mp h1 c hc
  rcases Bool.eq_false_or_eq_true (isCode c) with hi | hi
  · exact h2 c (List.mem_filter.mpr ⟨hc, hi⟩)
  · simpa [hi] using h
set_option maxRecDepth 65536 in
theorem w_c0 : (Jvm.Cond.code x code maxLocals ret).before args0 about1 = true := code_word (m := ⟨1, 1⟩) (meth := k1m1) (c := k1c1) (by decide +kernel) rfl rfl rfl (by decide +kernel)
set_option maxRecDepth 65536 in
theorem w_c1 : (Jvm.Cond.code ({ cls := "com/example/subscription_engine/subscriptionengine/SafeIntegers", name := "inRange", desc := "(J)Z" } : Jvm.MethodName) prog_3_method_2_code (2 : Nat) (Option.some Jvm.ClassFile.FieldType.boolean)).before args0 about1 = true := code_word (m := ⟨2, 1⟩) (meth := k2m1) (c := k2c1) (by decide +kernel) rfl rfl rfl (by decide +kernel)
def codes1 : List Jvm.Cond := [Jvm.Cond.code x code maxLocals ret, Jvm.Cond.code ({ cls := "com/example/subscription_engine/subscriptionengine/SafeIntegers", name := "inRange", desc := "(J)Z" } : Jvm.MethodName) prog_3_method_2_code (2 : Nat) (Option.some Jvm.ClassFile.FieldType.boolean)]
set_option maxRecDepth 65536 in
theorem codes_eq : words1.filter isCode = codes1 := rfl
theorem w_codes : ∀ c ∈ words1.filter isCode, c.before args0 about1 = true := by
  rw [codes_eq]
  intro c hc
  simp only [codes1, List.mem_cons, List.not_mem_nil, or_false] at hc
  rcases hc with rfl | rfl
  · exact w_c0
  · exact w_c1
set_option maxRecDepth 65536 in
theorem w_t1 : words1.all (fun c => isCode c || c.before args0 about1) = true := by decide +kernel
theorem w_tables : (allAtoms (Jvm.Cond.code x code maxLocals ret :: tables_1)).before args0 about1 = true := by
  rw [allAtoms_all]
  show words1.all (fun c => c.before args0 about1) = true
  refine all_split ?_ w_codes
  rw [w_t1]
set_option maxRecDepth 65536 in
theorem w_case : (Jvm.Cond.and given_1 narrow_1).before args0 about1 = true := by decide +kernel
theorem w_applies : (headSpec (Jvm.Cond.code x code maxLocals ret :: tables_1) room_1).applies x e0.platform about1 = true :=
  (Spec.applies_iff w_frames).mpr ⟨w_running, w_runnable, w_alone, w_named, w_hears, w_ripe, w_room, w_tables⟩
theorem atStart : AtStart classFile x code maxLocals ret World_1 tables_1 room_1 Calls_1 rest_1 Pre_1 launch0 p0 e0 about1 theMethod args0 below0 :=
  ⟨lists_1, trivial, launch0.admits_env _ _ _, launch0.least_env, fairChoices_fair.cas, fairChoices_fair.clock, w_frames, w_args, w_heap, w_applies, trivial, trivial, w_case⟩
end start1
theorem witness_1 : WitnessClaimed_1 := ⟨start1.p0, start1.e0, start1.about1, start1.theMethod, start1.args0, start1.below0, start1.atStart⟩
end Jvm.Pilot.@@N@@

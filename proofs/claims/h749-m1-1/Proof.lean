import JvmDerived
import JvmDerived.Pilot.@@N@@Statement
import JvmDerived.Pilot.@@N@@Code
set_option linter.unusedVariables false
set_option linter.unusedSimpArgs false
namespace Jvm.RoadKit
open Sem ClassFile Op Lib Jvm.Stand Jvm.Free Jvm.LawKit
section New
variable {p : Program} {l : Launch} {e : Env} {R : Room} {s : State} {m : MethodId} {args : Array Value} {below : List Frame} {meth : Method} {c : Code} {T : State} {locs : List Loc} {cells slots : Nat}
theorem retI (X : Stand p l e R s m args below meth c T locs cells slots) (hx : p.tables.exec = Jvm.exec) {pc : Nat} {Ls : Array Slot} {z : Int32} {rest : List Value} (hret : meth.sig.returnType = some .int) (hd : decode c.code pc = .ok (.ireturn, 1)) {fs : List Frame}
    (hl : ∀ (f : JFrame) (acts : List Action), f.method = m → f.locked = none → f.entered = [] → (doReturn e (T.setTop f) acts (some (.int z))).1 = T.setFrames fs) : Steps p.tables e below (T.setTop (mkF m pc Ls (.int z :: rest))) (T.setFrames fs) := by
  have hm' : T.vm.method? m = some meth := X.method'
  have hn : narrow .int (.int z) = .int z := rfl
  show Steps p.tables e below (T.setTop { method := m, pc := pc, locals := Ls, stack := _ :: rest, locked := none }) _
  jvm_step X.here [X.here.top, hx, hd, hm', hret, hn]
  first | (intro acts; rw [hl _ acts rfl rfl rfl]) | rw [hl _ _ rfl rfl rfl]
  exact Steps.refl _
end New
end Jvm.RoadKit
namespace Jvm.Pilot.@@N@@
open Jvm Jvm.ClassFile Sem Op Lib Jvm.Free Jvm.Stand Jvm.LawKit Jvm.RoadKit Bundle Jvm.Pilot.@@N@@.Jvm.D
theorem pn_0 : plainName "com/example/sealwax/sealwax/OctetSumOfPinLaw" = true := by first | (simp [plainName, overriddenIn]; done) | decide +kernel
theorem d1_0 : decode method_2_code 0 = .ok (.lload_n 0, 1) := by decide +kernel
theorem d1_1 : decode method_2_code 1 = .ok (.bipush 8, 2) := by decide +kernel
theorem d1_3 : decode method_2_code 3 = .ok (.iload_n 2, 1) := by decide +kernel
theorem d1_4 : decode method_2_code 4 = .ok (.imul, 1) := by decide +kernel
theorem d1_5 : decode method_2_code 5 = .ok (.lushr, 1) := by decide +kernel
theorem d1_6 : decode method_2_code 6 = .ok (.ldc2_w 7, 3) := by decide +kernel
theorem d1_9 : decode method_2_code 9 = .ok (.land, 1) := by decide +kernel
theorem d1_10 : decode method_2_code 10 = .ok (.l2i, 1) := by decide +kernel
theorem d1_11 : decode method_2_code 11 = .ok (.ireturn, 1) := by decide +kernel
theorem ef_1 (m : MethodId) (x0 : Int64) (x1 : Int32) : entryFrame m #[(.long x0), (.int x1)] 3 = mkF m 0 #[.val (.long x0), .second, .val (.int x1)] [] := by first | (simp [entryFrame, mkF, argsToLocals, Value.category]; done) | rfl
def f1_e1 (q0 : Int64) (p1 : Int32) : Int64 := ((q0.toUInt64 >>> (((8 : Int32) * p1) &&& 0x3f).toInt64.toUInt64).toInt64)
def f1 (q0 : Int64) (p1 : Int32) : Int32 := (((f1_e1 q0 p1) &&& (255 : Int64)).toInt32)
def Q1 (Z : State) (q0 : Int64) (p1 : Int32) (h0 : Heap) (n0 : Nat) (v : Option Value) (h : Heap) (L : List Loc) : Prop := v = some (.int (f1 q0 p1)) ∧ Fr n0 L ∧ h = h0
set_option maxRecDepth 65536 in
set_option maxHeartbeats 40000000 in
theorem rm1 (l : Launch) (Z : State) (a0 : Array Value) (hw : ∀ d ∈ tables_1, d.before a0 Z = true) (ws : List Jvm.Cond) (q0 : Int64) (p1 : Int32) (h0 : Heap) (n0 : Nat) (Z0 : n0 ≤ h0.size)  :
    MetFree l (⟨"com/example/sealwax/sealwax/OctetSumOfPinLaw", "octet", "(JI)I"⟩ : MethodName) (head1 (Jvm.Cond.code (⟨"com/example/sealwax/sealwax/OctetSumOfPinLaw", "octet", "(JI)I"⟩ : MethodName) method_2_code 3 (some .int) :: ws) ({ frames := 0, cells := 0, slots := 0, locals := 0 } : Room)) (fun a U => a = #[(.long q0), (.int p1)] ∧ Z.Warmed39 U.vm ∧ U.heap = h0) (fun _ _ _ _ _ => True) (fun _ U o U' => ∃ v L, o = .returned v ∧ Q1 Z q0 p1 h0 n0 v U'.heap L ∧ FrameEnd U o U' L ({ frames := 0, cells := 0, slots := 0, locals := 0 } : Room).cells ({ frames := 0, cells := 0, slots := 0, locals := 0 } : Room).slots) := by
  refine MetFree.of_bodySF (plainFor_of_name pn_0) hisR ?_
  intro p e s m args below meth c s₁ Bd hml0 hP hK
  obtain ⟨rfl, hZ, hh⟩ := hP
  have hx := Bd.exec
  have hby := Bd.bytes
  have hml : c.maxLocals = 3 := hml0
  have hown : s.vm.findClass "com/example/sealwax/sealwax/OctetSumOfPinLaw" = some m.cls := findClass_of_methodNamed Bd.named
  have hnm := (name_of_methodNamed Bd.named Bd.method).1
  have X0 : Stand p l e ({ frames := 0, cells := 0, slots := 0, locals := 0 } : Room) s m #[(.long q0), (.int p1)] below meth c s₁ [] 0 0 := Stand.of_body Bd
  have e0 : s₁.heap = h0 := by rw [← hh, Bd.state]; rfl
  have hlk : meth.locks = false := by first | exact BodyLoose.notSynchronized Bd | exact Body.notSynchronized Bd
  have N0 := Fr.nil n0
  have K0 := Keep.refl h0 []
  have pre0 : ∀ t, Steps p.tables e below (s₁.setTop (mkF m 0 #[.val (.long q0), .second, .val (.int p1)] [])) t → Steps p.tables e below (s₁.setTop (entryFrame m #[(.long q0), (.int p1)] 3)) t := fun t k => castTop (ef_1 m q0 p1) k
  obtain ⟨fs, hr, hrun, hended, hW, hsame⟩ := X0.leave (v := some (.int (((f1_e1 q0 p1) &&& (255 : Int64)).toInt32))) (fun h => by rw [Bd.returns] at h; cases h) hlk
  refine ⟨_, _, pre0 _ ?_, hrun, hended, _, _, rfl, ?_, ⟨_, rfl⟩, hW, hsame.mono (by decide) (by decide)⟩
  · show Steps p.tables e below (s₁.setTop (mkF m 0 #[.val (.long q0), .second, .val (.int p1)] [])) _
    refine XS.lloadN X0.here hx rfl (hb hby d1_0) rfl ?_
    show Steps p.tables e below (s₁.setTop (mkF m 1 #[.val (.long q0), .second, .val (.int p1)] [(.long q0)])) _
    refine XS.bipush X0.here hx rfl (hb hby d1_1) ?_
    show Steps p.tables e below (s₁.setTop (mkF m 3 #[.val (.long q0), .second, .val (.int p1)] [(.int (8 : Int32)), (.long q0)])) _
    refine XS.iloadN X0.here hx rfl (hb hby d1_3) rfl ?_
    show Steps p.tables e below (s₁.setTop (mkF m 4 #[.val (.long q0), .second, .val (.int p1)] [(.int p1), (.int (8 : Int32)), (.long q0)])) _
    refine XS.imul X0.here hx rfl (hb hby d1_4) rfl ?_
    show Steps p.tables e below (s₁.setTop (mkF m 5 #[.val (.long q0), .second, .val (.int p1)] [(.int ((8 : Int32) * p1)), (.long q0)])) _
    refine XS.lushr X0.here hx rfl (hb hby d1_5) rfl ?_
    show Steps p.tables e below (s₁.setTop (mkF m 6 #[.val (.long q0), .second, .val (.int p1)] [(.long (f1_e1 q0 p1))])) _
    refine X0.ldc2Long hx hown (mvT hZ (hw _ (List.mem_of_getElem? (i := 5) rfl))) (g := (mkF m 6 #[.val (.long q0), .second, .val (.int p1)] [(.long (f1_e1 q0 p1))])) rfl (hb hby d1_6) _ ?_
    show Steps p.tables e below (s₁.setTop (mkF m 9 #[.val (.long q0), .second, .val (.int p1)] [(.long (255 : Int64)), (.long (f1_e1 q0 p1))])) _
    refine XS.land X0.here hx rfl (hb hby d1_9) rfl ?_
    show Steps p.tables e below (s₁.setTop (mkF m 10 #[.val (.long q0), .second, .val (.int p1)] [(.long ((f1_e1 q0 p1) &&& (255 : Int64)))])) _
    refine XS.l2i X0.here hx rfl (hb hby d1_10) rfl ?_
    show Steps p.tables e below (s₁.setTop (mkF m 11 #[.val (.long q0), .second, .val (.int p1)] [(.int (((f1_e1 q0 p1) &&& (255 : Int64)).toInt32))])) _
    exact retI X0 hx Bd.returns (hb hby d1_11) hr
  · show Q1 Z q0 p1 h0 n0 _ s₁.heap _
    rw [e0]
    exact ⟨by rw [show f1 q0 p1 = (((f1_e1 q0 p1) &&& (255 : Int64)).toInt32) from by unfold f1; rfl], N0, rfl⟩
theorem pd_0 : parseMethodDescriptor "(JI)I" = some ⟨[.long, .int], some .int⟩ := by decide +kernel
theorem d2_0 : decode method_3_code 0 = .ok (.iload_n 2, 1) := by decide +kernel
theorem d2_1 : decode method_3_code 1 = .ok (.iload_n 3, 1) := by decide +kernel
theorem d2_2 : decode method_3_code 2 = .ok (.if_icmp .lt 17, 3) := by decide +kernel
theorem d2_5 : decode method_3_code 5 = .ok (.iload_n 2, 1) := by decide +kernel
theorem d2_6 : decode method_3_code 6 = .ok (.iload_n 3, 1) := by decide +kernel
theorem d2_7 : decode method_3_code 7 = .ok (.iload 4, 2) := by decide +kernel
theorem d2_9 : decode method_3_code 9 = .ok (.iadd, 1) := by decide +kernel
theorem d2_10 : decode method_3_code 10 = .ok (.if_icmp .ge 9, 3) := by decide +kernel
theorem d2_13 : decode method_3_code 13 = .ok (.lload_n 0, 1) := by decide +kernel
theorem d2_14 : decode method_3_code 14 = .ok (.iload_n 2, 1) := by decide +kernel
theorem d2_15 : decode method_3_code 15 = .ok (.invokestatic 9, 3) := by decide +kernel
theorem d2_18 : decode method_3_code 18 = .ok (.ireturn, 1) := by decide +kernel
theorem d2_19 : decode method_3_code 19 = .ok (.iconst 0, 1) := by decide +kernel
theorem d2_20 : decode method_3_code 20 = .ok (.ireturn, 1) := by decide +kernel
theorem ef_2 (m : MethodId) (x0 : Int64) (x1 : Int32) (x2 : Int32) (x3 : Int32) : entryFrame m #[(.long x0), (.int x1), (.int x2), (.int x3)] 5 = mkF m 0 #[.val (.long x0), .second, .val (.int x1), .val (.int x2), .val (.int x3)] [] := by first | (simp [entryFrame, mkF, argsToLocals, Value.category]; done) | rfl
def f2 (q0 : Int64) (p1 : Int32) (p2 : Int32) (p3 : Int32) : Int32 := (if p1 < p2 then (0 : Int32) else (if p1 < (p2 + p3) then (f1 q0 p1) else (0 : Int32)))
def Q2 (Z : State) (q0 : Int64) (p1 : Int32) (p2 : Int32) (p3 : Int32) (h0 : Heap) (n0 : Nat) (v : Option Value) (h : Heap) (L : List Loc) : Prop := v = some (.int (f2 q0 p1 p2 p3)) ∧ Fr n0 L ∧ h = h0
set_option maxRecDepth 65536 in
set_option maxHeartbeats 40000000 in
theorem rm2 (l : Launch) (Z : State) (a0 : Array Value) (hw : ∀ d ∈ tables_1, d.before a0 Z = true) (ws : List Jvm.Cond) (q0 : Int64) (p1 : Int32) (p2 : Int32) (p3 : Int32) (h0 : Heap) (n0 : Nat) (Z0 : n0 ≤ h0.size)  :
    MetFree l (⟨"com/example/sealwax/sealwax/OctetSumOfPinLaw", "term", "(JIII)I"⟩ : MethodName) (head1 (Jvm.Cond.code (⟨"com/example/sealwax/sealwax/OctetSumOfPinLaw", "term", "(JIII)I"⟩ : MethodName) method_3_code 5 (some .int) :: ws) ({ frames := 1, cells := 0, slots := 0, locals := 14 } : Room)) (fun a U => a = #[(.long q0), (.int p1), (.int p2), (.int p3)] ∧ Z.Warmed39 U.vm ∧ U.heap = h0) (fun _ _ _ _ _ => True) (fun _ U o U' => ∃ v L, o = .returned v ∧ Q2 Z q0 p1 p2 p3 h0 n0 v U'.heap L ∧ FrameEnd U o U' L ({ frames := 1, cells := 0, slots := 0, locals := 14 } : Room).cells ({ frames := 1, cells := 0, slots := 0, locals := 14 } : Room).slots) := by
  refine MetFree.of_bodySF (plainFor_of_name pn_0) hisR ?_
  intro p e s m args below meth c s₁ Bd hml0 hP hK
  obtain ⟨rfl, hZ, hh⟩ := hP
  have hx := Bd.exec
  have hby := Bd.bytes
  have hml : c.maxLocals = 5 := hml0
  have hown : s.vm.findClass "com/example/sealwax/sealwax/OctetSumOfPinLaw" = some m.cls := findClass_of_methodNamed Bd.named
  have hnm := (name_of_methodNamed Bd.named Bd.method).1
  have X0 : Stand p l e ({ frames := 1, cells := 0, slots := 0, locals := 14 } : Room) s m #[(.long q0), (.int p1), (.int p2), (.int p3)] below meth c s₁ [] 0 0 := Stand.of_body Bd
  have e0 : s₁.heap = h0 := by rw [← hh, Bd.state]; rfl
  have hlk : meth.locks = false := by first | exact BodyLoose.notSynchronized Bd | exact Body.notSynchronized Bd
  have N0 := Fr.nil n0
  have K0 := Keep.refl h0 []
  have pre0 : ∀ t, Steps p.tables e below (s₁.setTop (mkF m 0 #[.val (.long q0), .second, .val (.int p1), .val (.int p2), .val (.int p3)] [])) t → Steps p.tables e below (s₁.setTop (entryFrame m #[(.long q0), (.int p1), (.int p2), (.int p3)] 5)) t := fun t k => castTop (ef_2 m q0 p1 p2 p3) k
  have pre1 : ∀ t, Steps p.tables e below (s₁.setTop (mkF m 2 #[.val (.long q0), .second, .val (.int p1), .val (.int p2), .val (.int p3)] [(.int p2), (.int p1)])) t → Steps p.tables e below (s₁.setTop (entryFrame m #[(.long q0), (.int p1), (.int p2), (.int p3)] 5)) t := fun t kt => pre0 t (by
    show Steps p.tables e below (s₁.setTop (mkF m 0 #[.val (.long q0), .second, .val (.int p1), .val (.int p2), .val (.int p3)] [])) _
    refine XS.iloadN X0.here hx rfl (hb hby d2_0) rfl ?_
    show Steps p.tables e below (s₁.setTop (mkF m 1 #[.val (.long q0), .second, .val (.int p1), .val (.int p2), .val (.int p3)] [(.int p1)])) _
    refine XS.iloadN X0.here hx rfl (hb hby d2_1) rfl ?_
    exact kt)
  by_cases hc2 : p1 < p2
  · obtain ⟨fs, hr, hrun, hended, hW, hsame⟩ := X0.leave (v := some (.int (0 : Int32))) (fun h => by rw [Bd.returns] at h; cases h) hlk
    refine ⟨_, _, pre1 _ ?_, hrun, hended, _, _, rfl, ?_, ⟨_, rfl⟩, hW, hsame.mono (by decide) (by decide)⟩
    · show Steps p.tables e below (s₁.setTop (mkF m 2 #[.val (.long q0), .second, .val (.int p1), .val (.int p2), .val (.int p3)] [(.int p2), (.int p1)])) _
      refine XS.icmpYes X0.here hx rfl (pc0 := 2) (pc' := 19) rfl (hb hby d2_2) rfl (tlt hc2).1 (by decide) (by decide) ?_
      show Steps p.tables e below (s₁.setTop (mkF m 19 #[.val (.long q0), .second, .val (.int p1), .val (.int p2), .val (.int p3)] [])) _
      refine XS.iconst X0.here hx rfl (hb hby d2_19) ?_
      show Steps p.tables e below (s₁.setTop (mkF m 20 #[.val (.long q0), .second, .val (.int p1), .val (.int p2), .val (.int p3)] [(.int (0 : Int32))])) _
      exact retI X0 hx Bd.returns (hb hby d2_20) hr
    · show Q2 Z q0 p1 p2 p3 h0 n0 _ s₁.heap _
      rw [e0]
      exact ⟨by rw [show f2 q0 p1 p2 p3 = (0 : Int32) from by unfold f2; rw [if_pos hc2]], N0, rfl⟩
  · have pre3 : ∀ t, Steps p.tables e below (s₁.setTop (mkF m 10 #[.val (.long q0), .second, .val (.int p1), .val (.int p2), .val (.int p3)] [(.int (p2 + p3)), (.int p1)])) t → Steps p.tables e below (s₁.setTop (entryFrame m #[(.long q0), (.int p1), (.int p2), (.int p3)] 5)) t := fun t kt => pre1 t (by
      show Steps p.tables e below (s₁.setTop (mkF m 2 #[.val (.long q0), .second, .val (.int p1), .val (.int p2), .val (.int p3)] [(.int p2), (.int p1)])) _
      refine XS.icmpNo X0.here hx rfl (hb hby d2_2) rfl (flt hc2).1 ?_
      show Steps p.tables e below (s₁.setTop (mkF m 5 #[.val (.long q0), .second, .val (.int p1), .val (.int p2), .val (.int p3)] [])) _
      refine XS.iloadN X0.here hx rfl (hb hby d2_5) rfl ?_
      show Steps p.tables e below (s₁.setTop (mkF m 6 #[.val (.long q0), .second, .val (.int p1), .val (.int p2), .val (.int p3)] [(.int p1)])) _
      refine XS.iloadN X0.here hx rfl (hb hby d2_6) rfl ?_
      show Steps p.tables e below (s₁.setTop (mkF m 7 #[.val (.long q0), .second, .val (.int p1), .val (.int p2), .val (.int p3)] [(.int p2), (.int p1)])) _
      refine XS.iload X0.here hx rfl (hb hby d2_7) rfl ?_
      show Steps p.tables e below (s₁.setTop (mkF m 9 #[.val (.long q0), .second, .val (.int p1), .val (.int p2), .val (.int p3)] [(.int p3), (.int p2), (.int p1)])) _
      refine XS.iadd X0.here hx rfl (hb hby d2_9) rfl ?_
      exact kt)
    by_cases hc4 : p1 < (p2 + p3)
    · obtain ⟨_, _, ⟨T5, L5, k5, n5⟩, -, X5, ⟨Lc5, hQ5, l5, y5, z5⟩, st5⟩ := Jvm.LawKit.callS X0 hx (y := (⟨"com/example/sealwax/sealwax/OctetSumOfPinLaw", "octet", "(JI)I"⟩ : MethodName)) hown (mvT hZ (hw _ (List.mem_of_getElem? (i := 1) rfl))) (mvT hZ (hw _ (List.mem_of_getElem? (i := 2) rfl))) (mvT hZ (hw _ (List.mem_of_getElem? (i := 3) rfl))) (mvT hZ (hw _ (List.mem_of_getElem? (i := 4) rfl))) (by decide) (backOf (W := 0) (rm1 l Z a0 hw [] q0 p1 h0 n0 Z0) hZ (hw _ (List.mem_of_getElem? (i := 4) rfl)) (hw _ (List.mem_of_getElem? (i := 3) rfl)) (by decide) (by decide)) (g := (mkF m 15 #[.val (.long q0), .second, .val (.int p1), .val (.int p2), .val (.int p3)] [(.int p1), (.long q0)])) rfl (by rw [hml]; rfl) (argsL := [(.long q0), (.int p1)]) (rest := []) (lenOf pd_0 rfl) rfl (by show 2 * 0 + _ ≤ _; exact Nat.le_of_eq rfl) (hb hby d2_15) (fun _ _ => ⟨rfl, e0, (by decide : 0 + 0 ≤ _), (by decide : 0 + 0 ≤ _)⟩)
      dsimp only [Pt.U, Pt.locs, Pt.cells, Pt.slots] at X5 l5 y5 z5 st5 hQ5
      obtain rfl : k5 = 0 := y5
      obtain rfl : n5 = 0 := z5
      obtain ⟨rfl, N5q, e5⟩ := hQ5
      have N5 : Fr n0 L5 := by rw [l5]; exact Fr.app N0 N5q
      obtain ⟨fs, hr, hrun, hended, hW, hsame⟩ := X5.leave (v := some (.int (f1 q0 p1))) (fun h => by rw [Bd.returns] at h; cases h) hlk
      refine ⟨_, _, pre3 _ ?_, hrun, hended, _, _, rfl, ?_, ⟨_, rfl⟩, hW, hsame.mono (by decide) (by decide)⟩
      · show Steps p.tables e below (s₁.setTop (mkF m 10 #[.val (.long q0), .second, .val (.int p1), .val (.int p2), .val (.int p3)] [(.int (p2 + p3)), (.int p1)])) _
        refine XS.icmpNo X0.here hx rfl (hb hby d2_10) rfl (tlt hc4).2.1 ?_
        show Steps p.tables e below (s₁.setTop (mkF m 13 #[.val (.long q0), .second, .val (.int p1), .val (.int p2), .val (.int p3)] [])) _
        refine XS.lloadN X0.here hx rfl (hb hby d2_13) rfl ?_
        show Steps p.tables e below (s₁.setTop (mkF m 14 #[.val (.long q0), .second, .val (.int p1), .val (.int p2), .val (.int p3)] [(.long q0)])) _
        refine XS.iloadN X0.here hx rfl (hb hby d2_14) rfl ?_
        show Steps p.tables e below (s₁.setTop (mkF m 15 #[.val (.long q0), .second, .val (.int p1), .val (.int p2), .val (.int p3)] [(.int p1), (.long q0)])) _
        refine st5 _ ?_
        show Steps p.tables e below (T5.setTop (mkF m 18 #[.val (.long q0), .second, .val (.int p1), .val (.int p2), .val (.int p3)] [(.int (f1 q0 p1))])) _
        exact retI X5 hx Bd.returns (hb hby d2_18) hr
      · show Q2 Z q0 p1 p2 p3 h0 n0 _ T5.heap _
        rw [e5]
        exact ⟨by rw [show f2 q0 p1 p2 p3 = (f1 q0 p1) from by unfold f2; rw [if_neg hc2, if_pos hc4]], N5, rfl⟩
    · obtain ⟨fs, hr, hrun, hended, hW, hsame⟩ := X0.leave (v := some (.int (0 : Int32))) (fun h => by rw [Bd.returns] at h; cases h) hlk
      refine ⟨_, _, pre3 _ ?_, hrun, hended, _, _, rfl, ?_, ⟨_, rfl⟩, hW, hsame.mono (by decide) (by decide)⟩
      · show Steps p.tables e below (s₁.setTop (mkF m 10 #[.val (.long q0), .second, .val (.int p1), .val (.int p2), .val (.int p3)] [(.int (p2 + p3)), (.int p1)])) _
        refine XS.icmpYes X0.here hx rfl (pc0 := 10) (pc' := 19) rfl (hb hby d2_10) rfl (flt hc4).2.1 (by decide) (by decide) ?_
        show Steps p.tables e below (s₁.setTop (mkF m 19 #[.val (.long q0), .second, .val (.int p1), .val (.int p2), .val (.int p3)] [])) _
        refine XS.iconst X0.here hx rfl (hb hby d2_19) ?_
        show Steps p.tables e below (s₁.setTop (mkF m 20 #[.val (.long q0), .second, .val (.int p1), .val (.int p2), .val (.int p3)] [(.int (0 : Int32))])) _
        exact retI X0 hx Bd.returns (hb hby d2_20) hr
      · show Q2 Z q0 p1 p2 p3 h0 n0 _ s₁.heap _
        rw [e0]
        exact ⟨by rw [show f2 q0 p1 p2 p3 = (0 : Int32) from by unfold f2; rw [if_neg hc2, if_neg hc4]], N0, rfl⟩
def own_sum (vv : Int32 → Int32) : Nat → Int32 → Int32 → Int32
  | 0, _, S => S
  | k + 1, i, S => own_sum vv k (i + 1) (S + (vv i &&& 255))
def own_end : Nat → Int32 → Int32
  | 0, i => i
  | k + 1, i => own_end k (i + 1)
theorem own_inc (i E : Int32) (k : Nat) (h1 : i.toInt + ((k + 1 : Nat) : Int) = E.toInt) (h2 : 0 ≤ i.toInt) : (i + 1).toInt + (k : Int) = E.toInt ∧ 0 ≤ (i + 1).toInt := by
  have a := c_iadd i 1
  have r := rng32 (i + 1)
  have q := rng32 E
  have l : (1 : Int32).toInt = 1 := rfl
  omega
theorem own_in {n : Nat} (i : Int32) (h0 : 0 ≤ i.toInt) (h1 : i.toInt < (n : Int)) : ¬ (i < 0 ∨ n ≤ i.toNatClampNeg) := by
  have l : (0 : Int32).toInt = 0 := rfl
  rw [Int32.lt_iff_toInt_lt]
  simp only [Int32.toNatClampNeg]
  omega
theorem pn_1 : plainName "com/example/sealwax/sealwax/OctetSum" = true := by first | (simp [plainName, overriddenIn]; done) | decide +kernel
theorem d3_0 : decode prog_26_method_2_code 0 = .ok (.iconst 0, 1) := by decide +kernel
theorem d3_1 : decode prog_26_method_2_code 1 = .ok (.istore_n 3, 1) := by decide +kernel
theorem d3_2 : decode prog_26_method_2_code 2 = .ok (.iload_n 1, 1) := by decide +kernel
theorem d3_3 : decode prog_26_method_2_code 3 = .ok (.istore 4, 2) := by decide +kernel
theorem d3_5 : decode prog_26_method_2_code 5 = .ok (.iload 4, 2) := by decide +kernel
theorem d3_7 : decode prog_26_method_2_code 7 = .ok (.iload_n 1, 1) := by decide +kernel
theorem d3_8 : decode prog_26_method_2_code 8 = .ok (.iload_n 2, 1) := by decide +kernel
theorem d3_9 : decode prog_26_method_2_code 9 = .ok (.iadd, 1) := by decide +kernel
theorem d3_10 : decode prog_26_method_2_code 10 = .ok (.if_icmp .ge 20, 3) := by decide +kernel
theorem d3_13 : decode prog_26_method_2_code 13 = .ok (.iload_n 3, 1) := by decide +kernel
theorem d3_14 : decode prog_26_method_2_code 14 = .ok (.aload_n 0, 1) := by decide +kernel
theorem d3_15 : decode prog_26_method_2_code 15 = .ok (.iload 4, 2) := by decide +kernel
theorem d3_17 : decode prog_26_method_2_code 17 = .ok (.baload, 1) := by decide +kernel
theorem d3_18 : decode prog_26_method_2_code 18 = .ok (.sipush 255, 3) := by decide +kernel
theorem d3_21 : decode prog_26_method_2_code 21 = .ok (.iand, 1) := by decide +kernel
theorem d3_22 : decode prog_26_method_2_code 22 = .ok (.iadd, 1) := by decide +kernel
theorem d3_23 : decode prog_26_method_2_code 23 = .ok (.istore_n 3, 1) := by decide +kernel
theorem d3_24 : decode prog_26_method_2_code 24 = .ok (.iinc 4 1, 3) := by decide +kernel
theorem d3_27 : decode prog_26_method_2_code 27 = .ok (.goto (-22), 3) := by decide +kernel
theorem d3_30 : decode prog_26_method_2_code 30 = .ok (.iload_n 3, 1) := by decide +kernel
theorem d3_31 : decode prog_26_method_2_code 31 = .ok (.ldc 7, 2) := by decide +kernel
theorem d3_33 : decode prog_26_method_2_code 33 = .ok (.iand, 1) := by decide +kernel
theorem d3_34 : decode prog_26_method_2_code 34 = .ok (.ireturn, 1) := by decide +kernel
theorem ef_3 (m : MethodId) (x0 : Addr) (x1 : Int32) (x2 : Int32) : entryFrame m #[(.ref x0), (.int x1), (.int x2)] 5 = mkF m 0 #[.val (.ref x0), .val (.int x1), .val (.int x2), .unset, .unset] [] := by first | (simp [entryFrame, mkF, argsToLocals, Value.category]; done) | rfl
def f3 (p1 : Int32) (p2 : Int32) (vv : Int32 → Int32) : Int32 := ((own_sum vv p2.toInt.toNat p1 (0 : Int32)) &&& (65535 : Int32))
def Q3 (Z : State) (r0 : Addr) (p1 : Int32) (p2 : Int32) (cl : Cell) (vv : Int32 → Int32) (h0 : Heap) (n0 : Nat) (v : Option Value) (h : Heap) (L : List Loc) : Prop := v = some (.int (f3 p1 p2 vv)) ∧ Fr n0 L ∧ h = h0
set_option maxRecDepth 65536 in
set_option maxHeartbeats 40000000 in
theorem rm3 (l : Launch) (Z : State) (a0 : Array Value) (hw : ∀ d ∈ tables_1, d.before a0 Z = true) (ws : List Jvm.Cond) (r0 : Addr) (p1 : Int32) (p2 : Int32) (cl : Cell) (vv : Int32 → Int32) (h0 : Heap) (n0 : Nat) (Z0 : n0 ≤ h0.size) (Ar : Arr Z h0 r0 cl .byte) (Sz : cl.slots.size = 8) (hat : ∀ i : Int32, 0 ≤ i.toInt → i.toInt < 8 → cl.slots[i.toNatClampNeg]? = some (.int (vv i))) (hp1 : 0 ≤ p1.toInt) (hp2 : 0 ≤ p2.toInt) (hp3 : p1.toInt + p2.toInt ≤ 8) :
    MetFree l (⟨"com/example/sealwax/sealwax/OctetSum", "of", "([BII)I"⟩ : MethodName) (head1 (Jvm.Cond.code (⟨"com/example/sealwax/sealwax/OctetSum", "of", "([BII)I"⟩ : MethodName) prog_26_method_2_code 5 (some .int) :: ws) ({ frames := 0, cells := 0, slots := 0, locals := 0 } : Room)) (fun a U => a = #[(.ref r0), (.int p1), (.int p2)] ∧ Z.Warmed39 U.vm ∧ U.heap = h0) (fun _ _ _ _ _ => True) (fun _ U o U' => ∃ v L, o = .returned v ∧ Q3 Z r0 p1 p2 cl vv h0 n0 v U'.heap L ∧ FrameEnd U o U' L ({ frames := 0, cells := 0, slots := 0, locals := 0 } : Room).cells ({ frames := 0, cells := 0, slots := 0, locals := 0 } : Room).slots) := by
  refine MetFree.of_bodySF (plainFor_of_name pn_1) hisR ?_
  intro p e s m args below meth c s₁ Bd hml0 hP hK
  obtain ⟨rfl, hZ, hh⟩ := hP
  have hx := Bd.exec
  have hby := Bd.bytes
  have hml : c.maxLocals = 5 := hml0
  have hown : s.vm.findClass "com/example/sealwax/sealwax/OctetSum" = some m.cls := findClass_of_methodNamed Bd.named
  have hnm := (name_of_methodNamed Bd.named Bd.method).1
  have X0 : Stand p l e ({ frames := 0, cells := 0, slots := 0, locals := 0 } : Room) s m #[(.ref r0), (.int p1), (.int p2)] below meth c s₁ [] 0 0 := Stand.of_body Bd
  have e0 : s₁.heap = h0 := by rw [← hh, Bd.state]; rfl
  have hlk : meth.locks = false := by first | exact BodyLoose.notSynchronized Bd | exact Body.notSynchronized Bd
  have N0 := Fr.nil n0
  have K0 := Keep.refl h0 []
  have pre0 : ∀ t, Steps p.tables e below (s₁.setTop (mkF m 0 #[.val (.ref r0), .val (.int p1), .val (.int p2), .unset, .unset] [])) t → Steps p.tables e below (s₁.setTop (entryFrame m #[(.ref r0), (.int p1), (.int p2)] 5)) t := fun t k => castTop (ef_3 m r0 p1 p2) k
  have hp4 : (p1 + p2).toInt = p1.toInt + p2.toInt := by
    have a := c_iadd p1 p2
    have r := rng32 (p1 + p2)
    omega
  have loop5 : ∀ (k : Nat) (S i : Int32), i.toInt + (k : Int) = (p1 + p2).toInt → 0 ≤ i.toInt → ∀ t, Steps p.tables e below (s₁.setTop (mkF m 30 #[.val (.ref r0), .val (.int p1), .val (.int p2), .val (.int (own_sum vv k i S)), .val (.int (own_end k i))] [])) t → Steps p.tables e below (s₁.setTop (mkF m 5 #[.val (.ref r0), .val (.int p1), .val (.int p2), .val (.int S), .val (.int i)] [])) t := by
    intro k
    induction k with
    | zero =>
      intro S i h1 h2 t kt
      have hc : ¬ i < (p1 + p2) := by rw [Int32.lt_iff_toInt_lt]; omega
      show Steps p.tables e below (s₁.setTop (mkF m 5 #[.val (.ref r0), .val (.int p1), .val (.int p2), .val (.int S), .val (.int i)] [])) _
      refine XS.iload X0.here hx rfl (hb hby d3_5) rfl ?_
      show Steps p.tables e below (s₁.setTop (mkF m 7 #[.val (.ref r0), .val (.int p1), .val (.int p2), .val (.int S), .val (.int i)] [(.int i)])) _
      refine XS.iloadN X0.here hx rfl (hb hby d3_7) rfl ?_
      show Steps p.tables e below (s₁.setTop (mkF m 8 #[.val (.ref r0), .val (.int p1), .val (.int p2), .val (.int S), .val (.int i)] [(.int p1), (.int i)])) _
      refine XS.iloadN X0.here hx rfl (hb hby d3_8) rfl ?_
      show Steps p.tables e below (s₁.setTop (mkF m 9 #[.val (.ref r0), .val (.int p1), .val (.int p2), .val (.int S), .val (.int i)] [(.int p2), (.int p1), (.int i)])) _
      refine XS.iadd X0.here hx rfl (hb hby d3_9) rfl ?_
      show Steps p.tables e below (s₁.setTop (mkF m 10 #[.val (.ref r0), .val (.int p1), .val (.int p2), .val (.int S), .val (.int i)] [(.int (p1 + p2)), (.int i)])) _
      refine XS.icmpYes X0.here hx rfl (pc0 := 10) (pc' := 30) rfl (hb hby d3_10) rfl (flt hc).2.1 (by decide) (by decide) ?_
      exact kt
    | succ k ih =>
      intro S i h1 h2 t kt
      have hi := own_inc i (p1 + p2) k h1 h2
      have hc : i < (p1 + p2) := by rw [Int32.lt_iff_toInt_lt]; omega
      have hlt : i.toInt < 8 := by omega
      have hin : ¬ (i < 0 ∨ cl.slots.size ≤ i.toNatClampNeg) := own_in i h2 (by rw [Sz]; exact hlt)
      show Steps p.tables e below (s₁.setTop (mkF m 5 #[.val (.ref r0), .val (.int p1), .val (.int p2), .val (.int S), .val (.int i)] [])) _
      refine XS.iload X0.here hx rfl (hb hby d3_5) rfl ?_
      show Steps p.tables e below (s₁.setTop (mkF m 7 #[.val (.ref r0), .val (.int p1), .val (.int p2), .val (.int S), .val (.int i)] [(.int i)])) _
      refine XS.iloadN X0.here hx rfl (hb hby d3_7) rfl ?_
      show Steps p.tables e below (s₁.setTop (mkF m 8 #[.val (.ref r0), .val (.int p1), .val (.int p2), .val (.int S), .val (.int i)] [(.int p1), (.int i)])) _
      refine XS.iloadN X0.here hx rfl (hb hby d3_8) rfl ?_
      show Steps p.tables e below (s₁.setTop (mkF m 9 #[.val (.ref r0), .val (.int p1), .val (.int p2), .val (.int S), .val (.int i)] [(.int p2), (.int p1), (.int i)])) _
      refine XS.iadd X0.here hx rfl (hb hby d3_9) rfl ?_
      show Steps p.tables e below (s₁.setTop (mkF m 10 #[.val (.ref r0), .val (.int p1), .val (.int p2), .val (.int S), .val (.int i)] [(.int (p1 + p2)), (.int i)])) _
      refine XS.icmpNo X0.here hx rfl (hb hby d3_10) rfl (tlt hc).2.1 ?_
      show Steps p.tables e below (s₁.setTop (mkF m 13 #[.val (.ref r0), .val (.int p1), .val (.int p2), .val (.int S), .val (.int i)] [])) _
      refine XS.iloadN X0.here hx rfl (hb hby d3_13) rfl ?_
      show Steps p.tables e below (s₁.setTop (mkF m 14 #[.val (.ref r0), .val (.int p1), .val (.int p2), .val (.int S), .val (.int i)] [(.int S)])) _
      refine XS.aloadN X0.here hx rfl (hb hby d3_14) rfl rfl ?_
      show Steps p.tables e below (s₁.setTop (mkF m 15 #[.val (.ref r0), .val (.int p1), .val (.int p2), .val (.int S), .val (.int i)] [(.ref r0), (.int S)])) _
      refine XS.iload X0.here hx rfl (hb hby d3_15) rfl ?_
      show Steps p.tables e below (s₁.setTop (mkF m 17 #[.val (.ref r0), .val (.int p1), .val (.int p2), .val (.int S), .val (.int i)] [(.int i), (.ref r0), (.int S)])) _
      refine X0.baloadBytes hx (j := i) (v := (.int (vv i))) (by rw [e0]; exact Ar.1) (State.isArrayOf_alike hZ.alike Ar.2.1) Ar.2.2 hin (hat i h2 hlt) (g := (mkF m 17 #[.val (.ref r0), .val (.int p1), .val (.int p2), .val (.int S), .val (.int i)] [(.int i), (.ref r0), (.int S)])) rfl rfl (hb hby d3_17) _ ?_
      show Steps p.tables e below (s₁.setTop (mkF m 18 #[.val (.ref r0), .val (.int p1), .val (.int p2), .val (.int S), .val (.int i)] [(.int (vv i)), (.int S)])) _
      refine XS.sipush X0.here hx rfl (hb hby d3_18) ?_
      show Steps p.tables e below (s₁.setTop (mkF m 21 #[.val (.ref r0), .val (.int p1), .val (.int p2), .val (.int S), .val (.int i)] [(.int (255 : Int32)), (.int (vv i)), (.int S)])) _
      refine XS.iand X0.here hx rfl (hb hby d3_21) rfl ?_
      show Steps p.tables e below (s₁.setTop (mkF m 22 #[.val (.ref r0), .val (.int p1), .val (.int p2), .val (.int S), .val (.int i)] [(.int ((vv i) &&& (255 : Int32))), (.int S)])) _
      refine XS.iadd X0.here hx rfl (hb hby d3_22) rfl ?_
      show Steps p.tables e below (s₁.setTop (mkF m 23 #[.val (.ref r0), .val (.int p1), .val (.int p2), .val (.int S), .val (.int i)] [(.int (S + ((vv i) &&& (255 : Int32))))])) _
      refine XS.istoreN X0.here hx rfl (hb hby d3_23) rfl (l' := #[.val (.ref r0), .val (.int p1), .val (.int p2), .val (.int (S + ((vv i) &&& (255 : Int32)))), .val (.int i)]) rfl ?_
      show Steps p.tables e below (s₁.setTop (mkF m 24 #[.val (.ref r0), .val (.int p1), .val (.int p2), .val (.int (S + ((vv i) &&& (255 : Int32)))), .val (.int i)] [])) _
      refine XS.iinc X0.here hx rfl (hb hby d3_24) rfl (l' := #[.val (.ref r0), .val (.int p1), .val (.int p2), .val (.int (S + ((vv i) &&& (255 : Int32)))), .val (.int (i + (1 : Int32)))]) rfl ?_
      show Steps p.tables e below (s₁.setTop (mkF m 27 #[.val (.ref r0), .val (.int p1), .val (.int p2), .val (.int (S + ((vv i) &&& (255 : Int32)))), .val (.int (i + (1 : Int32)))] [])) _
      refine XS.goto X0.here hx rfl (pc0 := 27) (pc' := 5) rfl (hb hby d3_27) (by decide) (by decide) ?_
      exact ih _ _ hi.1 hi.2 t kt
  obtain ⟨fs, hr, hrun, hended, hW, hsame⟩ := X0.leave (v := some (.int ((own_sum vv p2.toInt.toNat p1 (0 : Int32)) &&& (65535 : Int32)))) (fun h => by rw [Bd.returns] at h; cases h) hlk
  refine ⟨_, _, pre0 _ ?_, hrun, hended, _, _, rfl, ?_, ⟨_, rfl⟩, hW, hsame.mono (by decide) (by decide)⟩
  · show Steps p.tables e below (s₁.setTop (mkF m 0 #[.val (.ref r0), .val (.int p1), .val (.int p2), .unset, .unset] [])) _
    refine XS.iconst X0.here hx rfl (hb hby d3_0) ?_
    show Steps p.tables e below (s₁.setTop (mkF m 1 #[.val (.ref r0), .val (.int p1), .val (.int p2), .unset, .unset] [(.int (0 : Int32))])) _
    refine XS.istoreN X0.here hx rfl (hb hby d3_1) rfl (l' := #[.val (.ref r0), .val (.int p1), .val (.int p2), .val (.int (0 : Int32)), .unset]) rfl ?_
    show Steps p.tables e below (s₁.setTop (mkF m 2 #[.val (.ref r0), .val (.int p1), .val (.int p2), .val (.int (0 : Int32)), .unset] [])) _
    refine XS.iloadN X0.here hx rfl (hb hby d3_2) rfl ?_
    show Steps p.tables e below (s₁.setTop (mkF m 3 #[.val (.ref r0), .val (.int p1), .val (.int p2), .val (.int (0 : Int32)), .unset] [(.int p1)])) _
    refine XS.istore X0.here hx rfl (hb hby d3_3) rfl (l' := #[.val (.ref r0), .val (.int p1), .val (.int p2), .val (.int (0 : Int32)), .val (.int p1)]) rfl ?_
    show Steps p.tables e below (s₁.setTop (mkF m 5 #[.val (.ref r0), .val (.int p1), .val (.int p2), .val (.int (0 : Int32)), .val (.int p1)] [])) _
    refine loop5 p2.toInt.toNat _ _ (by rw [Int.toNat_of_nonneg hp2]; exact hp4.symm) hp1 _ ?_
    show Steps p.tables e below (s₁.setTop (mkF m 30 #[.val (.ref r0), .val (.int p1), .val (.int p2), .val (.int (own_sum vv p2.toInt.toNat p1 (0 : Int32))), .val (.int (own_end p2.toInt.toNat p1))] [])) _
    refine XS.iloadN X0.here hx rfl (hb hby d3_30) rfl ?_
    show Steps p.tables e below (s₁.setTop (mkF m 31 #[.val (.ref r0), .val (.int p1), .val (.int p2), .val (.int (own_sum vv p2.toInt.toNat p1 (0 : Int32))), .val (.int (own_end p2.toInt.toNat p1))] [(.int (own_sum vv p2.toInt.toNat p1 (0 : Int32)))])) _
    refine X0.ldcInt hx hown (mvT hZ (hw _ (List.mem_of_getElem? (i := 14) rfl))) (g := (mkF m 31 #[.val (.ref r0), .val (.int p1), .val (.int p2), .val (.int (own_sum vv p2.toInt.toNat p1 (0 : Int32))), .val (.int (own_end p2.toInt.toNat p1))] [(.int (own_sum vv p2.toInt.toNat p1 (0 : Int32)))])) rfl (hb hby d3_31) _ ?_
    show Steps p.tables e below (s₁.setTop (mkF m 33 #[.val (.ref r0), .val (.int p1), .val (.int p2), .val (.int (own_sum vv p2.toInt.toNat p1 (0 : Int32))), .val (.int (own_end p2.toInt.toNat p1))] [(.int (65535 : Int32)), (.int (own_sum vv p2.toInt.toNat p1 (0 : Int32)))])) _
    refine XS.iand X0.here hx rfl (hb hby d3_33) rfl ?_
    show Steps p.tables e below (s₁.setTop (mkF m 34 #[.val (.ref r0), .val (.int p1), .val (.int p2), .val (.int (own_sum vv p2.toInt.toNat p1 (0 : Int32))), .val (.int (own_end p2.toInt.toNat p1))] [(.int ((own_sum vv p2.toInt.toNat p1 (0 : Int32)) &&& (65535 : Int32)))])) _
    exact retI X0 hx Bd.returns (hb hby d3_34) hr
  · show Q3 Z r0 p1 p2 cl vv h0 n0 _ s₁.heap _
    rw [e0]
    exact ⟨by rw [show f3 p1 p2 vv = ((own_sum vv p2.toInt.toNat p1 (0 : Int32)) &&& (65535 : Int32)) from by unfold f3; rfl], N0, rfl⟩
def own_v (q0 : Int64) (i : Int32) : Int32 := (((f1 q0 i).toInt8.toInt32).toInt8.toInt32)
def own_off (p1 : Int32) : Int32 := (p1 &&& 2147483647) % 9
def own_len (p1 p2 : Int32) : Int32 := (p2 &&& 2147483647) % (9 - own_off p1)
theorem own_of {c : Int32} {k : Nat} (h0 : 0 ≤ c.toInt) (h1 : c.toInt < k) : ∃ n : Fin k, c = Int32.ofInt ((n.val : Nat) : Int) :=
  ⟨⟨c.toInt.toNat, by omega⟩, by show c = Int32.ofInt ((c.toInt.toNat : Nat) : Int); rw [Int.toNat_of_nonneg h0, Int32.ofInt_toInt]⟩
theorem own_nn (x : Int32) : 0 ≤ (x &&& 2147483647).toInt := by
  have e := c_mask x 2147483647 31 (by decide) (by decide)
  have e2 : ((2 ^ 31 : Nat) : Int) = 2147483648 := by decide
  rw [e, e2]; omega
theorem own_offv (p1 : Int32) : 0 ≤ (own_off p1).toInt ∧ (own_off p1).toInt ≤ 8 := by
  have h := (c_irem (p1 &&& 2147483647) 9 9 rfl).1 (own_nn p1)
  unfold own_off
  rw [h]; omega
theorem own_d (p1 : Int32) : ((9 : Int32) - own_off p1).toInt = 9 - (own_off p1).toInt := by
  have h := own_offv p1
  have s := c_isub 9 (own_off p1)
  have r := rng32 ((9 : Int32) - own_off p1)
  have l : (9 : Int32).toInt = 9 := rfl
  omega
theorem own_nz9 (p1 : Int32) : (9 : Int32) - own_off p1 ≠ 0 := fun q => by
  have h := own_offv p1
  have d := own_d p1
  rw [q] at d
  have l : (0 : Int32).toInt = 0 := rfl
  omega
theorem own_lenv (p1 p2 : Int32) : 0 ≤ (own_len p1 p2).toInt ∧ (own_off p1).toInt + (own_len p1 p2).toInt ≤ 8 := by
  have h := own_offv p1
  have d := own_d p1
  have q := (c_irem (p2 &&& 2147483647) (9 - own_off p1) _ rfl).1 (own_nn p2)
  unfold own_len
  rw [q]
  have a := Int.emod_nonneg (p2 &&& 2147483647).toInt (show ((9 : Int32) - own_off p1).toInt ≠ 0 by omega)
  have b := Int.emod_lt_of_pos (p2 &&& 2147483647).toInt (show 0 < ((9 : Int32) - own_off p1).toInt by omega)
  omega
theorem own_b1 (p1 p2 : Int32) : 0 ≤ (own_off p1).toInt := (own_offv p1).1
theorem own_b2 (p1 p2 : Int32) : 0 ≤ (own_len p1 p2).toInt := (own_lenv p1 p2).1
theorem own_b3 (p1 p2 : Int32) : (own_off p1).toInt + (own_len p1 p2).toInt ≤ 8 := (own_lenv p1 p2).2
theorem own_hat (q0 : Int64) {c : Cell} {dv : Value} (H : Has c [.int (own_v q0 0), .int (own_v q0 1), .int (own_v q0 2), .int (own_v q0 3), .int (own_v q0 4), .int (own_v q0 5), .int (own_v q0 6), .int (own_v q0 7)] dv) (S : c.slots.size = (8 : Int32).toNatClampNeg) :
    ∀ i : Int32, 0 ≤ i.toInt → i.toInt < 8 → c.slots[i.toNatClampNeg]? = some (.int (own_v q0 i)) := by
  intro i h0 h1
  obtain ⟨n, rfl⟩ := own_of (k := 8) h0 h1
  have hs := H n.val (by rw [S]; have := n.isLt; show n.val < 8; omega)
  have e : ∀ n : Fin 8, (Int32.ofInt ((n.val : Nat) : Int)).toNatClampNeg = n.val := by decide +kernel
  rw [e n, hs]
  match n with
  | ⟨0, _⟩ => rfl
  | ⟨1, _⟩ => rfl
  | ⟨2, _⟩ => rfl
  | ⟨3, _⟩ => rfl
  | ⟨4, _⟩ => rfl
  | ⟨5, _⟩ => rfl
  | ⟨6, _⟩ => rfl
  | ⟨7, _⟩ => rfl
theorem pd_1 : parseMethodDescriptor "(JIII)I" = some ⟨[.long, .int, .int, .int], some .int⟩ := by decide +kernel
theorem pd_2 : parseMethodDescriptor "([BII)I" = some ⟨[(.array .byte), .int, .int], some .int⟩ := by decide +kernel
theorem ef_0 (m : MethodId) (x0 : Int64) (x1 : Int32) (x2 : Int32) : entryFrame m #[(.long x0), (.int x1), (.int x2)] maxLocals = mkF m 0 #[.val (.long x0), .second, .val (.int x1), .val (.int x2), .unset, .unset, .unset, .unset, .unset] [] := by first | (simp [entryFrame, mkF, argsToLocals, Value.category, maxLocals]; done) | rfl
def f0_e1 (p1 : Int32) (p2 : Int32) : Int32 := ((p2 &&& (2147483647 : Int32)) % ((9 : Int32) - ((p1 &&& (2147483647 : Int32)) % (9 : Int32))))
def f0_e2 (q0 : Int64) (p1 : Int32) (p2 : Int32) : Int32 := (f2 q0 (0 : Int32) ((p1 &&& (2147483647 : Int32)) % (9 : Int32)) (f0_e1 p1 p2))
def f0_e3 (q0 : Int64) (p1 : Int32) (p2 : Int32) : Int32 := (f2 q0 (1 : Int32) ((p1 &&& (2147483647 : Int32)) % (9 : Int32)) (f0_e1 p1 p2))
def f0_e4 (q0 : Int64) (p1 : Int32) (p2 : Int32) : Int32 := (f2 q0 (2 : Int32) ((p1 &&& (2147483647 : Int32)) % (9 : Int32)) (f0_e1 p1 p2))
def f0_e5 (q0 : Int64) (p1 : Int32) (p2 : Int32) : Int32 := (f2 q0 (3 : Int32) ((p1 &&& (2147483647 : Int32)) % (9 : Int32)) (f0_e1 p1 p2))
def f0_e6 (q0 : Int64) (p1 : Int32) (p2 : Int32) : Int32 := ((((f0_e2 q0 p1 p2) + (f0_e3 q0 p1 p2)) + (f0_e4 q0 p1 p2)) + (f0_e5 q0 p1 p2))
def f0_e7 (q0 : Int64) (p1 : Int32) (p2 : Int32) : Int32 := (f2 q0 (4 : Int32) ((p1 &&& (2147483647 : Int32)) % (9 : Int32)) (f0_e1 p1 p2))
def f0_e8 (q0 : Int64) (p1 : Int32) (p2 : Int32) : Int32 := (f2 q0 (5 : Int32) ((p1 &&& (2147483647 : Int32)) % (9 : Int32)) (f0_e1 p1 p2))
def f0_e9 (q0 : Int64) (p1 : Int32) (p2 : Int32) : Int32 := (f2 q0 (6 : Int32) ((p1 &&& (2147483647 : Int32)) % (9 : Int32)) (f0_e1 p1 p2))
def f0_e10 (q0 : Int64) (p1 : Int32) (p2 : Int32) : Int32 := ((((f0_e6 q0 p1 p2) + (f0_e7 q0 p1 p2)) + (f0_e8 q0 p1 p2)) + (f0_e9 q0 p1 p2))
def f0_e11 (q0 : Int64) (p1 : Int32) (p2 : Int32) : Int32 := (f2 q0 (7 : Int32) ((p1 &&& (2147483647 : Int32)) % (9 : Int32)) (f0_e1 p1 p2))
def f0_e12 (q0 : Int64) (p1 : Int32) (p2 : Int32) : Int32 := (f3 ((p1 &&& (2147483647 : Int32)) % (9 : Int32)) (f0_e1 p1 p2) (own_v q0))
def f0 (q0 : Int64) (p1 : Int32) (p2 : Int32) : Int32 := (if (f0_e12 q0 p1 p2) = ((f0_e10 q0 p1 p2) + (f0_e11 q0 p1 p2)) then (1 : Int32) else (0 : Int32))
def Q0 (Z : State) (q0 : Int64) (p1 : Int32) (p2 : Int32) (h0 : Heap) (n0 : Nat) (v : Option Value) (h : Heap) (L : List Loc) : Prop := v = some (.int (f0 q0 p1 p2)) ∧ Fr n0 L
set_option maxRecDepth 65536 in
set_option maxHeartbeats 40000000 in
theorem rm0 (l : Launch) (Z : State) (a0 : Array Value) (hw : ∀ d ∈ tables_1, d.before a0 Z = true) (ws : List Jvm.Cond) (q0 : Int64) (p1 : Int32) (p2 : Int32) (h0 : Heap) (n0 : Nat) (Z0 : n0 ≤ h0.size)  :
    MetFree l x (head1 (Jvm.Cond.code x code maxLocals ret :: ws) room_1) (fun a U => a = #[(.long q0), (.int p1), (.int p2)] ∧ Z.Warmed39 U.vm ∧ U.heap = h0) (fun _ _ _ _ _ => True) (fun _ U o U' => ∃ v L, o = .returned v ∧ Q0 Z q0 p1 p2 h0 n0 v U'.heap L ∧ FrameEnd U o U' L room_1.cells room_1.slots) := by
  refine MetFree.of_bodySF (plainFor_of_name pn_0) hisR ?_
  intro p e s m args below meth c s₁ Bd hml0 hP hK
  obtain ⟨rfl, hZ, hh⟩ := hP
  have hx := Bd.exec
  have hby := Bd.bytes
  have hml : c.maxLocals = 9 := hml0
  have hown : s.vm.findClass "com/example/sealwax/sealwax/OctetSumOfPinLaw" = some m.cls := findClass_of_methodNamed Bd.named
  have hnm := (name_of_methodNamed Bd.named Bd.method).1
  have X0 : Stand p l e room_1 s m #[(.long q0), (.int p1), (.int p2)] below meth c s₁ [] 0 0 := Stand.of_body Bd
  have e0 : s₁.heap = h0 := by rw [← hh, Bd.state]; rfl
  have hlk : meth.locks = false := by first | exact BodyLoose.notSynchronized Bd | exact Body.notSynchronized Bd
  have N0 := Fr.nil n0
  have K0 := Keep.refl h0 []
  have pre0 : ∀ t, Steps p.tables e below (s₁.setTop (mkF m 0 #[.val (.long q0), .second, .val (.int p1), .val (.int p2), .unset, .unset, .unset, .unset, .unset] [])) t → Steps p.tables e below (s₁.setTop (entryFrame m #[(.long q0), (.int p1), (.int p2)] maxLocals)) t := fun t k => castTop (ef_0 m q0 p1 p2) k
  obtain ⟨T1, h1, k1, X1, e1, E1, A1, st1⟩ := newP X0 hx hZ (hw _ (List.mem_of_getElem? (i := 0) rfl)) e0 (g := (mkF m 2 #[.val (.long q0), .second, .val (.int p1), .val (.int p2), .unset, .unset, .unset, .unset, .unset] [(.int (8 : Int32))])) rfl (hb hby at_2) rfl (by decide) (cap := 8) (by decide) (by decide) (by decide) (by decide)
  obtain ⟨b1, g1⟩ : ∃ z, z = h0.size := ⟨_, rfl⟩
  rw [← g1] at A1 st1
  have gn_b1 : n0 ≤ b1 := Nat.le_trans Z0 (Nat.le_of_eq g1.symm)
  have sz_b1 : h0.size ≤ b1 := Nat.le_trans K0.1 (Nat.le_of_eq g1.symm)
  have Zz1 := Nat.le_trans Z0 E1.1
  have K1 := K0.ext E1
  have V_b1 : Arv Z h1 b1 k1 .byte (8 : Int32) [(.int (0 : Int32)), (.int (0 : Int32)), (.int (0 : Int32)), (.int (0 : Int32)), (.int (0 : Int32)), (.int (0 : Int32)), (.int (0 : Int32)), (.int (0 : Int32))] (.int (0 : Int32)) := (Arv.new A1 (by decide)).pad (pad_rep [] (.int (0 : Int32)) 8)
  obtain ⟨_, _, ⟨T2, L2, k2, n2⟩, -, X2, ⟨Lc2, hQ2, l2, y2, z2⟩, st2⟩ := Jvm.LawKit.callS X1 hx (y := (⟨"com/example/sealwax/sealwax/OctetSumOfPinLaw", "octet", "(JI)I"⟩ : MethodName)) hown (mvT hZ (hw _ (List.mem_of_getElem? (i := 1) rfl))) (mvT hZ (hw _ (List.mem_of_getElem? (i := 2) rfl))) (mvT hZ (hw _ (List.mem_of_getElem? (i := 3) rfl))) (mvT hZ (hw _ (List.mem_of_getElem? (i := 4) rfl))) (by decide) (backOf (W := 2) (rm1 l Z a0 hw [] q0 (0 : Int32) h1 n0 Zz1) hZ (hw _ (List.mem_of_getElem? (i := 4) rfl)) (hw _ (List.mem_of_getElem? (i := 3) rfl)) (by decide) (by decide)) (g := (mkF m 11 #[.val (.long q0), .second, .val (.int p1), .val (.int p2), .val (.ref b1), .unset, .unset, .unset, .unset] [(.int (0 : Int32)), (.long q0), (.int (0 : Int32)), (.ref b1)])) rfl (by rw [hml]; rfl) (argsL := [(.long q0), (.int (0 : Int32))]) (rest := [(.int (0 : Int32)), (.ref b1)]) (lenOf pd_0 rfl) rfl (by show 2 * 0 + _ ≤ _; exact Nat.le_of_eq rfl) (hb hby at_11) (fun _ _ => ⟨rfl, e1, (by decide : 1 + 0 ≤ _), (by decide : 8 + 0 ≤ _)⟩)
  dsimp only [Pt.U, Pt.locs, Pt.cells, Pt.slots] at X2 l2 y2 z2 st2 hQ2
  obtain rfl : k2 = 1 := y2
  obtain rfl : n2 = 8 := z2
  obtain ⟨rfl, N2q, e2⟩ := hQ2
  have N2 : Fr n0 L2 := by rw [l2]; exact Fr.app N0 N2q
  obtain ⟨cl3, Ar3, q3, S3, N3_, H3, G3⟩ := id V_b1
  have hin3 : ¬ ((0 : Int32) < 0 ∨ cl3.slots.size ≤ ((0 : Int32)).toNatClampNeg) := inb_of S3 ⟨by decide, by decide⟩
  obtain ⟨T3, h3, X3, e3, W3, st3⟩ := stB X2 hx hZ e2 Ar3 (j := (0 : Int32)) hin3 (g := (mkF m 15 #[.val (.long q0), .second, .val (.int p1), .val (.int p2), .val (.ref b1), .unset, .unset, .unset, .unset] [(.int ((f1 q0 (0 : Int32)).toInt8.toInt32)), (.int (0 : Int32)), (.ref b1)])) rfl rfl (hb hby at_15)
  have V_b1_3 : Arv Z h3 b1 k1 .byte (8 : Int32) [(.int (((f1 q0 (0 : Int32)).toInt8.toInt32).toInt8.toInt32)), (.int (0 : Int32)), (.int (0 : Int32)), (.int (0 : Int32)), (.int (0 : Int32)), (.int (0 : Int32)), (.int (0 : Int32)), (.int (0 : Int32))] (.int (0 : Int32)) := Arv.set Ar3 q3 S3 N3_ H3 G3 (fits_nar_byte _) W3 0 rfl (Nat.le_of_ble_eq_true rfl)
  have N3 := Fr.snoc X3 N2 gn_b1
  have Zz3 := Nat.le_trans Zz1 (Keep.of_wr W3).1
  have K3 : Keep h0 h3 [] := K1.wr W3 (Or.inr sz_b1)
  obtain ⟨_, _, ⟨T4, L4, k4, n4⟩, -, X4, ⟨Lc4, hQ4, l4, y4, z4⟩, st4⟩ := Jvm.LawKit.callS X3 hx (y := (⟨"com/example/sealwax/sealwax/OctetSumOfPinLaw", "octet", "(JI)I"⟩ : MethodName)) hown (mvT hZ (hw _ (List.mem_of_getElem? (i := 1) rfl))) (mvT hZ (hw _ (List.mem_of_getElem? (i := 2) rfl))) (mvT hZ (hw _ (List.mem_of_getElem? (i := 3) rfl))) (mvT hZ (hw _ (List.mem_of_getElem? (i := 4) rfl))) (by decide) (backOf (W := 2) (rm1 l Z a0 hw [] q0 (1 : Int32) h3 n0 Zz3) hZ (hw _ (List.mem_of_getElem? (i := 4) rfl)) (hw _ (List.mem_of_getElem? (i := 3) rfl)) (by decide) (by decide)) (g := (mkF m 21 #[.val (.long q0), .second, .val (.int p1), .val (.int p2), .val (.ref b1), .unset, .unset, .unset, .unset] [(.int (1 : Int32)), (.long q0), (.int (1 : Int32)), (.ref b1)])) rfl (by rw [hml]; rfl) (argsL := [(.long q0), (.int (1 : Int32))]) (rest := [(.int (1 : Int32)), (.ref b1)]) (lenOf pd_0 rfl) rfl (by show 2 * 0 + _ ≤ _; exact Nat.le_of_eq rfl) (hb hby at_21) (fun _ _ => ⟨rfl, e3, (by decide : 1 + 0 ≤ _), (by decide : 8 + 0 ≤ _)⟩)
  dsimp only [Pt.U, Pt.locs, Pt.cells, Pt.slots] at X4 l4 y4 z4 st4 hQ4
  obtain rfl : k4 = 1 := y4
  obtain rfl : n4 = 8 := z4
  obtain ⟨rfl, N4q, e4⟩ := hQ4
  have N4 : Fr n0 L4 := by rw [l4]; exact Fr.app N3 N4q
  obtain ⟨cl5, Ar5, q5, S5, N5_, H5, G5⟩ := id V_b1_3
  have hin5 : ¬ ((1 : Int32) < 0 ∨ cl5.slots.size ≤ ((1 : Int32)).toNatClampNeg) := inb_of S5 ⟨by decide, by decide⟩
  obtain ⟨T5, h5, X5, e5, W5, st5⟩ := stB X4 hx hZ e4 Ar5 (j := (1 : Int32)) hin5 (g := (mkF m 25 #[.val (.long q0), .second, .val (.int p1), .val (.int p2), .val (.ref b1), .unset, .unset, .unset, .unset] [(.int ((f1 q0 (1 : Int32)).toInt8.toInt32)), (.int (1 : Int32)), (.ref b1)])) rfl rfl (hb hby at_25)
  have V_b1_5 : Arv Z h5 b1 k1 .byte (8 : Int32) [(.int (((f1 q0 (0 : Int32)).toInt8.toInt32).toInt8.toInt32)), (.int (((f1 q0 (1 : Int32)).toInt8.toInt32).toInt8.toInt32)), (.int (0 : Int32)), (.int (0 : Int32)), (.int (0 : Int32)), (.int (0 : Int32)), (.int (0 : Int32)), (.int (0 : Int32))] (.int (0 : Int32)) := Arv.set Ar5 q5 S5 N5_ H5 G5 (fits_nar_byte _) W5 1 rfl (Nat.le_of_ble_eq_true rfl)
  have N5 := Fr.snoc X5 N4 gn_b1
  have Zz5 := Nat.le_trans Zz3 (Keep.of_wr W5).1
  have K5 : Keep h0 h5 [] := K3.wr W5 (Or.inr sz_b1)
  obtain ⟨_, _, ⟨T6, L6, k6, n6⟩, -, X6, ⟨Lc6, hQ6, l6, y6, z6⟩, st6⟩ := Jvm.LawKit.callS X5 hx (y := (⟨"com/example/sealwax/sealwax/OctetSumOfPinLaw", "octet", "(JI)I"⟩ : MethodName)) hown (mvT hZ (hw _ (List.mem_of_getElem? (i := 1) rfl))) (mvT hZ (hw _ (List.mem_of_getElem? (i := 2) rfl))) (mvT hZ (hw _ (List.mem_of_getElem? (i := 3) rfl))) (mvT hZ (hw _ (List.mem_of_getElem? (i := 4) rfl))) (by decide) (backOf (W := 2) (rm1 l Z a0 hw [] q0 (2 : Int32) h5 n0 Zz5) hZ (hw _ (List.mem_of_getElem? (i := 4) rfl)) (hw _ (List.mem_of_getElem? (i := 3) rfl)) (by decide) (by decide)) (g := (mkF m 31 #[.val (.long q0), .second, .val (.int p1), .val (.int p2), .val (.ref b1), .unset, .unset, .unset, .unset] [(.int (2 : Int32)), (.long q0), (.int (2 : Int32)), (.ref b1)])) rfl (by rw [hml]; rfl) (argsL := [(.long q0), (.int (2 : Int32))]) (rest := [(.int (2 : Int32)), (.ref b1)]) (lenOf pd_0 rfl) rfl (by show 2 * 0 + _ ≤ _; exact Nat.le_of_eq rfl) (hb hby at_31) (fun _ _ => ⟨rfl, e5, (by decide : 1 + 0 ≤ _), (by decide : 8 + 0 ≤ _)⟩)
  dsimp only [Pt.U, Pt.locs, Pt.cells, Pt.slots] at X6 l6 y6 z6 st6 hQ6
  obtain rfl : k6 = 1 := y6
  obtain rfl : n6 = 8 := z6
  obtain ⟨rfl, N6q, e6⟩ := hQ6
  have N6 : Fr n0 L6 := by rw [l6]; exact Fr.app N5 N6q
  obtain ⟨cl7, Ar7, q7, S7, N7_, H7, G7⟩ := id V_b1_5
  have hin7 : ¬ ((2 : Int32) < 0 ∨ cl7.slots.size ≤ ((2 : Int32)).toNatClampNeg) := inb_of S7 ⟨by decide, by decide⟩
  obtain ⟨T7, h7, X7, e7, W7, st7⟩ := stB X6 hx hZ e6 Ar7 (j := (2 : Int32)) hin7 (g := (mkF m 35 #[.val (.long q0), .second, .val (.int p1), .val (.int p2), .val (.ref b1), .unset, .unset, .unset, .unset] [(.int ((f1 q0 (2 : Int32)).toInt8.toInt32)), (.int (2 : Int32)), (.ref b1)])) rfl rfl (hb hby at_35)
  have V_b1_7 : Arv Z h7 b1 k1 .byte (8 : Int32) [(.int (((f1 q0 (0 : Int32)).toInt8.toInt32).toInt8.toInt32)), (.int (((f1 q0 (1 : Int32)).toInt8.toInt32).toInt8.toInt32)), (.int (((f1 q0 (2 : Int32)).toInt8.toInt32).toInt8.toInt32)), (.int (0 : Int32)), (.int (0 : Int32)), (.int (0 : Int32)), (.int (0 : Int32)), (.int (0 : Int32))] (.int (0 : Int32)) := Arv.set Ar7 q7 S7 N7_ H7 G7 (fits_nar_byte _) W7 2 rfl (Nat.le_of_ble_eq_true rfl)
  have N7 := Fr.snoc X7 N6 gn_b1
  have Zz7 := Nat.le_trans Zz5 (Keep.of_wr W7).1
  have K7 : Keep h0 h7 [] := K5.wr W7 (Or.inr sz_b1)
  obtain ⟨_, _, ⟨T8, L8, k8, n8⟩, -, X8, ⟨Lc8, hQ8, l8, y8, z8⟩, st8⟩ := Jvm.LawKit.callS X7 hx (y := (⟨"com/example/sealwax/sealwax/OctetSumOfPinLaw", "octet", "(JI)I"⟩ : MethodName)) hown (mvT hZ (hw _ (List.mem_of_getElem? (i := 1) rfl))) (mvT hZ (hw _ (List.mem_of_getElem? (i := 2) rfl))) (mvT hZ (hw _ (List.mem_of_getElem? (i := 3) rfl))) (mvT hZ (hw _ (List.mem_of_getElem? (i := 4) rfl))) (by decide) (backOf (W := 2) (rm1 l Z a0 hw [] q0 (3 : Int32) h7 n0 Zz7) hZ (hw _ (List.mem_of_getElem? (i := 4) rfl)) (hw _ (List.mem_of_getElem? (i := 3) rfl)) (by decide) (by decide)) (g := (mkF m 41 #[.val (.long q0), .second, .val (.int p1), .val (.int p2), .val (.ref b1), .unset, .unset, .unset, .unset] [(.int (3 : Int32)), (.long q0), (.int (3 : Int32)), (.ref b1)])) rfl (by rw [hml]; rfl) (argsL := [(.long q0), (.int (3 : Int32))]) (rest := [(.int (3 : Int32)), (.ref b1)]) (lenOf pd_0 rfl) rfl (by show 2 * 0 + _ ≤ _; exact Nat.le_of_eq rfl) (hb hby at_41) (fun _ _ => ⟨rfl, e7, (by decide : 1 + 0 ≤ _), (by decide : 8 + 0 ≤ _)⟩)
  dsimp only [Pt.U, Pt.locs, Pt.cells, Pt.slots] at X8 l8 y8 z8 st8 hQ8
  obtain rfl : k8 = 1 := y8
  obtain rfl : n8 = 8 := z8
  obtain ⟨rfl, N8q, e8⟩ := hQ8
  have N8 : Fr n0 L8 := by rw [l8]; exact Fr.app N7 N8q
  obtain ⟨cl9, Ar9, q9, S9, N9_, H9, G9⟩ := id V_b1_7
  have hin9 : ¬ ((3 : Int32) < 0 ∨ cl9.slots.size ≤ ((3 : Int32)).toNatClampNeg) := inb_of S9 ⟨by decide, by decide⟩
  obtain ⟨T9, h9, X9, e9, W9, st9⟩ := stB X8 hx hZ e8 Ar9 (j := (3 : Int32)) hin9 (g := (mkF m 45 #[.val (.long q0), .second, .val (.int p1), .val (.int p2), .val (.ref b1), .unset, .unset, .unset, .unset] [(.int ((f1 q0 (3 : Int32)).toInt8.toInt32)), (.int (3 : Int32)), (.ref b1)])) rfl rfl (hb hby at_45)
  have V_b1_9 : Arv Z h9 b1 k1 .byte (8 : Int32) [(.int (((f1 q0 (0 : Int32)).toInt8.toInt32).toInt8.toInt32)), (.int (((f1 q0 (1 : Int32)).toInt8.toInt32).toInt8.toInt32)), (.int (((f1 q0 (2 : Int32)).toInt8.toInt32).toInt8.toInt32)), (.int (((f1 q0 (3 : Int32)).toInt8.toInt32).toInt8.toInt32)), (.int (0 : Int32)), (.int (0 : Int32)), (.int (0 : Int32)), (.int (0 : Int32))] (.int (0 : Int32)) := Arv.set Ar9 q9 S9 N9_ H9 G9 (fits_nar_byte _) W9 3 rfl (Nat.le_of_ble_eq_true rfl)
  have N9 := Fr.snoc X9 N8 gn_b1
  have Zz9 := Nat.le_trans Zz7 (Keep.of_wr W9).1
  have K9 : Keep h0 h9 [] := K7.wr W9 (Or.inr sz_b1)
  obtain ⟨_, _, ⟨T10, L10, k10, n10⟩, -, X10, ⟨Lc10, hQ10, l10, y10, z10⟩, st10⟩ := Jvm.LawKit.callS X9 hx (y := (⟨"com/example/sealwax/sealwax/OctetSumOfPinLaw", "octet", "(JI)I"⟩ : MethodName)) hown (mvT hZ (hw _ (List.mem_of_getElem? (i := 1) rfl))) (mvT hZ (hw _ (List.mem_of_getElem? (i := 2) rfl))) (mvT hZ (hw _ (List.mem_of_getElem? (i := 3) rfl))) (mvT hZ (hw _ (List.mem_of_getElem? (i := 4) rfl))) (by decide) (backOf (W := 2) (rm1 l Z a0 hw [] q0 (4 : Int32) h9 n0 Zz9) hZ (hw _ (List.mem_of_getElem? (i := 4) rfl)) (hw _ (List.mem_of_getElem? (i := 3) rfl)) (by decide) (by decide)) (g := (mkF m 51 #[.val (.long q0), .second, .val (.int p1), .val (.int p2), .val (.ref b1), .unset, .unset, .unset, .unset] [(.int (4 : Int32)), (.long q0), (.int (4 : Int32)), (.ref b1)])) rfl (by rw [hml]; rfl) (argsL := [(.long q0), (.int (4 : Int32))]) (rest := [(.int (4 : Int32)), (.ref b1)]) (lenOf pd_0 rfl) rfl (by show 2 * 0 + _ ≤ _; exact Nat.le_of_eq rfl) (hb hby at_51) (fun _ _ => ⟨rfl, e9, (by decide : 1 + 0 ≤ _), (by decide : 8 + 0 ≤ _)⟩)
  dsimp only [Pt.U, Pt.locs, Pt.cells, Pt.slots] at X10 l10 y10 z10 st10 hQ10
  obtain rfl : k10 = 1 := y10
  obtain rfl : n10 = 8 := z10
  obtain ⟨rfl, N10q, e10⟩ := hQ10
  have N10 : Fr n0 L10 := by rw [l10]; exact Fr.app N9 N10q
  obtain ⟨cl11, Ar11, q11, S11, N11_, H11, G11⟩ := id V_b1_9
  have hin11 : ¬ ((4 : Int32) < 0 ∨ cl11.slots.size ≤ ((4 : Int32)).toNatClampNeg) := inb_of S11 ⟨by decide, by decide⟩
  obtain ⟨T11, h11, X11, e11, W11, st11⟩ := stB X10 hx hZ e10 Ar11 (j := (4 : Int32)) hin11 (g := (mkF m 55 #[.val (.long q0), .second, .val (.int p1), .val (.int p2), .val (.ref b1), .unset, .unset, .unset, .unset] [(.int ((f1 q0 (4 : Int32)).toInt8.toInt32)), (.int (4 : Int32)), (.ref b1)])) rfl rfl (hb hby at_55)
  have V_b1_11 : Arv Z h11 b1 k1 .byte (8 : Int32) [(.int (((f1 q0 (0 : Int32)).toInt8.toInt32).toInt8.toInt32)), (.int (((f1 q0 (1 : Int32)).toInt8.toInt32).toInt8.toInt32)), (.int (((f1 q0 (2 : Int32)).toInt8.toInt32).toInt8.toInt32)), (.int (((f1 q0 (3 : Int32)).toInt8.toInt32).toInt8.toInt32)), (.int (((f1 q0 (4 : Int32)).toInt8.toInt32).toInt8.toInt32)), (.int (0 : Int32)), (.int (0 : Int32)), (.int (0 : Int32))] (.int (0 : Int32)) := Arv.set Ar11 q11 S11 N11_ H11 G11 (fits_nar_byte _) W11 4 rfl (Nat.le_of_ble_eq_true rfl)
  have N11 := Fr.snoc X11 N10 gn_b1
  have Zz11 := Nat.le_trans Zz9 (Keep.of_wr W11).1
  have K11 : Keep h0 h11 [] := K9.wr W11 (Or.inr sz_b1)
  obtain ⟨_, _, ⟨T12, L12, k12, n12⟩, -, X12, ⟨Lc12, hQ12, l12, y12, z12⟩, st12⟩ := Jvm.LawKit.callS X11 hx (y := (⟨"com/example/sealwax/sealwax/OctetSumOfPinLaw", "octet", "(JI)I"⟩ : MethodName)) hown (mvT hZ (hw _ (List.mem_of_getElem? (i := 1) rfl))) (mvT hZ (hw _ (List.mem_of_getElem? (i := 2) rfl))) (mvT hZ (hw _ (List.mem_of_getElem? (i := 3) rfl))) (mvT hZ (hw _ (List.mem_of_getElem? (i := 4) rfl))) (by decide) (backOf (W := 2) (rm1 l Z a0 hw [] q0 (5 : Int32) h11 n0 Zz11) hZ (hw _ (List.mem_of_getElem? (i := 4) rfl)) (hw _ (List.mem_of_getElem? (i := 3) rfl)) (by decide) (by decide)) (g := (mkF m 61 #[.val (.long q0), .second, .val (.int p1), .val (.int p2), .val (.ref b1), .unset, .unset, .unset, .unset] [(.int (5 : Int32)), (.long q0), (.int (5 : Int32)), (.ref b1)])) rfl (by rw [hml]; rfl) (argsL := [(.long q0), (.int (5 : Int32))]) (rest := [(.int (5 : Int32)), (.ref b1)]) (lenOf pd_0 rfl) rfl (by show 2 * 0 + _ ≤ _; exact Nat.le_of_eq rfl) (hb hby at_61) (fun _ _ => ⟨rfl, e11, (by decide : 1 + 0 ≤ _), (by decide : 8 + 0 ≤ _)⟩)
  dsimp only [Pt.U, Pt.locs, Pt.cells, Pt.slots] at X12 l12 y12 z12 st12 hQ12
  obtain rfl : k12 = 1 := y12
  obtain rfl : n12 = 8 := z12
  obtain ⟨rfl, N12q, e12⟩ := hQ12
  have N12 : Fr n0 L12 := by rw [l12]; exact Fr.app N11 N12q
  obtain ⟨cl13, Ar13, q13, S13, N13_, H13, G13⟩ := id V_b1_11
  have hin13 : ¬ ((5 : Int32) < 0 ∨ cl13.slots.size ≤ ((5 : Int32)).toNatClampNeg) := inb_of S13 ⟨by decide, by decide⟩
  obtain ⟨T13, h13, X13, e13, W13, st13⟩ := stB X12 hx hZ e12 Ar13 (j := (5 : Int32)) hin13 (g := (mkF m 65 #[.val (.long q0), .second, .val (.int p1), .val (.int p2), .val (.ref b1), .unset, .unset, .unset, .unset] [(.int ((f1 q0 (5 : Int32)).toInt8.toInt32)), (.int (5 : Int32)), (.ref b1)])) rfl rfl (hb hby at_65)
  have V_b1_13 : Arv Z h13 b1 k1 .byte (8 : Int32) [(.int (((f1 q0 (0 : Int32)).toInt8.toInt32).toInt8.toInt32)), (.int (((f1 q0 (1 : Int32)).toInt8.toInt32).toInt8.toInt32)), (.int (((f1 q0 (2 : Int32)).toInt8.toInt32).toInt8.toInt32)), (.int (((f1 q0 (3 : Int32)).toInt8.toInt32).toInt8.toInt32)), (.int (((f1 q0 (4 : Int32)).toInt8.toInt32).toInt8.toInt32)), (.int (((f1 q0 (5 : Int32)).toInt8.toInt32).toInt8.toInt32)), (.int (0 : Int32)), (.int (0 : Int32))] (.int (0 : Int32)) := Arv.set Ar13 q13 S13 N13_ H13 G13 (fits_nar_byte _) W13 5 rfl (Nat.le_of_ble_eq_true rfl)
  have N13 := Fr.snoc X13 N12 gn_b1
  have Zz13 := Nat.le_trans Zz11 (Keep.of_wr W13).1
  have K13 : Keep h0 h13 [] := K11.wr W13 (Or.inr sz_b1)
  obtain ⟨_, _, ⟨T14, L14, k14, n14⟩, -, X14, ⟨Lc14, hQ14, l14, y14, z14⟩, st14⟩ := Jvm.LawKit.callS X13 hx (y := (⟨"com/example/sealwax/sealwax/OctetSumOfPinLaw", "octet", "(JI)I"⟩ : MethodName)) hown (mvT hZ (hw _ (List.mem_of_getElem? (i := 1) rfl))) (mvT hZ (hw _ (List.mem_of_getElem? (i := 2) rfl))) (mvT hZ (hw _ (List.mem_of_getElem? (i := 3) rfl))) (mvT hZ (hw _ (List.mem_of_getElem? (i := 4) rfl))) (by decide) (backOf (W := 2) (rm1 l Z a0 hw [] q0 (6 : Int32) h13 n0 Zz13) hZ (hw _ (List.mem_of_getElem? (i := 4) rfl)) (hw _ (List.mem_of_getElem? (i := 3) rfl)) (by decide) (by decide)) (g := (mkF m 73 #[.val (.long q0), .second, .val (.int p1), .val (.int p2), .val (.ref b1), .unset, .unset, .unset, .unset] [(.int (6 : Int32)), (.long q0), (.int (6 : Int32)), (.ref b1)])) rfl (by rw [hml]; rfl) (argsL := [(.long q0), (.int (6 : Int32))]) (rest := [(.int (6 : Int32)), (.ref b1)]) (lenOf pd_0 rfl) rfl (by show 2 * 0 + _ ≤ _; exact Nat.le_of_eq rfl) (hb hby at_73) (fun _ _ => ⟨rfl, e13, (by decide : 1 + 0 ≤ _), (by decide : 8 + 0 ≤ _)⟩)
  dsimp only [Pt.U, Pt.locs, Pt.cells, Pt.slots] at X14 l14 y14 z14 st14 hQ14
  obtain rfl : k14 = 1 := y14
  obtain rfl : n14 = 8 := z14
  obtain ⟨rfl, N14q, e14⟩ := hQ14
  have N14 : Fr n0 L14 := by rw [l14]; exact Fr.app N13 N14q
  obtain ⟨cl15, Ar15, q15, S15, N15_, H15, G15⟩ := id V_b1_13
  have hin15 : ¬ ((6 : Int32) < 0 ∨ cl15.slots.size ≤ ((6 : Int32)).toNatClampNeg) := inb_of S15 ⟨by decide, by decide⟩
  obtain ⟨T15, h15, X15, e15, W15, st15⟩ := stB X14 hx hZ e14 Ar15 (j := (6 : Int32)) hin15 (g := (mkF m 77 #[.val (.long q0), .second, .val (.int p1), .val (.int p2), .val (.ref b1), .unset, .unset, .unset, .unset] [(.int ((f1 q0 (6 : Int32)).toInt8.toInt32)), (.int (6 : Int32)), (.ref b1)])) rfl rfl (hb hby at_77)
  have V_b1_15 : Arv Z h15 b1 k1 .byte (8 : Int32) [(.int (((f1 q0 (0 : Int32)).toInt8.toInt32).toInt8.toInt32)), (.int (((f1 q0 (1 : Int32)).toInt8.toInt32).toInt8.toInt32)), (.int (((f1 q0 (2 : Int32)).toInt8.toInt32).toInt8.toInt32)), (.int (((f1 q0 (3 : Int32)).toInt8.toInt32).toInt8.toInt32)), (.int (((f1 q0 (4 : Int32)).toInt8.toInt32).toInt8.toInt32)), (.int (((f1 q0 (5 : Int32)).toInt8.toInt32).toInt8.toInt32)), (.int (((f1 q0 (6 : Int32)).toInt8.toInt32).toInt8.toInt32)), (.int (0 : Int32))] (.int (0 : Int32)) := Arv.set Ar15 q15 S15 N15_ H15 G15 (fits_nar_byte _) W15 6 rfl (Nat.le_of_ble_eq_true rfl)
  have N15 := Fr.snoc X15 N14 gn_b1
  have Zz15 := Nat.le_trans Zz13 (Keep.of_wr W15).1
  have K15 : Keep h0 h15 [] := K13.wr W15 (Or.inr sz_b1)
  obtain ⟨_, _, ⟨T16, L16, k16, n16⟩, -, X16, ⟨Lc16, hQ16, l16, y16, z16⟩, st16⟩ := Jvm.LawKit.callS X15 hx (y := (⟨"com/example/sealwax/sealwax/OctetSumOfPinLaw", "octet", "(JI)I"⟩ : MethodName)) hown (mvT hZ (hw _ (List.mem_of_getElem? (i := 1) rfl))) (mvT hZ (hw _ (List.mem_of_getElem? (i := 2) rfl))) (mvT hZ (hw _ (List.mem_of_getElem? (i := 3) rfl))) (mvT hZ (hw _ (List.mem_of_getElem? (i := 4) rfl))) (by decide) (backOf (W := 2) (rm1 l Z a0 hw [] q0 (7 : Int32) h15 n0 Zz15) hZ (hw _ (List.mem_of_getElem? (i := 4) rfl)) (hw _ (List.mem_of_getElem? (i := 3) rfl)) (by decide) (by decide)) (g := (mkF m 85 #[.val (.long q0), .second, .val (.int p1), .val (.int p2), .val (.ref b1), .unset, .unset, .unset, .unset] [(.int (7 : Int32)), (.long q0), (.int (7 : Int32)), (.ref b1)])) rfl (by rw [hml]; rfl) (argsL := [(.long q0), (.int (7 : Int32))]) (rest := [(.int (7 : Int32)), (.ref b1)]) (lenOf pd_0 rfl) rfl (by show 2 * 0 + _ ≤ _; exact Nat.le_of_eq rfl) (hb hby at_85) (fun _ _ => ⟨rfl, e15, (by decide : 1 + 0 ≤ _), (by decide : 8 + 0 ≤ _)⟩)
  dsimp only [Pt.U, Pt.locs, Pt.cells, Pt.slots] at X16 l16 y16 z16 st16 hQ16
  obtain rfl : k16 = 1 := y16
  obtain rfl : n16 = 8 := z16
  obtain ⟨rfl, N16q, e16⟩ := hQ16
  have N16 : Fr n0 L16 := by rw [l16]; exact Fr.app N15 N16q
  obtain ⟨cl17, Ar17, q17, S17, N17_, H17, G17⟩ := id V_b1_15
  have hin17 : ¬ ((7 : Int32) < 0 ∨ cl17.slots.size ≤ ((7 : Int32)).toNatClampNeg) := inb_of S17 ⟨by decide, by decide⟩
  obtain ⟨T17, h17, X17, e17, W17, st17⟩ := stB X16 hx hZ e16 Ar17 (j := (7 : Int32)) hin17 (g := (mkF m 89 #[.val (.long q0), .second, .val (.int p1), .val (.int p2), .val (.ref b1), .unset, .unset, .unset, .unset] [(.int ((f1 q0 (7 : Int32)).toInt8.toInt32)), (.int (7 : Int32)), (.ref b1)])) rfl rfl (hb hby at_89)
  have V_b1_17 : Arv Z h17 b1 k1 .byte (8 : Int32) [(.int (((f1 q0 (0 : Int32)).toInt8.toInt32).toInt8.toInt32)), (.int (((f1 q0 (1 : Int32)).toInt8.toInt32).toInt8.toInt32)), (.int (((f1 q0 (2 : Int32)).toInt8.toInt32).toInt8.toInt32)), (.int (((f1 q0 (3 : Int32)).toInt8.toInt32).toInt8.toInt32)), (.int (((f1 q0 (4 : Int32)).toInt8.toInt32).toInt8.toInt32)), (.int (((f1 q0 (5 : Int32)).toInt8.toInt32).toInt8.toInt32)), (.int (((f1 q0 (6 : Int32)).toInt8.toInt32).toInt8.toInt32)), (.int (((f1 q0 (7 : Int32)).toInt8.toInt32).toInt8.toInt32))] (.int (0 : Int32)) := Arv.set Ar17 q17 S17 N17_ H17 G17 (fits_nar_byte _) W17 7 rfl (Nat.le_of_ble_eq_true rfl)
  have N17 := Fr.snoc X17 N16 gn_b1
  have Zz17 := Nat.le_trans Zz15 (Keep.of_wr W17).1
  have K17 : Keep h0 h17 [] := K15.wr W17 (Or.inr sz_b1)
  obtain ⟨_, _, ⟨T18, L18, k18, n18⟩, -, X18, ⟨Lc18, hQ18, l18, y18, z18⟩, st18⟩ := Jvm.LawKit.callS X17 hx (y := (⟨"com/example/sealwax/sealwax/OctetSumOfPinLaw", "term", "(JIII)I"⟩ : MethodName)) hown (mvT hZ (hw _ (List.mem_of_getElem? (i := 7) rfl))) (mvT hZ (hw _ (List.mem_of_getElem? (i := 8) rfl))) (mvT hZ (hw _ (List.mem_of_getElem? (i := 3) rfl))) (mvT hZ (hw _ (List.mem_of_getElem? (i := 9) rfl))) (by decide) (backOf (W := 0) (rm2 l Z a0 hw [] q0 (0 : Int32) ((p1 &&& (2147483647 : Int32)) % (9 : Int32)) (f0_e1 p1 p2) h17 n0 Zz17) hZ (hw _ (List.mem_of_getElem? (i := 9) rfl)) (hw _ (List.mem_of_getElem? (i := 3) rfl)) (by decide) (by decide)) (g := (mkF m 117 #[.val (.long q0), .second, .val (.int p1), .val (.int p2), .val (.ref b1), .val (.int ((p1 &&& (2147483647 : Int32)) % (9 : Int32))), .val (.int (f0_e1 p1 p2)), .unset, .unset] [(.int (f0_e1 p1 p2)), (.int ((p1 &&& (2147483647 : Int32)) % (9 : Int32))), (.int (0 : Int32)), (.long q0)])) rfl (by rw [hml]; rfl) (argsL := [(.long q0), (.int (0 : Int32)), (.int ((p1 &&& (2147483647 : Int32)) % (9 : Int32))), (.int (f0_e1 p1 p2))]) (rest := []) (lenOf pd_1 rfl) rfl (by show 2 * 0 + _ ≤ _; exact Nat.le_of_eq rfl) (hb hby at_117) (fun _ _ => ⟨rfl, e17, (by decide : 1 + 0 ≤ _), (by decide : 8 + 0 ≤ _)⟩)
  dsimp only [Pt.U, Pt.locs, Pt.cells, Pt.slots] at X18 l18 y18 z18 st18 hQ18
  obtain rfl : k18 = 1 := y18
  obtain rfl : n18 = 8 := z18
  obtain ⟨rfl, N18q, e18⟩ := hQ18
  have N18 : Fr n0 L18 := by rw [l18]; exact Fr.app N17 N18q
  obtain ⟨_, _, ⟨T19, L19, k19, n19⟩, -, X19, ⟨Lc19, hQ19, l19, y19, z19⟩, st19⟩ := Jvm.LawKit.callS X18 hx (y := (⟨"com/example/sealwax/sealwax/OctetSumOfPinLaw", "term", "(JIII)I"⟩ : MethodName)) hown (mvT hZ (hw _ (List.mem_of_getElem? (i := 7) rfl))) (mvT hZ (hw _ (List.mem_of_getElem? (i := 8) rfl))) (mvT hZ (hw _ (List.mem_of_getElem? (i := 3) rfl))) (mvT hZ (hw _ (List.mem_of_getElem? (i := 9) rfl))) (by decide) (backOf (W := 1) (rm2 l Z a0 hw [] q0 (1 : Int32) ((p1 &&& (2147483647 : Int32)) % (9 : Int32)) (f0_e1 p1 p2) h17 n0 Zz17) hZ (hw _ (List.mem_of_getElem? (i := 9) rfl)) (hw _ (List.mem_of_getElem? (i := 3) rfl)) (by decide) (by decide)) (g := (mkF m 126 #[.val (.long q0), .second, .val (.int p1), .val (.int p2), .val (.ref b1), .val (.int ((p1 &&& (2147483647 : Int32)) % (9 : Int32))), .val (.int (f0_e1 p1 p2)), .unset, .unset] [(.int (f0_e1 p1 p2)), (.int ((p1 &&& (2147483647 : Int32)) % (9 : Int32))), (.int (1 : Int32)), (.long q0), (.int (f0_e2 q0 p1 p2))])) rfl (by rw [hml]; rfl) (argsL := [(.long q0), (.int (1 : Int32)), (.int ((p1 &&& (2147483647 : Int32)) % (9 : Int32))), (.int (f0_e1 p1 p2))]) (rest := [(.int (f0_e2 q0 p1 p2))]) (lenOf pd_1 rfl) rfl (by show 2 * 0 + _ ≤ _; exact Nat.le_of_eq rfl) (hb hby at_126) (fun _ _ => ⟨rfl, e18, (by decide : 1 + 0 ≤ _), (by decide : 8 + 0 ≤ _)⟩)
  dsimp only [Pt.U, Pt.locs, Pt.cells, Pt.slots] at X19 l19 y19 z19 st19 hQ19
  obtain rfl : k19 = 1 := y19
  obtain rfl : n19 = 8 := z19
  obtain ⟨rfl, N19q, e19⟩ := hQ19
  have N19 : Fr n0 L19 := by rw [l19]; exact Fr.app N18 N19q
  obtain ⟨_, _, ⟨T20, L20, k20, n20⟩, -, X20, ⟨Lc20, hQ20, l20, y20, z20⟩, st20⟩ := Jvm.LawKit.callS X19 hx (y := (⟨"com/example/sealwax/sealwax/OctetSumOfPinLaw", "term", "(JIII)I"⟩ : MethodName)) hown (mvT hZ (hw _ (List.mem_of_getElem? (i := 7) rfl))) (mvT hZ (hw _ (List.mem_of_getElem? (i := 8) rfl))) (mvT hZ (hw _ (List.mem_of_getElem? (i := 3) rfl))) (mvT hZ (hw _ (List.mem_of_getElem? (i := 9) rfl))) (by decide) (backOf (W := 1) (rm2 l Z a0 hw [] q0 (2 : Int32) ((p1 &&& (2147483647 : Int32)) % (9 : Int32)) (f0_e1 p1 p2) h17 n0 Zz17) hZ (hw _ (List.mem_of_getElem? (i := 9) rfl)) (hw _ (List.mem_of_getElem? (i := 3) rfl)) (by decide) (by decide)) (g := (mkF m 136 #[.val (.long q0), .second, .val (.int p1), .val (.int p2), .val (.ref b1), .val (.int ((p1 &&& (2147483647 : Int32)) % (9 : Int32))), .val (.int (f0_e1 p1 p2)), .unset, .unset] [(.int (f0_e1 p1 p2)), (.int ((p1 &&& (2147483647 : Int32)) % (9 : Int32))), (.int (2 : Int32)), (.long q0), (.int ((f0_e2 q0 p1 p2) + (f0_e3 q0 p1 p2)))])) rfl (by rw [hml]; rfl) (argsL := [(.long q0), (.int (2 : Int32)), (.int ((p1 &&& (2147483647 : Int32)) % (9 : Int32))), (.int (f0_e1 p1 p2))]) (rest := [(.int ((f0_e2 q0 p1 p2) + (f0_e3 q0 p1 p2)))]) (lenOf pd_1 rfl) rfl (by show 2 * 0 + _ ≤ _; exact Nat.le_of_eq rfl) (hb hby at_136) (fun _ _ => ⟨rfl, e19, (by decide : 1 + 0 ≤ _), (by decide : 8 + 0 ≤ _)⟩)
  dsimp only [Pt.U, Pt.locs, Pt.cells, Pt.slots] at X20 l20 y20 z20 st20 hQ20
  obtain rfl : k20 = 1 := y20
  obtain rfl : n20 = 8 := z20
  obtain ⟨rfl, N20q, e20⟩ := hQ20
  have N20 : Fr n0 L20 := by rw [l20]; exact Fr.app N19 N20q
  obtain ⟨_, _, ⟨T21, L21, k21, n21⟩, -, X21, ⟨Lc21, hQ21, l21, y21, z21⟩, st21⟩ := Jvm.LawKit.callS X20 hx (y := (⟨"com/example/sealwax/sealwax/OctetSumOfPinLaw", "term", "(JIII)I"⟩ : MethodName)) hown (mvT hZ (hw _ (List.mem_of_getElem? (i := 7) rfl))) (mvT hZ (hw _ (List.mem_of_getElem? (i := 8) rfl))) (mvT hZ (hw _ (List.mem_of_getElem? (i := 3) rfl))) (mvT hZ (hw _ (List.mem_of_getElem? (i := 9) rfl))) (by decide) (backOf (W := 1) (rm2 l Z a0 hw [] q0 (3 : Int32) ((p1 &&& (2147483647 : Int32)) % (9 : Int32)) (f0_e1 p1 p2) h17 n0 Zz17) hZ (hw _ (List.mem_of_getElem? (i := 9) rfl)) (hw _ (List.mem_of_getElem? (i := 3) rfl)) (by decide) (by decide)) (g := (mkF m 146 #[.val (.long q0), .second, .val (.int p1), .val (.int p2), .val (.ref b1), .val (.int ((p1 &&& (2147483647 : Int32)) % (9 : Int32))), .val (.int (f0_e1 p1 p2)), .unset, .unset] [(.int (f0_e1 p1 p2)), (.int ((p1 &&& (2147483647 : Int32)) % (9 : Int32))), (.int (3 : Int32)), (.long q0), (.int (((f0_e2 q0 p1 p2) + (f0_e3 q0 p1 p2)) + (f0_e4 q0 p1 p2)))])) rfl (by rw [hml]; rfl) (argsL := [(.long q0), (.int (3 : Int32)), (.int ((p1 &&& (2147483647 : Int32)) % (9 : Int32))), (.int (f0_e1 p1 p2))]) (rest := [(.int (((f0_e2 q0 p1 p2) + (f0_e3 q0 p1 p2)) + (f0_e4 q0 p1 p2)))]) (lenOf pd_1 rfl) rfl (by show 2 * 0 + _ ≤ _; exact Nat.le_of_eq rfl) (hb hby at_146) (fun _ _ => ⟨rfl, e20, (by decide : 1 + 0 ≤ _), (by decide : 8 + 0 ≤ _)⟩)
  dsimp only [Pt.U, Pt.locs, Pt.cells, Pt.slots] at X21 l21 y21 z21 st21 hQ21
  obtain rfl : k21 = 1 := y21
  obtain rfl : n21 = 8 := z21
  obtain ⟨rfl, N21q, e21⟩ := hQ21
  have N21 : Fr n0 L21 := by rw [l21]; exact Fr.app N20 N21q
  obtain ⟨_, _, ⟨T22, L22, k22, n22⟩, -, X22, ⟨Lc22, hQ22, l22, y22, z22⟩, st22⟩ := Jvm.LawKit.callS X21 hx (y := (⟨"com/example/sealwax/sealwax/OctetSumOfPinLaw", "term", "(JIII)I"⟩ : MethodName)) hown (mvT hZ (hw _ (List.mem_of_getElem? (i := 7) rfl))) (mvT hZ (hw _ (List.mem_of_getElem? (i := 8) rfl))) (mvT hZ (hw _ (List.mem_of_getElem? (i := 3) rfl))) (mvT hZ (hw _ (List.mem_of_getElem? (i := 9) rfl))) (by decide) (backOf (W := 1) (rm2 l Z a0 hw [] q0 (4 : Int32) ((p1 &&& (2147483647 : Int32)) % (9 : Int32)) (f0_e1 p1 p2) h17 n0 Zz17) hZ (hw _ (List.mem_of_getElem? (i := 9) rfl)) (hw _ (List.mem_of_getElem? (i := 3) rfl)) (by decide) (by decide)) (g := (mkF m 156 #[.val (.long q0), .second, .val (.int p1), .val (.int p2), .val (.ref b1), .val (.int ((p1 &&& (2147483647 : Int32)) % (9 : Int32))), .val (.int (f0_e1 p1 p2)), .unset, .unset] [(.int (f0_e1 p1 p2)), (.int ((p1 &&& (2147483647 : Int32)) % (9 : Int32))), (.int (4 : Int32)), (.long q0), (.int (f0_e6 q0 p1 p2))])) rfl (by rw [hml]; rfl) (argsL := [(.long q0), (.int (4 : Int32)), (.int ((p1 &&& (2147483647 : Int32)) % (9 : Int32))), (.int (f0_e1 p1 p2))]) (rest := [(.int (f0_e6 q0 p1 p2))]) (lenOf pd_1 rfl) rfl (by show 2 * 0 + _ ≤ _; exact Nat.le_of_eq rfl) (hb hby at_156) (fun _ _ => ⟨rfl, e21, (by decide : 1 + 0 ≤ _), (by decide : 8 + 0 ≤ _)⟩)
  dsimp only [Pt.U, Pt.locs, Pt.cells, Pt.slots] at X22 l22 y22 z22 st22 hQ22
  obtain rfl : k22 = 1 := y22
  obtain rfl : n22 = 8 := z22
  obtain ⟨rfl, N22q, e22⟩ := hQ22
  have N22 : Fr n0 L22 := by rw [l22]; exact Fr.app N21 N22q
  obtain ⟨_, _, ⟨T23, L23, k23, n23⟩, -, X23, ⟨Lc23, hQ23, l23, y23, z23⟩, st23⟩ := Jvm.LawKit.callS X22 hx (y := (⟨"com/example/sealwax/sealwax/OctetSumOfPinLaw", "term", "(JIII)I"⟩ : MethodName)) hown (mvT hZ (hw _ (List.mem_of_getElem? (i := 7) rfl))) (mvT hZ (hw _ (List.mem_of_getElem? (i := 8) rfl))) (mvT hZ (hw _ (List.mem_of_getElem? (i := 3) rfl))) (mvT hZ (hw _ (List.mem_of_getElem? (i := 9) rfl))) (by decide) (backOf (W := 1) (rm2 l Z a0 hw [] q0 (5 : Int32) ((p1 &&& (2147483647 : Int32)) % (9 : Int32)) (f0_e1 p1 p2) h17 n0 Zz17) hZ (hw _ (List.mem_of_getElem? (i := 9) rfl)) (hw _ (List.mem_of_getElem? (i := 3) rfl)) (by decide) (by decide)) (g := (mkF m 166 #[.val (.long q0), .second, .val (.int p1), .val (.int p2), .val (.ref b1), .val (.int ((p1 &&& (2147483647 : Int32)) % (9 : Int32))), .val (.int (f0_e1 p1 p2)), .unset, .unset] [(.int (f0_e1 p1 p2)), (.int ((p1 &&& (2147483647 : Int32)) % (9 : Int32))), (.int (5 : Int32)), (.long q0), (.int ((f0_e6 q0 p1 p2) + (f0_e7 q0 p1 p2)))])) rfl (by rw [hml]; rfl) (argsL := [(.long q0), (.int (5 : Int32)), (.int ((p1 &&& (2147483647 : Int32)) % (9 : Int32))), (.int (f0_e1 p1 p2))]) (rest := [(.int ((f0_e6 q0 p1 p2) + (f0_e7 q0 p1 p2)))]) (lenOf pd_1 rfl) rfl (by show 2 * 0 + _ ≤ _; exact Nat.le_of_eq rfl) (hb hby at_166) (fun _ _ => ⟨rfl, e22, (by decide : 1 + 0 ≤ _), (by decide : 8 + 0 ≤ _)⟩)
  dsimp only [Pt.U, Pt.locs, Pt.cells, Pt.slots] at X23 l23 y23 z23 st23 hQ23
  obtain rfl : k23 = 1 := y23
  obtain rfl : n23 = 8 := z23
  obtain ⟨rfl, N23q, e23⟩ := hQ23
  have N23 : Fr n0 L23 := by rw [l23]; exact Fr.app N22 N23q
  obtain ⟨_, _, ⟨T24, L24, k24, n24⟩, -, X24, ⟨Lc24, hQ24, l24, y24, z24⟩, st24⟩ := Jvm.LawKit.callS X23 hx (y := (⟨"com/example/sealwax/sealwax/OctetSumOfPinLaw", "term", "(JIII)I"⟩ : MethodName)) hown (mvT hZ (hw _ (List.mem_of_getElem? (i := 7) rfl))) (mvT hZ (hw _ (List.mem_of_getElem? (i := 8) rfl))) (mvT hZ (hw _ (List.mem_of_getElem? (i := 3) rfl))) (mvT hZ (hw _ (List.mem_of_getElem? (i := 9) rfl))) (by decide) (backOf (W := 1) (rm2 l Z a0 hw [] q0 (6 : Int32) ((p1 &&& (2147483647 : Int32)) % (9 : Int32)) (f0_e1 p1 p2) h17 n0 Zz17) hZ (hw _ (List.mem_of_getElem? (i := 9) rfl)) (hw _ (List.mem_of_getElem? (i := 3) rfl)) (by decide) (by decide)) (g := (mkF m 177 #[.val (.long q0), .second, .val (.int p1), .val (.int p2), .val (.ref b1), .val (.int ((p1 &&& (2147483647 : Int32)) % (9 : Int32))), .val (.int (f0_e1 p1 p2)), .unset, .unset] [(.int (f0_e1 p1 p2)), (.int ((p1 &&& (2147483647 : Int32)) % (9 : Int32))), (.int (6 : Int32)), (.long q0), (.int (((f0_e6 q0 p1 p2) + (f0_e7 q0 p1 p2)) + (f0_e8 q0 p1 p2)))])) rfl (by rw [hml]; rfl) (argsL := [(.long q0), (.int (6 : Int32)), (.int ((p1 &&& (2147483647 : Int32)) % (9 : Int32))), (.int (f0_e1 p1 p2))]) (rest := [(.int (((f0_e6 q0 p1 p2) + (f0_e7 q0 p1 p2)) + (f0_e8 q0 p1 p2)))]) (lenOf pd_1 rfl) rfl (by show 2 * 0 + _ ≤ _; exact Nat.le_of_eq rfl) (hb hby at_177) (fun _ _ => ⟨rfl, e23, (by decide : 1 + 0 ≤ _), (by decide : 8 + 0 ≤ _)⟩)
  dsimp only [Pt.U, Pt.locs, Pt.cells, Pt.slots] at X24 l24 y24 z24 st24 hQ24
  obtain rfl : k24 = 1 := y24
  obtain rfl : n24 = 8 := z24
  obtain ⟨rfl, N24q, e24⟩ := hQ24
  have N24 : Fr n0 L24 := by rw [l24]; exact Fr.app N23 N24q
  obtain ⟨_, _, ⟨T25, L25, k25, n25⟩, -, X25, ⟨Lc25, hQ25, l25, y25, z25⟩, st25⟩ := Jvm.LawKit.callS X24 hx (y := (⟨"com/example/sealwax/sealwax/OctetSumOfPinLaw", "term", "(JIII)I"⟩ : MethodName)) hown (mvT hZ (hw _ (List.mem_of_getElem? (i := 7) rfl))) (mvT hZ (hw _ (List.mem_of_getElem? (i := 8) rfl))) (mvT hZ (hw _ (List.mem_of_getElem? (i := 3) rfl))) (mvT hZ (hw _ (List.mem_of_getElem? (i := 9) rfl))) (by decide) (backOf (W := 1) (rm2 l Z a0 hw [] q0 (7 : Int32) ((p1 &&& (2147483647 : Int32)) % (9 : Int32)) (f0_e1 p1 p2) h17 n0 Zz17) hZ (hw _ (List.mem_of_getElem? (i := 9) rfl)) (hw _ (List.mem_of_getElem? (i := 3) rfl)) (by decide) (by decide)) (g := (mkF m 188 #[.val (.long q0), .second, .val (.int p1), .val (.int p2), .val (.ref b1), .val (.int ((p1 &&& (2147483647 : Int32)) % (9 : Int32))), .val (.int (f0_e1 p1 p2)), .unset, .unset] [(.int (f0_e1 p1 p2)), (.int ((p1 &&& (2147483647 : Int32)) % (9 : Int32))), (.int (7 : Int32)), (.long q0), (.int (f0_e10 q0 p1 p2))])) rfl (by rw [hml]; rfl) (argsL := [(.long q0), (.int (7 : Int32)), (.int ((p1 &&& (2147483647 : Int32)) % (9 : Int32))), (.int (f0_e1 p1 p2))]) (rest := [(.int (f0_e10 q0 p1 p2))]) (lenOf pd_1 rfl) rfl (by show 2 * 0 + _ ≤ _; exact Nat.le_of_eq rfl) (hb hby at_188) (fun _ _ => ⟨rfl, e24, (by decide : 1 + 0 ≤ _), (by decide : 8 + 0 ≤ _)⟩)
  dsimp only [Pt.U, Pt.locs, Pt.cells, Pt.slots] at X25 l25 y25 z25 st25 hQ25
  obtain rfl : k25 = 1 := y25
  obtain rfl : n25 = 8 := z25
  obtain ⟨rfl, N25q, e25⟩ := hQ25
  have N25 : Fr n0 L25 := by rw [l25]; exact Fr.app N24 N25q
  obtain ⟨clD, ArD, -, SD, -, HD, -⟩ := id V_b1_17
  obtain ⟨_, _, ⟨T26, L26, k26, n26⟩, -, X26, ⟨Lc26, hQ26, l26, y26, z26⟩, st26⟩ := Jvm.LawKit.callS X25 hx (y := (⟨"com/example/sealwax/sealwax/OctetSum", "of", "([BII)I"⟩ : MethodName)) hown (mvT hZ (hw _ (List.mem_of_getElem? (i := 10) rfl))) (mvT hZ (hw _ (List.mem_of_getElem? (i := 11) rfl))) (mvT hZ (hw _ (List.mem_of_getElem? (i := 12) rfl))) (mvT hZ (hw _ (List.mem_of_getElem? (i := 13) rfl))) (by decide) (backOf (W := 0) (rm3 l Z a0 hw [] b1 ((p1 &&& (2147483647 : Int32)) % (9 : Int32)) (f0_e1 p1 p2) clD (own_v q0) h17 n0 Zz17 ArD (SD.trans (by decide)) (own_hat q0 HD SD) (own_b1 p1 p2) (own_b2 p1 p2) (own_b3 p1 p2)) hZ (hw _ (List.mem_of_getElem? (i := 13) rfl)) (hw _ (List.mem_of_getElem? (i := 12) rfl)) (by decide) (by decide)) (g := (mkF m 200 #[.val (.long q0), .second, .val (.int p1), .val (.int p2), .val (.ref b1), .val (.int ((p1 &&& (2147483647 : Int32)) % (9 : Int32))), .val (.int (f0_e1 p1 p2)), .val (.int ((f0_e10 q0 p1 p2) + (f0_e11 q0 p1 p2))), .unset] [(.int (f0_e1 p1 p2)), (.int ((p1 &&& (2147483647 : Int32)) % (9 : Int32))), (.ref b1)])) rfl (by rw [hml]; rfl) (argsL := [(.ref b1), (.int ((p1 &&& (2147483647 : Int32)) % (9 : Int32))), (.int (f0_e1 p1 p2))]) (rest := []) (lenOf pd_2 rfl) rfl (by show 2 * 0 + _ ≤ _; exact Nat.le_of_eq rfl) (hb hby at_200) (fun _ _ => ⟨rfl, e25, (by decide : 1 + 0 ≤ _), (by decide : 8 + 0 ≤ _)⟩)
  dsimp only [Pt.U, Pt.locs, Pt.cells, Pt.slots] at X26 l26 y26 z26 st26 hQ26
  obtain rfl : k26 = 1 := y26
  obtain rfl : n26 = 8 := z26
  obtain ⟨rfl, N26q, e26⟩ := hQ26
  have N26 : Fr n0 L26 := by rw [l26]; exact Fr.app N25 N26q
  have pre27 : ∀ t, Steps p.tables e below (T26.setTop (mkF m 209 #[.val (.long q0), .second, .val (.int p1), .val (.int p2), .val (.ref b1), .val (.int ((p1 &&& (2147483647 : Int32)) % (9 : Int32))), .val (.int (f0_e1 p1 p2)), .val (.int ((f0_e10 q0 p1 p2) + (f0_e11 q0 p1 p2))), .val (.int (f0_e12 q0 p1 p2))] [(.int ((f0_e10 q0 p1 p2) + (f0_e11 q0 p1 p2))), (.int (f0_e12 q0 p1 p2))])) t → Steps p.tables e below (s₁.setTop (entryFrame m #[(.long q0), (.int p1), (.int p2)] maxLocals)) t := fun t kt => pre0 t (by
    show Steps p.tables e below (s₁.setTop (mkF m 0 #[.val (.long q0), .second, .val (.int p1), .val (.int p2), .unset, .unset, .unset, .unset, .unset] [])) _
    refine XS.bipush X0.here hx rfl (hb hby at_0) ?_
    show Steps p.tables e below (s₁.setTop (mkF m 2 #[.val (.long q0), .second, .val (.int p1), .val (.int p2), .unset, .unset, .unset, .unset, .unset] [(.int (8 : Int32))])) _
    refine st1 _ ?_
    show Steps p.tables e below (T1.setTop (mkF m 4 #[.val (.long q0), .second, .val (.int p1), .val (.int p2), .unset, .unset, .unset, .unset, .unset] [(.ref b1)])) _
    refine XS.astore X1.here hx rfl (hb hby at_4) rfl rfl (l' := #[.val (.long q0), .second, .val (.int p1), .val (.int p2), .val (.ref b1), .unset, .unset, .unset, .unset]) rfl ?_
    show Steps p.tables e below (T1.setTop (mkF m 6 #[.val (.long q0), .second, .val (.int p1), .val (.int p2), .val (.ref b1), .unset, .unset, .unset, .unset] [])) _
    refine XS.aload X1.here hx rfl (hb hby at_6) rfl rfl ?_
    show Steps p.tables e below (T1.setTop (mkF m 8 #[.val (.long q0), .second, .val (.int p1), .val (.int p2), .val (.ref b1), .unset, .unset, .unset, .unset] [(.ref b1)])) _
    refine XS.iconst X1.here hx rfl (hb hby at_8) ?_
    show Steps p.tables e below (T1.setTop (mkF m 9 #[.val (.long q0), .second, .val (.int p1), .val (.int p2), .val (.ref b1), .unset, .unset, .unset, .unset] [(.int (0 : Int32)), (.ref b1)])) _
    refine XS.lloadN X1.here hx rfl (hb hby at_9) rfl ?_
    show Steps p.tables e below (T1.setTop (mkF m 10 #[.val (.long q0), .second, .val (.int p1), .val (.int p2), .val (.ref b1), .unset, .unset, .unset, .unset] [(.long q0), (.int (0 : Int32)), (.ref b1)])) _
    refine XS.iconst X1.here hx rfl (hb hby at_10) ?_
    show Steps p.tables e below (T1.setTop (mkF m 11 #[.val (.long q0), .second, .val (.int p1), .val (.int p2), .val (.ref b1), .unset, .unset, .unset, .unset] [(.int (0 : Int32)), (.long q0), (.int (0 : Int32)), (.ref b1)])) _
    refine st2 _ ?_
    show Steps p.tables e below (T2.setTop (mkF m 14 #[.val (.long q0), .second, .val (.int p1), .val (.int p2), .val (.ref b1), .unset, .unset, .unset, .unset] [(.int (f1 q0 (0 : Int32))), (.int (0 : Int32)), (.ref b1)])) _
    refine XS.i2b X2.here hx rfl (hb hby at_14) rfl ?_
    show Steps p.tables e below (T2.setTop (mkF m 15 #[.val (.long q0), .second, .val (.int p1), .val (.int p2), .val (.ref b1), .unset, .unset, .unset, .unset] [(.int ((f1 q0 (0 : Int32)).toInt8.toInt32)), (.int (0 : Int32)), (.ref b1)])) _
    refine st3 _ ?_
    show Steps p.tables e below (T3.setTop (mkF m 16 #[.val (.long q0), .second, .val (.int p1), .val (.int p2), .val (.ref b1), .unset, .unset, .unset, .unset] [])) _
    refine XS.aload X3.here hx rfl (hb hby at_16) rfl rfl ?_
    show Steps p.tables e below (T3.setTop (mkF m 18 #[.val (.long q0), .second, .val (.int p1), .val (.int p2), .val (.ref b1), .unset, .unset, .unset, .unset] [(.ref b1)])) _
    refine XS.iconst X3.here hx rfl (hb hby at_18) ?_
    show Steps p.tables e below (T3.setTop (mkF m 19 #[.val (.long q0), .second, .val (.int p1), .val (.int p2), .val (.ref b1), .unset, .unset, .unset, .unset] [(.int (1 : Int32)), (.ref b1)])) _
    refine XS.lloadN X3.here hx rfl (hb hby at_19) rfl ?_
    show Steps p.tables e below (T3.setTop (mkF m 20 #[.val (.long q0), .second, .val (.int p1), .val (.int p2), .val (.ref b1), .unset, .unset, .unset, .unset] [(.long q0), (.int (1 : Int32)), (.ref b1)])) _
    refine XS.iconst X3.here hx rfl (hb hby at_20) ?_
    show Steps p.tables e below (T3.setTop (mkF m 21 #[.val (.long q0), .second, .val (.int p1), .val (.int p2), .val (.ref b1), .unset, .unset, .unset, .unset] [(.int (1 : Int32)), (.long q0), (.int (1 : Int32)), (.ref b1)])) _
    refine st4 _ ?_
    show Steps p.tables e below (T4.setTop (mkF m 24 #[.val (.long q0), .second, .val (.int p1), .val (.int p2), .val (.ref b1), .unset, .unset, .unset, .unset] [(.int (f1 q0 (1 : Int32))), (.int (1 : Int32)), (.ref b1)])) _
    refine XS.i2b X4.here hx rfl (hb hby at_24) rfl ?_
    show Steps p.tables e below (T4.setTop (mkF m 25 #[.val (.long q0), .second, .val (.int p1), .val (.int p2), .val (.ref b1), .unset, .unset, .unset, .unset] [(.int ((f1 q0 (1 : Int32)).toInt8.toInt32)), (.int (1 : Int32)), (.ref b1)])) _
    refine st5 _ ?_
    show Steps p.tables e below (T5.setTop (mkF m 26 #[.val (.long q0), .second, .val (.int p1), .val (.int p2), .val (.ref b1), .unset, .unset, .unset, .unset] [])) _
    refine XS.aload X5.here hx rfl (hb hby at_26) rfl rfl ?_
    show Steps p.tables e below (T5.setTop (mkF m 28 #[.val (.long q0), .second, .val (.int p1), .val (.int p2), .val (.ref b1), .unset, .unset, .unset, .unset] [(.ref b1)])) _
    refine XS.iconst X5.here hx rfl (hb hby at_28) ?_
    show Steps p.tables e below (T5.setTop (mkF m 29 #[.val (.long q0), .second, .val (.int p1), .val (.int p2), .val (.ref b1), .unset, .unset, .unset, .unset] [(.int (2 : Int32)), (.ref b1)])) _
    refine XS.lloadN X5.here hx rfl (hb hby at_29) rfl ?_
    show Steps p.tables e below (T5.setTop (mkF m 30 #[.val (.long q0), .second, .val (.int p1), .val (.int p2), .val (.ref b1), .unset, .unset, .unset, .unset] [(.long q0), (.int (2 : Int32)), (.ref b1)])) _
    refine XS.iconst X5.here hx rfl (hb hby at_30) ?_
    show Steps p.tables e below (T5.setTop (mkF m 31 #[.val (.long q0), .second, .val (.int p1), .val (.int p2), .val (.ref b1), .unset, .unset, .unset, .unset] [(.int (2 : Int32)), (.long q0), (.int (2 : Int32)), (.ref b1)])) _
    refine st6 _ ?_
    show Steps p.tables e below (T6.setTop (mkF m 34 #[.val (.long q0), .second, .val (.int p1), .val (.int p2), .val (.ref b1), .unset, .unset, .unset, .unset] [(.int (f1 q0 (2 : Int32))), (.int (2 : Int32)), (.ref b1)])) _
    refine XS.i2b X6.here hx rfl (hb hby at_34) rfl ?_
    show Steps p.tables e below (T6.setTop (mkF m 35 #[.val (.long q0), .second, .val (.int p1), .val (.int p2), .val (.ref b1), .unset, .unset, .unset, .unset] [(.int ((f1 q0 (2 : Int32)).toInt8.toInt32)), (.int (2 : Int32)), (.ref b1)])) _
    refine st7 _ ?_
    show Steps p.tables e below (T7.setTop (mkF m 36 #[.val (.long q0), .second, .val (.int p1), .val (.int p2), .val (.ref b1), .unset, .unset, .unset, .unset] [])) _
    refine XS.aload X7.here hx rfl (hb hby at_36) rfl rfl ?_
    show Steps p.tables e below (T7.setTop (mkF m 38 #[.val (.long q0), .second, .val (.int p1), .val (.int p2), .val (.ref b1), .unset, .unset, .unset, .unset] [(.ref b1)])) _
    refine XS.iconst X7.here hx rfl (hb hby at_38) ?_
    show Steps p.tables e below (T7.setTop (mkF m 39 #[.val (.long q0), .second, .val (.int p1), .val (.int p2), .val (.ref b1), .unset, .unset, .unset, .unset] [(.int (3 : Int32)), (.ref b1)])) _
    refine XS.lloadN X7.here hx rfl (hb hby at_39) rfl ?_
    show Steps p.tables e below (T7.setTop (mkF m 40 #[.val (.long q0), .second, .val (.int p1), .val (.int p2), .val (.ref b1), .unset, .unset, .unset, .unset] [(.long q0), (.int (3 : Int32)), (.ref b1)])) _
    refine XS.iconst X7.here hx rfl (hb hby at_40) ?_
    show Steps p.tables e below (T7.setTop (mkF m 41 #[.val (.long q0), .second, .val (.int p1), .val (.int p2), .val (.ref b1), .unset, .unset, .unset, .unset] [(.int (3 : Int32)), (.long q0), (.int (3 : Int32)), (.ref b1)])) _
    refine st8 _ ?_
    show Steps p.tables e below (T8.setTop (mkF m 44 #[.val (.long q0), .second, .val (.int p1), .val (.int p2), .val (.ref b1), .unset, .unset, .unset, .unset] [(.int (f1 q0 (3 : Int32))), (.int (3 : Int32)), (.ref b1)])) _
    refine XS.i2b X8.here hx rfl (hb hby at_44) rfl ?_
    show Steps p.tables e below (T8.setTop (mkF m 45 #[.val (.long q0), .second, .val (.int p1), .val (.int p2), .val (.ref b1), .unset, .unset, .unset, .unset] [(.int ((f1 q0 (3 : Int32)).toInt8.toInt32)), (.int (3 : Int32)), (.ref b1)])) _
    refine st9 _ ?_
    show Steps p.tables e below (T9.setTop (mkF m 46 #[.val (.long q0), .second, .val (.int p1), .val (.int p2), .val (.ref b1), .unset, .unset, .unset, .unset] [])) _
    refine XS.aload X9.here hx rfl (hb hby at_46) rfl rfl ?_
    show Steps p.tables e below (T9.setTop (mkF m 48 #[.val (.long q0), .second, .val (.int p1), .val (.int p2), .val (.ref b1), .unset, .unset, .unset, .unset] [(.ref b1)])) _
    refine XS.iconst X9.here hx rfl (hb hby at_48) ?_
    show Steps p.tables e below (T9.setTop (mkF m 49 #[.val (.long q0), .second, .val (.int p1), .val (.int p2), .val (.ref b1), .unset, .unset, .unset, .unset] [(.int (4 : Int32)), (.ref b1)])) _
    refine XS.lloadN X9.here hx rfl (hb hby at_49) rfl ?_
    show Steps p.tables e below (T9.setTop (mkF m 50 #[.val (.long q0), .second, .val (.int p1), .val (.int p2), .val (.ref b1), .unset, .unset, .unset, .unset] [(.long q0), (.int (4 : Int32)), (.ref b1)])) _
    refine XS.iconst X9.here hx rfl (hb hby at_50) ?_
    show Steps p.tables e below (T9.setTop (mkF m 51 #[.val (.long q0), .second, .val (.int p1), .val (.int p2), .val (.ref b1), .unset, .unset, .unset, .unset] [(.int (4 : Int32)), (.long q0), (.int (4 : Int32)), (.ref b1)])) _
    refine st10 _ ?_
    show Steps p.tables e below (T10.setTop (mkF m 54 #[.val (.long q0), .second, .val (.int p1), .val (.int p2), .val (.ref b1), .unset, .unset, .unset, .unset] [(.int (f1 q0 (4 : Int32))), (.int (4 : Int32)), (.ref b1)])) _
    refine XS.i2b X10.here hx rfl (hb hby at_54) rfl ?_
    show Steps p.tables e below (T10.setTop (mkF m 55 #[.val (.long q0), .second, .val (.int p1), .val (.int p2), .val (.ref b1), .unset, .unset, .unset, .unset] [(.int ((f1 q0 (4 : Int32)).toInt8.toInt32)), (.int (4 : Int32)), (.ref b1)])) _
    refine st11 _ ?_
    show Steps p.tables e below (T11.setTop (mkF m 56 #[.val (.long q0), .second, .val (.int p1), .val (.int p2), .val (.ref b1), .unset, .unset, .unset, .unset] [])) _
    refine XS.aload X11.here hx rfl (hb hby at_56) rfl rfl ?_
    show Steps p.tables e below (T11.setTop (mkF m 58 #[.val (.long q0), .second, .val (.int p1), .val (.int p2), .val (.ref b1), .unset, .unset, .unset, .unset] [(.ref b1)])) _
    refine XS.iconst X11.here hx rfl (hb hby at_58) ?_
    show Steps p.tables e below (T11.setTop (mkF m 59 #[.val (.long q0), .second, .val (.int p1), .val (.int p2), .val (.ref b1), .unset, .unset, .unset, .unset] [(.int (5 : Int32)), (.ref b1)])) _
    refine XS.lloadN X11.here hx rfl (hb hby at_59) rfl ?_
    show Steps p.tables e below (T11.setTop (mkF m 60 #[.val (.long q0), .second, .val (.int p1), .val (.int p2), .val (.ref b1), .unset, .unset, .unset, .unset] [(.long q0), (.int (5 : Int32)), (.ref b1)])) _
    refine XS.iconst X11.here hx rfl (hb hby at_60) ?_
    show Steps p.tables e below (T11.setTop (mkF m 61 #[.val (.long q0), .second, .val (.int p1), .val (.int p2), .val (.ref b1), .unset, .unset, .unset, .unset] [(.int (5 : Int32)), (.long q0), (.int (5 : Int32)), (.ref b1)])) _
    refine st12 _ ?_
    show Steps p.tables e below (T12.setTop (mkF m 64 #[.val (.long q0), .second, .val (.int p1), .val (.int p2), .val (.ref b1), .unset, .unset, .unset, .unset] [(.int (f1 q0 (5 : Int32))), (.int (5 : Int32)), (.ref b1)])) _
    refine XS.i2b X12.here hx rfl (hb hby at_64) rfl ?_
    show Steps p.tables e below (T12.setTop (mkF m 65 #[.val (.long q0), .second, .val (.int p1), .val (.int p2), .val (.ref b1), .unset, .unset, .unset, .unset] [(.int ((f1 q0 (5 : Int32)).toInt8.toInt32)), (.int (5 : Int32)), (.ref b1)])) _
    refine st13 _ ?_
    show Steps p.tables e below (T13.setTop (mkF m 66 #[.val (.long q0), .second, .val (.int p1), .val (.int p2), .val (.ref b1), .unset, .unset, .unset, .unset] [])) _
    refine XS.aload X13.here hx rfl (hb hby at_66) rfl rfl ?_
    show Steps p.tables e below (T13.setTop (mkF m 68 #[.val (.long q0), .second, .val (.int p1), .val (.int p2), .val (.ref b1), .unset, .unset, .unset, .unset] [(.ref b1)])) _
    refine XS.bipush X13.here hx rfl (hb hby at_68) ?_
    show Steps p.tables e below (T13.setTop (mkF m 70 #[.val (.long q0), .second, .val (.int p1), .val (.int p2), .val (.ref b1), .unset, .unset, .unset, .unset] [(.int (6 : Int32)), (.ref b1)])) _
    refine XS.lloadN X13.here hx rfl (hb hby at_70) rfl ?_
    show Steps p.tables e below (T13.setTop (mkF m 71 #[.val (.long q0), .second, .val (.int p1), .val (.int p2), .val (.ref b1), .unset, .unset, .unset, .unset] [(.long q0), (.int (6 : Int32)), (.ref b1)])) _
    refine XS.bipush X13.here hx rfl (hb hby at_71) ?_
    show Steps p.tables e below (T13.setTop (mkF m 73 #[.val (.long q0), .second, .val (.int p1), .val (.int p2), .val (.ref b1), .unset, .unset, .unset, .unset] [(.int (6 : Int32)), (.long q0), (.int (6 : Int32)), (.ref b1)])) _
    refine st14 _ ?_
    show Steps p.tables e below (T14.setTop (mkF m 76 #[.val (.long q0), .second, .val (.int p1), .val (.int p2), .val (.ref b1), .unset, .unset, .unset, .unset] [(.int (f1 q0 (6 : Int32))), (.int (6 : Int32)), (.ref b1)])) _
    refine XS.i2b X14.here hx rfl (hb hby at_76) rfl ?_
    show Steps p.tables e below (T14.setTop (mkF m 77 #[.val (.long q0), .second, .val (.int p1), .val (.int p2), .val (.ref b1), .unset, .unset, .unset, .unset] [(.int ((f1 q0 (6 : Int32)).toInt8.toInt32)), (.int (6 : Int32)), (.ref b1)])) _
    refine st15 _ ?_
    show Steps p.tables e below (T15.setTop (mkF m 78 #[.val (.long q0), .second, .val (.int p1), .val (.int p2), .val (.ref b1), .unset, .unset, .unset, .unset] [])) _
    refine XS.aload X15.here hx rfl (hb hby at_78) rfl rfl ?_
    show Steps p.tables e below (T15.setTop (mkF m 80 #[.val (.long q0), .second, .val (.int p1), .val (.int p2), .val (.ref b1), .unset, .unset, .unset, .unset] [(.ref b1)])) _
    refine XS.bipush X15.here hx rfl (hb hby at_80) ?_
    show Steps p.tables e below (T15.setTop (mkF m 82 #[.val (.long q0), .second, .val (.int p1), .val (.int p2), .val (.ref b1), .unset, .unset, .unset, .unset] [(.int (7 : Int32)), (.ref b1)])) _
    refine XS.lloadN X15.here hx rfl (hb hby at_82) rfl ?_
    show Steps p.tables e below (T15.setTop (mkF m 83 #[.val (.long q0), .second, .val (.int p1), .val (.int p2), .val (.ref b1), .unset, .unset, .unset, .unset] [(.long q0), (.int (7 : Int32)), (.ref b1)])) _
    refine XS.bipush X15.here hx rfl (hb hby at_83) ?_
    show Steps p.tables e below (T15.setTop (mkF m 85 #[.val (.long q0), .second, .val (.int p1), .val (.int p2), .val (.ref b1), .unset, .unset, .unset, .unset] [(.int (7 : Int32)), (.long q0), (.int (7 : Int32)), (.ref b1)])) _
    refine st16 _ ?_
    show Steps p.tables e below (T16.setTop (mkF m 88 #[.val (.long q0), .second, .val (.int p1), .val (.int p2), .val (.ref b1), .unset, .unset, .unset, .unset] [(.int (f1 q0 (7 : Int32))), (.int (7 : Int32)), (.ref b1)])) _
    refine XS.i2b X16.here hx rfl (hb hby at_88) rfl ?_
    show Steps p.tables e below (T16.setTop (mkF m 89 #[.val (.long q0), .second, .val (.int p1), .val (.int p2), .val (.ref b1), .unset, .unset, .unset, .unset] [(.int ((f1 q0 (7 : Int32)).toInt8.toInt32)), (.int (7 : Int32)), (.ref b1)])) _
    refine st17 _ ?_
    show Steps p.tables e below (T17.setTop (mkF m 90 #[.val (.long q0), .second, .val (.int p1), .val (.int p2), .val (.ref b1), .unset, .unset, .unset, .unset] [])) _
    refine XS.iloadN X17.here hx rfl (hb hby at_90) rfl ?_
    show Steps p.tables e below (T17.setTop (mkF m 91 #[.val (.long q0), .second, .val (.int p1), .val (.int p2), .val (.ref b1), .unset, .unset, .unset, .unset] [(.int p1)])) _
    refine X17.ldcInt hx hown (mvT hZ (hw _ (List.mem_of_getElem? (i := 6) rfl))) (g := (mkF m 91 #[.val (.long q0), .second, .val (.int p1), .val (.int p2), .val (.ref b1), .unset, .unset, .unset, .unset] [(.int p1)])) rfl (hb hby at_91) _ ?_
    show Steps p.tables e below (T17.setTop (mkF m 93 #[.val (.long q0), .second, .val (.int p1), .val (.int p2), .val (.ref b1), .unset, .unset, .unset, .unset] [(.int (2147483647 : Int32)), (.int p1)])) _
    refine XS.iand X17.here hx rfl (hb hby at_93) rfl ?_
    show Steps p.tables e below (T17.setTop (mkF m 94 #[.val (.long q0), .second, .val (.int p1), .val (.int p2), .val (.ref b1), .unset, .unset, .unset, .unset] [(.int (p1 &&& (2147483647 : Int32)))])) _
    refine XS.bipush X17.here hx rfl (hb hby at_94) ?_
    show Steps p.tables e below (T17.setTop (mkF m 96 #[.val (.long q0), .second, .val (.int p1), .val (.int p2), .val (.ref b1), .unset, .unset, .unset, .unset] [(.int (9 : Int32)), (.int (p1 &&& (2147483647 : Int32)))])) _
    refine iremM X17 hx rfl (hb hby at_96) rfl (by decide) ?_
    show Steps p.tables e below (T17.setTop (mkF m 97 #[.val (.long q0), .second, .val (.int p1), .val (.int p2), .val (.ref b1), .unset, .unset, .unset, .unset] [(.int ((p1 &&& (2147483647 : Int32)) % (9 : Int32)))])) _
    refine XS.istore X17.here hx rfl (hb hby at_97) rfl (l' := #[.val (.long q0), .second, .val (.int p1), .val (.int p2), .val (.ref b1), .val (.int ((p1 &&& (2147483647 : Int32)) % (9 : Int32))), .unset, .unset, .unset]) rfl ?_
    show Steps p.tables e below (T17.setTop (mkF m 99 #[.val (.long q0), .second, .val (.int p1), .val (.int p2), .val (.ref b1), .val (.int ((p1 &&& (2147483647 : Int32)) % (9 : Int32))), .unset, .unset, .unset] [])) _
    refine XS.iloadN X17.here hx rfl (hb hby at_99) rfl ?_
    show Steps p.tables e below (T17.setTop (mkF m 100 #[.val (.long q0), .second, .val (.int p1), .val (.int p2), .val (.ref b1), .val (.int ((p1 &&& (2147483647 : Int32)) % (9 : Int32))), .unset, .unset, .unset] [(.int p2)])) _
    refine X17.ldcInt hx hown (mvT hZ (hw _ (List.mem_of_getElem? (i := 6) rfl))) (g := (mkF m 100 #[.val (.long q0), .second, .val (.int p1), .val (.int p2), .val (.ref b1), .val (.int ((p1 &&& (2147483647 : Int32)) % (9 : Int32))), .unset, .unset, .unset] [(.int p2)])) rfl (hb hby at_100) _ ?_
    show Steps p.tables e below (T17.setTop (mkF m 102 #[.val (.long q0), .second, .val (.int p1), .val (.int p2), .val (.ref b1), .val (.int ((p1 &&& (2147483647 : Int32)) % (9 : Int32))), .unset, .unset, .unset] [(.int (2147483647 : Int32)), (.int p2)])) _
    refine XS.iand X17.here hx rfl (hb hby at_102) rfl ?_
    show Steps p.tables e below (T17.setTop (mkF m 103 #[.val (.long q0), .second, .val (.int p1), .val (.int p2), .val (.ref b1), .val (.int ((p1 &&& (2147483647 : Int32)) % (9 : Int32))), .unset, .unset, .unset] [(.int (p2 &&& (2147483647 : Int32)))])) _
    refine XS.bipush X17.here hx rfl (hb hby at_103) ?_
    show Steps p.tables e below (T17.setTop (mkF m 105 #[.val (.long q0), .second, .val (.int p1), .val (.int p2), .val (.ref b1), .val (.int ((p1 &&& (2147483647 : Int32)) % (9 : Int32))), .unset, .unset, .unset] [(.int (9 : Int32)), (.int (p2 &&& (2147483647 : Int32)))])) _
    refine XS.iload X17.here hx rfl (hb hby at_105) rfl ?_
    show Steps p.tables e below (T17.setTop (mkF m 107 #[.val (.long q0), .second, .val (.int p1), .val (.int p2), .val (.ref b1), .val (.int ((p1 &&& (2147483647 : Int32)) % (9 : Int32))), .unset, .unset, .unset] [(.int ((p1 &&& (2147483647 : Int32)) % (9 : Int32))), (.int (9 : Int32)), (.int (p2 &&& (2147483647 : Int32)))])) _
    refine XS.isub X17.here hx rfl (hb hby at_107) rfl ?_
    show Steps p.tables e below (T17.setTop (mkF m 108 #[.val (.long q0), .second, .val (.int p1), .val (.int p2), .val (.ref b1), .val (.int ((p1 &&& (2147483647 : Int32)) % (9 : Int32))), .unset, .unset, .unset] [(.int ((9 : Int32) - ((p1 &&& (2147483647 : Int32)) % (9 : Int32)))), (.int (p2 &&& (2147483647 : Int32)))])) _
    refine iremM X17 hx rfl (hb hby at_108) rfl (own_nz9 p1) ?_
    show Steps p.tables e below (T17.setTop (mkF m 109 #[.val (.long q0), .second, .val (.int p1), .val (.int p2), .val (.ref b1), .val (.int ((p1 &&& (2147483647 : Int32)) % (9 : Int32))), .unset, .unset, .unset] [(.int (f0_e1 p1 p2))])) _
    refine XS.istore X17.here hx rfl (hb hby at_109) rfl (l' := #[.val (.long q0), .second, .val (.int p1), .val (.int p2), .val (.ref b1), .val (.int ((p1 &&& (2147483647 : Int32)) % (9 : Int32))), .val (.int (f0_e1 p1 p2)), .unset, .unset]) rfl ?_
    show Steps p.tables e below (T17.setTop (mkF m 111 #[.val (.long q0), .second, .val (.int p1), .val (.int p2), .val (.ref b1), .val (.int ((p1 &&& (2147483647 : Int32)) % (9 : Int32))), .val (.int (f0_e1 p1 p2)), .unset, .unset] [])) _
    refine XS.lloadN X17.here hx rfl (hb hby at_111) rfl ?_
    show Steps p.tables e below (T17.setTop (mkF m 112 #[.val (.long q0), .second, .val (.int p1), .val (.int p2), .val (.ref b1), .val (.int ((p1 &&& (2147483647 : Int32)) % (9 : Int32))), .val (.int (f0_e1 p1 p2)), .unset, .unset] [(.long q0)])) _
    refine XS.iconst X17.here hx rfl (hb hby at_112) ?_
    show Steps p.tables e below (T17.setTop (mkF m 113 #[.val (.long q0), .second, .val (.int p1), .val (.int p2), .val (.ref b1), .val (.int ((p1 &&& (2147483647 : Int32)) % (9 : Int32))), .val (.int (f0_e1 p1 p2)), .unset, .unset] [(.int (0 : Int32)), (.long q0)])) _
    refine XS.iload X17.here hx rfl (hb hby at_113) rfl ?_
    show Steps p.tables e below (T17.setTop (mkF m 115 #[.val (.long q0), .second, .val (.int p1), .val (.int p2), .val (.ref b1), .val (.int ((p1 &&& (2147483647 : Int32)) % (9 : Int32))), .val (.int (f0_e1 p1 p2)), .unset, .unset] [(.int ((p1 &&& (2147483647 : Int32)) % (9 : Int32))), (.int (0 : Int32)), (.long q0)])) _
    refine XS.iload X17.here hx rfl (hb hby at_115) rfl ?_
    show Steps p.tables e below (T17.setTop (mkF m 117 #[.val (.long q0), .second, .val (.int p1), .val (.int p2), .val (.ref b1), .val (.int ((p1 &&& (2147483647 : Int32)) % (9 : Int32))), .val (.int (f0_e1 p1 p2)), .unset, .unset] [(.int (f0_e1 p1 p2)), (.int ((p1 &&& (2147483647 : Int32)) % (9 : Int32))), (.int (0 : Int32)), (.long q0)])) _
    refine st18 _ ?_
    show Steps p.tables e below (T18.setTop (mkF m 120 #[.val (.long q0), .second, .val (.int p1), .val (.int p2), .val (.ref b1), .val (.int ((p1 &&& (2147483647 : Int32)) % (9 : Int32))), .val (.int (f0_e1 p1 p2)), .unset, .unset] [(.int (f0_e2 q0 p1 p2))])) _
    refine XS.lloadN X18.here hx rfl (hb hby at_120) rfl ?_
    show Steps p.tables e below (T18.setTop (mkF m 121 #[.val (.long q0), .second, .val (.int p1), .val (.int p2), .val (.ref b1), .val (.int ((p1 &&& (2147483647 : Int32)) % (9 : Int32))), .val (.int (f0_e1 p1 p2)), .unset, .unset] [(.long q0), (.int (f0_e2 q0 p1 p2))])) _
    refine XS.iconst X18.here hx rfl (hb hby at_121) ?_
    show Steps p.tables e below (T18.setTop (mkF m 122 #[.val (.long q0), .second, .val (.int p1), .val (.int p2), .val (.ref b1), .val (.int ((p1 &&& (2147483647 : Int32)) % (9 : Int32))), .val (.int (f0_e1 p1 p2)), .unset, .unset] [(.int (1 : Int32)), (.long q0), (.int (f0_e2 q0 p1 p2))])) _
    refine XS.iload X18.here hx rfl (hb hby at_122) rfl ?_
    show Steps p.tables e below (T18.setTop (mkF m 124 #[.val (.long q0), .second, .val (.int p1), .val (.int p2), .val (.ref b1), .val (.int ((p1 &&& (2147483647 : Int32)) % (9 : Int32))), .val (.int (f0_e1 p1 p2)), .unset, .unset] [(.int ((p1 &&& (2147483647 : Int32)) % (9 : Int32))), (.int (1 : Int32)), (.long q0), (.int (f0_e2 q0 p1 p2))])) _
    refine XS.iload X18.here hx rfl (hb hby at_124) rfl ?_
    show Steps p.tables e below (T18.setTop (mkF m 126 #[.val (.long q0), .second, .val (.int p1), .val (.int p2), .val (.ref b1), .val (.int ((p1 &&& (2147483647 : Int32)) % (9 : Int32))), .val (.int (f0_e1 p1 p2)), .unset, .unset] [(.int (f0_e1 p1 p2)), (.int ((p1 &&& (2147483647 : Int32)) % (9 : Int32))), (.int (1 : Int32)), (.long q0), (.int (f0_e2 q0 p1 p2))])) _
    refine st19 _ ?_
    show Steps p.tables e below (T19.setTop (mkF m 129 #[.val (.long q0), .second, .val (.int p1), .val (.int p2), .val (.ref b1), .val (.int ((p1 &&& (2147483647 : Int32)) % (9 : Int32))), .val (.int (f0_e1 p1 p2)), .unset, .unset] [(.int (f0_e3 q0 p1 p2)), (.int (f0_e2 q0 p1 p2))])) _
    refine XS.iadd X19.here hx rfl (hb hby at_129) rfl ?_
    show Steps p.tables e below (T19.setTop (mkF m 130 #[.val (.long q0), .second, .val (.int p1), .val (.int p2), .val (.ref b1), .val (.int ((p1 &&& (2147483647 : Int32)) % (9 : Int32))), .val (.int (f0_e1 p1 p2)), .unset, .unset] [(.int ((f0_e2 q0 p1 p2) + (f0_e3 q0 p1 p2)))])) _
    refine XS.lloadN X19.here hx rfl (hb hby at_130) rfl ?_
    show Steps p.tables e below (T19.setTop (mkF m 131 #[.val (.long q0), .second, .val (.int p1), .val (.int p2), .val (.ref b1), .val (.int ((p1 &&& (2147483647 : Int32)) % (9 : Int32))), .val (.int (f0_e1 p1 p2)), .unset, .unset] [(.long q0), (.int ((f0_e2 q0 p1 p2) + (f0_e3 q0 p1 p2)))])) _
    refine XS.iconst X19.here hx rfl (hb hby at_131) ?_
    show Steps p.tables e below (T19.setTop (mkF m 132 #[.val (.long q0), .second, .val (.int p1), .val (.int p2), .val (.ref b1), .val (.int ((p1 &&& (2147483647 : Int32)) % (9 : Int32))), .val (.int (f0_e1 p1 p2)), .unset, .unset] [(.int (2 : Int32)), (.long q0), (.int ((f0_e2 q0 p1 p2) + (f0_e3 q0 p1 p2)))])) _
    refine XS.iload X19.here hx rfl (hb hby at_132) rfl ?_
    show Steps p.tables e below (T19.setTop (mkF m 134 #[.val (.long q0), .second, .val (.int p1), .val (.int p2), .val (.ref b1), .val (.int ((p1 &&& (2147483647 : Int32)) % (9 : Int32))), .val (.int (f0_e1 p1 p2)), .unset, .unset] [(.int ((p1 &&& (2147483647 : Int32)) % (9 : Int32))), (.int (2 : Int32)), (.long q0), (.int ((f0_e2 q0 p1 p2) + (f0_e3 q0 p1 p2)))])) _
    refine XS.iload X19.here hx rfl (hb hby at_134) rfl ?_
    show Steps p.tables e below (T19.setTop (mkF m 136 #[.val (.long q0), .second, .val (.int p1), .val (.int p2), .val (.ref b1), .val (.int ((p1 &&& (2147483647 : Int32)) % (9 : Int32))), .val (.int (f0_e1 p1 p2)), .unset, .unset] [(.int (f0_e1 p1 p2)), (.int ((p1 &&& (2147483647 : Int32)) % (9 : Int32))), (.int (2 : Int32)), (.long q0), (.int ((f0_e2 q0 p1 p2) + (f0_e3 q0 p1 p2)))])) _
    refine st20 _ ?_
    show Steps p.tables e below (T20.setTop (mkF m 139 #[.val (.long q0), .second, .val (.int p1), .val (.int p2), .val (.ref b1), .val (.int ((p1 &&& (2147483647 : Int32)) % (9 : Int32))), .val (.int (f0_e1 p1 p2)), .unset, .unset] [(.int (f0_e4 q0 p1 p2)), (.int ((f0_e2 q0 p1 p2) + (f0_e3 q0 p1 p2)))])) _
    refine XS.iadd X20.here hx rfl (hb hby at_139) rfl ?_
    show Steps p.tables e below (T20.setTop (mkF m 140 #[.val (.long q0), .second, .val (.int p1), .val (.int p2), .val (.ref b1), .val (.int ((p1 &&& (2147483647 : Int32)) % (9 : Int32))), .val (.int (f0_e1 p1 p2)), .unset, .unset] [(.int (((f0_e2 q0 p1 p2) + (f0_e3 q0 p1 p2)) + (f0_e4 q0 p1 p2)))])) _
    refine XS.lloadN X20.here hx rfl (hb hby at_140) rfl ?_
    show Steps p.tables e below (T20.setTop (mkF m 141 #[.val (.long q0), .second, .val (.int p1), .val (.int p2), .val (.ref b1), .val (.int ((p1 &&& (2147483647 : Int32)) % (9 : Int32))), .val (.int (f0_e1 p1 p2)), .unset, .unset] [(.long q0), (.int (((f0_e2 q0 p1 p2) + (f0_e3 q0 p1 p2)) + (f0_e4 q0 p1 p2)))])) _
    refine XS.iconst X20.here hx rfl (hb hby at_141) ?_
    show Steps p.tables e below (T20.setTop (mkF m 142 #[.val (.long q0), .second, .val (.int p1), .val (.int p2), .val (.ref b1), .val (.int ((p1 &&& (2147483647 : Int32)) % (9 : Int32))), .val (.int (f0_e1 p1 p2)), .unset, .unset] [(.int (3 : Int32)), (.long q0), (.int (((f0_e2 q0 p1 p2) + (f0_e3 q0 p1 p2)) + (f0_e4 q0 p1 p2)))])) _
    refine XS.iload X20.here hx rfl (hb hby at_142) rfl ?_
    show Steps p.tables e below (T20.setTop (mkF m 144 #[.val (.long q0), .second, .val (.int p1), .val (.int p2), .val (.ref b1), .val (.int ((p1 &&& (2147483647 : Int32)) % (9 : Int32))), .val (.int (f0_e1 p1 p2)), .unset, .unset] [(.int ((p1 &&& (2147483647 : Int32)) % (9 : Int32))), (.int (3 : Int32)), (.long q0), (.int (((f0_e2 q0 p1 p2) + (f0_e3 q0 p1 p2)) + (f0_e4 q0 p1 p2)))])) _
    refine XS.iload X20.here hx rfl (hb hby at_144) rfl ?_
    show Steps p.tables e below (T20.setTop (mkF m 146 #[.val (.long q0), .second, .val (.int p1), .val (.int p2), .val (.ref b1), .val (.int ((p1 &&& (2147483647 : Int32)) % (9 : Int32))), .val (.int (f0_e1 p1 p2)), .unset, .unset] [(.int (f0_e1 p1 p2)), (.int ((p1 &&& (2147483647 : Int32)) % (9 : Int32))), (.int (3 : Int32)), (.long q0), (.int (((f0_e2 q0 p1 p2) + (f0_e3 q0 p1 p2)) + (f0_e4 q0 p1 p2)))])) _
    refine st21 _ ?_
    show Steps p.tables e below (T21.setTop (mkF m 149 #[.val (.long q0), .second, .val (.int p1), .val (.int p2), .val (.ref b1), .val (.int ((p1 &&& (2147483647 : Int32)) % (9 : Int32))), .val (.int (f0_e1 p1 p2)), .unset, .unset] [(.int (f0_e5 q0 p1 p2)), (.int (((f0_e2 q0 p1 p2) + (f0_e3 q0 p1 p2)) + (f0_e4 q0 p1 p2)))])) _
    refine XS.iadd X21.here hx rfl (hb hby at_149) rfl ?_
    show Steps p.tables e below (T21.setTop (mkF m 150 #[.val (.long q0), .second, .val (.int p1), .val (.int p2), .val (.ref b1), .val (.int ((p1 &&& (2147483647 : Int32)) % (9 : Int32))), .val (.int (f0_e1 p1 p2)), .unset, .unset] [(.int (f0_e6 q0 p1 p2))])) _
    refine XS.lloadN X21.here hx rfl (hb hby at_150) rfl ?_
    show Steps p.tables e below (T21.setTop (mkF m 151 #[.val (.long q0), .second, .val (.int p1), .val (.int p2), .val (.ref b1), .val (.int ((p1 &&& (2147483647 : Int32)) % (9 : Int32))), .val (.int (f0_e1 p1 p2)), .unset, .unset] [(.long q0), (.int (f0_e6 q0 p1 p2))])) _
    refine XS.iconst X21.here hx rfl (hb hby at_151) ?_
    show Steps p.tables e below (T21.setTop (mkF m 152 #[.val (.long q0), .second, .val (.int p1), .val (.int p2), .val (.ref b1), .val (.int ((p1 &&& (2147483647 : Int32)) % (9 : Int32))), .val (.int (f0_e1 p1 p2)), .unset, .unset] [(.int (4 : Int32)), (.long q0), (.int (f0_e6 q0 p1 p2))])) _
    refine XS.iload X21.here hx rfl (hb hby at_152) rfl ?_
    show Steps p.tables e below (T21.setTop (mkF m 154 #[.val (.long q0), .second, .val (.int p1), .val (.int p2), .val (.ref b1), .val (.int ((p1 &&& (2147483647 : Int32)) % (9 : Int32))), .val (.int (f0_e1 p1 p2)), .unset, .unset] [(.int ((p1 &&& (2147483647 : Int32)) % (9 : Int32))), (.int (4 : Int32)), (.long q0), (.int (f0_e6 q0 p1 p2))])) _
    refine XS.iload X21.here hx rfl (hb hby at_154) rfl ?_
    show Steps p.tables e below (T21.setTop (mkF m 156 #[.val (.long q0), .second, .val (.int p1), .val (.int p2), .val (.ref b1), .val (.int ((p1 &&& (2147483647 : Int32)) % (9 : Int32))), .val (.int (f0_e1 p1 p2)), .unset, .unset] [(.int (f0_e1 p1 p2)), (.int ((p1 &&& (2147483647 : Int32)) % (9 : Int32))), (.int (4 : Int32)), (.long q0), (.int (f0_e6 q0 p1 p2))])) _
    refine st22 _ ?_
    show Steps p.tables e below (T22.setTop (mkF m 159 #[.val (.long q0), .second, .val (.int p1), .val (.int p2), .val (.ref b1), .val (.int ((p1 &&& (2147483647 : Int32)) % (9 : Int32))), .val (.int (f0_e1 p1 p2)), .unset, .unset] [(.int (f0_e7 q0 p1 p2)), (.int (f0_e6 q0 p1 p2))])) _
    refine XS.iadd X22.here hx rfl (hb hby at_159) rfl ?_
    show Steps p.tables e below (T22.setTop (mkF m 160 #[.val (.long q0), .second, .val (.int p1), .val (.int p2), .val (.ref b1), .val (.int ((p1 &&& (2147483647 : Int32)) % (9 : Int32))), .val (.int (f0_e1 p1 p2)), .unset, .unset] [(.int ((f0_e6 q0 p1 p2) + (f0_e7 q0 p1 p2)))])) _
    refine XS.lloadN X22.here hx rfl (hb hby at_160) rfl ?_
    show Steps p.tables e below (T22.setTop (mkF m 161 #[.val (.long q0), .second, .val (.int p1), .val (.int p2), .val (.ref b1), .val (.int ((p1 &&& (2147483647 : Int32)) % (9 : Int32))), .val (.int (f0_e1 p1 p2)), .unset, .unset] [(.long q0), (.int ((f0_e6 q0 p1 p2) + (f0_e7 q0 p1 p2)))])) _
    refine XS.iconst X22.here hx rfl (hb hby at_161) ?_
    show Steps p.tables e below (T22.setTop (mkF m 162 #[.val (.long q0), .second, .val (.int p1), .val (.int p2), .val (.ref b1), .val (.int ((p1 &&& (2147483647 : Int32)) % (9 : Int32))), .val (.int (f0_e1 p1 p2)), .unset, .unset] [(.int (5 : Int32)), (.long q0), (.int ((f0_e6 q0 p1 p2) + (f0_e7 q0 p1 p2)))])) _
    refine XS.iload X22.here hx rfl (hb hby at_162) rfl ?_
    show Steps p.tables e below (T22.setTop (mkF m 164 #[.val (.long q0), .second, .val (.int p1), .val (.int p2), .val (.ref b1), .val (.int ((p1 &&& (2147483647 : Int32)) % (9 : Int32))), .val (.int (f0_e1 p1 p2)), .unset, .unset] [(.int ((p1 &&& (2147483647 : Int32)) % (9 : Int32))), (.int (5 : Int32)), (.long q0), (.int ((f0_e6 q0 p1 p2) + (f0_e7 q0 p1 p2)))])) _
    refine XS.iload X22.here hx rfl (hb hby at_164) rfl ?_
    show Steps p.tables e below (T22.setTop (mkF m 166 #[.val (.long q0), .second, .val (.int p1), .val (.int p2), .val (.ref b1), .val (.int ((p1 &&& (2147483647 : Int32)) % (9 : Int32))), .val (.int (f0_e1 p1 p2)), .unset, .unset] [(.int (f0_e1 p1 p2)), (.int ((p1 &&& (2147483647 : Int32)) % (9 : Int32))), (.int (5 : Int32)), (.long q0), (.int ((f0_e6 q0 p1 p2) + (f0_e7 q0 p1 p2)))])) _
    refine st23 _ ?_
    show Steps p.tables e below (T23.setTop (mkF m 169 #[.val (.long q0), .second, .val (.int p1), .val (.int p2), .val (.ref b1), .val (.int ((p1 &&& (2147483647 : Int32)) % (9 : Int32))), .val (.int (f0_e1 p1 p2)), .unset, .unset] [(.int (f0_e8 q0 p1 p2)), (.int ((f0_e6 q0 p1 p2) + (f0_e7 q0 p1 p2)))])) _
    refine XS.iadd X23.here hx rfl (hb hby at_169) rfl ?_
    show Steps p.tables e below (T23.setTop (mkF m 170 #[.val (.long q0), .second, .val (.int p1), .val (.int p2), .val (.ref b1), .val (.int ((p1 &&& (2147483647 : Int32)) % (9 : Int32))), .val (.int (f0_e1 p1 p2)), .unset, .unset] [(.int (((f0_e6 q0 p1 p2) + (f0_e7 q0 p1 p2)) + (f0_e8 q0 p1 p2)))])) _
    refine XS.lloadN X23.here hx rfl (hb hby at_170) rfl ?_
    show Steps p.tables e below (T23.setTop (mkF m 171 #[.val (.long q0), .second, .val (.int p1), .val (.int p2), .val (.ref b1), .val (.int ((p1 &&& (2147483647 : Int32)) % (9 : Int32))), .val (.int (f0_e1 p1 p2)), .unset, .unset] [(.long q0), (.int (((f0_e6 q0 p1 p2) + (f0_e7 q0 p1 p2)) + (f0_e8 q0 p1 p2)))])) _
    refine XS.bipush X23.here hx rfl (hb hby at_171) ?_
    show Steps p.tables e below (T23.setTop (mkF m 173 #[.val (.long q0), .second, .val (.int p1), .val (.int p2), .val (.ref b1), .val (.int ((p1 &&& (2147483647 : Int32)) % (9 : Int32))), .val (.int (f0_e1 p1 p2)), .unset, .unset] [(.int (6 : Int32)), (.long q0), (.int (((f0_e6 q0 p1 p2) + (f0_e7 q0 p1 p2)) + (f0_e8 q0 p1 p2)))])) _
    refine XS.iload X23.here hx rfl (hb hby at_173) rfl ?_
    show Steps p.tables e below (T23.setTop (mkF m 175 #[.val (.long q0), .second, .val (.int p1), .val (.int p2), .val (.ref b1), .val (.int ((p1 &&& (2147483647 : Int32)) % (9 : Int32))), .val (.int (f0_e1 p1 p2)), .unset, .unset] [(.int ((p1 &&& (2147483647 : Int32)) % (9 : Int32))), (.int (6 : Int32)), (.long q0), (.int (((f0_e6 q0 p1 p2) + (f0_e7 q0 p1 p2)) + (f0_e8 q0 p1 p2)))])) _
    refine XS.iload X23.here hx rfl (hb hby at_175) rfl ?_
    show Steps p.tables e below (T23.setTop (mkF m 177 #[.val (.long q0), .second, .val (.int p1), .val (.int p2), .val (.ref b1), .val (.int ((p1 &&& (2147483647 : Int32)) % (9 : Int32))), .val (.int (f0_e1 p1 p2)), .unset, .unset] [(.int (f0_e1 p1 p2)), (.int ((p1 &&& (2147483647 : Int32)) % (9 : Int32))), (.int (6 : Int32)), (.long q0), (.int (((f0_e6 q0 p1 p2) + (f0_e7 q0 p1 p2)) + (f0_e8 q0 p1 p2)))])) _
    refine st24 _ ?_
    show Steps p.tables e below (T24.setTop (mkF m 180 #[.val (.long q0), .second, .val (.int p1), .val (.int p2), .val (.ref b1), .val (.int ((p1 &&& (2147483647 : Int32)) % (9 : Int32))), .val (.int (f0_e1 p1 p2)), .unset, .unset] [(.int (f0_e9 q0 p1 p2)), (.int (((f0_e6 q0 p1 p2) + (f0_e7 q0 p1 p2)) + (f0_e8 q0 p1 p2)))])) _
    refine XS.iadd X24.here hx rfl (hb hby at_180) rfl ?_
    show Steps p.tables e below (T24.setTop (mkF m 181 #[.val (.long q0), .second, .val (.int p1), .val (.int p2), .val (.ref b1), .val (.int ((p1 &&& (2147483647 : Int32)) % (9 : Int32))), .val (.int (f0_e1 p1 p2)), .unset, .unset] [(.int (f0_e10 q0 p1 p2))])) _
    refine XS.lloadN X24.here hx rfl (hb hby at_181) rfl ?_
    show Steps p.tables e below (T24.setTop (mkF m 182 #[.val (.long q0), .second, .val (.int p1), .val (.int p2), .val (.ref b1), .val (.int ((p1 &&& (2147483647 : Int32)) % (9 : Int32))), .val (.int (f0_e1 p1 p2)), .unset, .unset] [(.long q0), (.int (f0_e10 q0 p1 p2))])) _
    refine XS.bipush X24.here hx rfl (hb hby at_182) ?_
    show Steps p.tables e below (T24.setTop (mkF m 184 #[.val (.long q0), .second, .val (.int p1), .val (.int p2), .val (.ref b1), .val (.int ((p1 &&& (2147483647 : Int32)) % (9 : Int32))), .val (.int (f0_e1 p1 p2)), .unset, .unset] [(.int (7 : Int32)), (.long q0), (.int (f0_e10 q0 p1 p2))])) _
    refine XS.iload X24.here hx rfl (hb hby at_184) rfl ?_
    show Steps p.tables e below (T24.setTop (mkF m 186 #[.val (.long q0), .second, .val (.int p1), .val (.int p2), .val (.ref b1), .val (.int ((p1 &&& (2147483647 : Int32)) % (9 : Int32))), .val (.int (f0_e1 p1 p2)), .unset, .unset] [(.int ((p1 &&& (2147483647 : Int32)) % (9 : Int32))), (.int (7 : Int32)), (.long q0), (.int (f0_e10 q0 p1 p2))])) _
    refine XS.iload X24.here hx rfl (hb hby at_186) rfl ?_
    show Steps p.tables e below (T24.setTop (mkF m 188 #[.val (.long q0), .second, .val (.int p1), .val (.int p2), .val (.ref b1), .val (.int ((p1 &&& (2147483647 : Int32)) % (9 : Int32))), .val (.int (f0_e1 p1 p2)), .unset, .unset] [(.int (f0_e1 p1 p2)), (.int ((p1 &&& (2147483647 : Int32)) % (9 : Int32))), (.int (7 : Int32)), (.long q0), (.int (f0_e10 q0 p1 p2))])) _
    refine st25 _ ?_
    show Steps p.tables e below (T25.setTop (mkF m 191 #[.val (.long q0), .second, .val (.int p1), .val (.int p2), .val (.ref b1), .val (.int ((p1 &&& (2147483647 : Int32)) % (9 : Int32))), .val (.int (f0_e1 p1 p2)), .unset, .unset] [(.int (f0_e11 q0 p1 p2)), (.int (f0_e10 q0 p1 p2))])) _
    refine XS.iadd X25.here hx rfl (hb hby at_191) rfl ?_
    show Steps p.tables e below (T25.setTop (mkF m 192 #[.val (.long q0), .second, .val (.int p1), .val (.int p2), .val (.ref b1), .val (.int ((p1 &&& (2147483647 : Int32)) % (9 : Int32))), .val (.int (f0_e1 p1 p2)), .unset, .unset] [(.int ((f0_e10 q0 p1 p2) + (f0_e11 q0 p1 p2)))])) _
    refine XS.istore X25.here hx rfl (hb hby at_192) rfl (l' := #[.val (.long q0), .second, .val (.int p1), .val (.int p2), .val (.ref b1), .val (.int ((p1 &&& (2147483647 : Int32)) % (9 : Int32))), .val (.int (f0_e1 p1 p2)), .val (.int ((f0_e10 q0 p1 p2) + (f0_e11 q0 p1 p2))), .unset]) rfl ?_
    show Steps p.tables e below (T25.setTop (mkF m 194 #[.val (.long q0), .second, .val (.int p1), .val (.int p2), .val (.ref b1), .val (.int ((p1 &&& (2147483647 : Int32)) % (9 : Int32))), .val (.int (f0_e1 p1 p2)), .val (.int ((f0_e10 q0 p1 p2) + (f0_e11 q0 p1 p2))), .unset] [])) _
    refine XS.aload X25.here hx rfl (hb hby at_194) rfl rfl ?_
    show Steps p.tables e below (T25.setTop (mkF m 196 #[.val (.long q0), .second, .val (.int p1), .val (.int p2), .val (.ref b1), .val (.int ((p1 &&& (2147483647 : Int32)) % (9 : Int32))), .val (.int (f0_e1 p1 p2)), .val (.int ((f0_e10 q0 p1 p2) + (f0_e11 q0 p1 p2))), .unset] [(.ref b1)])) _
    refine XS.iload X25.here hx rfl (hb hby at_196) rfl ?_
    show Steps p.tables e below (T25.setTop (mkF m 198 #[.val (.long q0), .second, .val (.int p1), .val (.int p2), .val (.ref b1), .val (.int ((p1 &&& (2147483647 : Int32)) % (9 : Int32))), .val (.int (f0_e1 p1 p2)), .val (.int ((f0_e10 q0 p1 p2) + (f0_e11 q0 p1 p2))), .unset] [(.int ((p1 &&& (2147483647 : Int32)) % (9 : Int32))), (.ref b1)])) _
    refine XS.iload X25.here hx rfl (hb hby at_198) rfl ?_
    show Steps p.tables e below (T25.setTop (mkF m 200 #[.val (.long q0), .second, .val (.int p1), .val (.int p2), .val (.ref b1), .val (.int ((p1 &&& (2147483647 : Int32)) % (9 : Int32))), .val (.int (f0_e1 p1 p2)), .val (.int ((f0_e10 q0 p1 p2) + (f0_e11 q0 p1 p2))), .unset] [(.int (f0_e1 p1 p2)), (.int ((p1 &&& (2147483647 : Int32)) % (9 : Int32))), (.ref b1)])) _
    refine st26 _ ?_
    show Steps p.tables e below (T26.setTop (mkF m 203 #[.val (.long q0), .second, .val (.int p1), .val (.int p2), .val (.ref b1), .val (.int ((p1 &&& (2147483647 : Int32)) % (9 : Int32))), .val (.int (f0_e1 p1 p2)), .val (.int ((f0_e10 q0 p1 p2) + (f0_e11 q0 p1 p2))), .unset] [(.int (f0_e12 q0 p1 p2))])) _
    refine XS.istore X26.here hx rfl (hb hby at_203) rfl (l' := #[.val (.long q0), .second, .val (.int p1), .val (.int p2), .val (.ref b1), .val (.int ((p1 &&& (2147483647 : Int32)) % (9 : Int32))), .val (.int (f0_e1 p1 p2)), .val (.int ((f0_e10 q0 p1 p2) + (f0_e11 q0 p1 p2))), .val (.int (f0_e12 q0 p1 p2))]) rfl ?_
    show Steps p.tables e below (T26.setTop (mkF m 205 #[.val (.long q0), .second, .val (.int p1), .val (.int p2), .val (.ref b1), .val (.int ((p1 &&& (2147483647 : Int32)) % (9 : Int32))), .val (.int (f0_e1 p1 p2)), .val (.int ((f0_e10 q0 p1 p2) + (f0_e11 q0 p1 p2))), .val (.int (f0_e12 q0 p1 p2))] [])) _
    refine XS.iload X26.here hx rfl (hb hby at_205) rfl ?_
    show Steps p.tables e below (T26.setTop (mkF m 207 #[.val (.long q0), .second, .val (.int p1), .val (.int p2), .val (.ref b1), .val (.int ((p1 &&& (2147483647 : Int32)) % (9 : Int32))), .val (.int (f0_e1 p1 p2)), .val (.int ((f0_e10 q0 p1 p2) + (f0_e11 q0 p1 p2))), .val (.int (f0_e12 q0 p1 p2))] [(.int (f0_e12 q0 p1 p2))])) _
    refine XS.iload X26.here hx rfl (hb hby at_207) rfl ?_
    exact kt)
  by_cases hc28 : (f0_e12 q0 p1 p2) = ((f0_e10 q0 p1 p2) + (f0_e11 q0 p1 p2))
  · obtain ⟨fs, hr, hrun, hended, hW, hsame⟩ := X26.leave (v := some (.int (1 : Int32))) (fun h => by rw [Bd.returns] at h; cases h) hlk
    refine ⟨_, _, pre27 _ ?_, hrun, hended, _, _, rfl, ?_, ⟨_, rfl⟩, hW, hsame.mono (by decide) (by decide)⟩
    · show Steps p.tables e below (T26.setTop (mkF m 209 #[.val (.long q0), .second, .val (.int p1), .val (.int p2), .val (.ref b1), .val (.int ((p1 &&& (2147483647 : Int32)) % (9 : Int32))), .val (.int (f0_e1 p1 p2)), .val (.int ((f0_e10 q0 p1 p2) + (f0_e11 q0 p1 p2))), .val (.int (f0_e12 q0 p1 p2))] [(.int ((f0_e10 q0 p1 p2) + (f0_e11 q0 p1 p2))), (.int (f0_e12 q0 p1 p2))])) _
      refine XS.icmpNo X26.here hx rfl (hb hby at_209) rfl (teq hc28).2 ?_
      show Steps p.tables e below (T26.setTop (mkF m 212 #[.val (.long q0), .second, .val (.int p1), .val (.int p2), .val (.ref b1), .val (.int ((p1 &&& (2147483647 : Int32)) % (9 : Int32))), .val (.int (f0_e1 p1 p2)), .val (.int ((f0_e10 q0 p1 p2) + (f0_e11 q0 p1 p2))), .val (.int (f0_e12 q0 p1 p2))] [])) _
      refine XS.iconst X26.here hx rfl (hb hby at_212) ?_
      show Steps p.tables e below (T26.setTop (mkF m 213 #[.val (.long q0), .second, .val (.int p1), .val (.int p2), .val (.ref b1), .val (.int ((p1 &&& (2147483647 : Int32)) % (9 : Int32))), .val (.int (f0_e1 p1 p2)), .val (.int ((f0_e10 q0 p1 p2) + (f0_e11 q0 p1 p2))), .val (.int (f0_e12 q0 p1 p2))] [(.int (1 : Int32))])) _
      refine XS.goto X26.here hx rfl (pc0 := 213) (pc' := 217) rfl (hb hby at_213) (by decide) (by decide) ?_
      show Steps p.tables e below (T26.setTop (mkF m 217 #[.val (.long q0), .second, .val (.int p1), .val (.int p2), .val (.ref b1), .val (.int ((p1 &&& (2147483647 : Int32)) % (9 : Int32))), .val (.int (f0_e1 p1 p2)), .val (.int ((f0_e10 q0 p1 p2) + (f0_e11 q0 p1 p2))), .val (.int (f0_e12 q0 p1 p2))] [(.int (1 : Int32))])) _
      exact retN X26 hx (t := .boolean) Bd.returns (by simp) (hb hby at_217) hr
    · show Q0 Z q0 p1 p2 h0 n0 _ T26.heap _
      rw [e26]
      exact ⟨by rw [show f0 q0 p1 p2 = (1 : Int32) from by unfold f0; rw [if_pos hc28]], N26⟩
  · obtain ⟨fs, hr, hrun, hended, hW, hsame⟩ := X26.leave (v := some (.int (0 : Int32))) (fun h => by rw [Bd.returns] at h; cases h) hlk
    refine ⟨_, _, pre27 _ ?_, hrun, hended, _, _, rfl, ?_, ⟨_, rfl⟩, hW, hsame.mono (by decide) (by decide)⟩
    · show Steps p.tables e below (T26.setTop (mkF m 209 #[.val (.long q0), .second, .val (.int p1), .val (.int p2), .val (.ref b1), .val (.int ((p1 &&& (2147483647 : Int32)) % (9 : Int32))), .val (.int (f0_e1 p1 p2)), .val (.int ((f0_e10 q0 p1 p2) + (f0_e11 q0 p1 p2))), .val (.int (f0_e12 q0 p1 p2))] [(.int ((f0_e10 q0 p1 p2) + (f0_e11 q0 p1 p2))), (.int (f0_e12 q0 p1 p2))])) _
      refine XS.icmpYes X26.here hx rfl (pc0 := 209) (pc' := 216) rfl (hb hby at_209) rfl (feq hc28).2 (by decide) (by decide) ?_
      show Steps p.tables e below (T26.setTop (mkF m 216 #[.val (.long q0), .second, .val (.int p1), .val (.int p2), .val (.ref b1), .val (.int ((p1 &&& (2147483647 : Int32)) % (9 : Int32))), .val (.int (f0_e1 p1 p2)), .val (.int ((f0_e10 q0 p1 p2) + (f0_e11 q0 p1 p2))), .val (.int (f0_e12 q0 p1 p2))] [])) _
      refine XS.iconst X26.here hx rfl (hb hby at_216) ?_
      show Steps p.tables e below (T26.setTop (mkF m 217 #[.val (.long q0), .second, .val (.int p1), .val (.int p2), .val (.ref b1), .val (.int ((p1 &&& (2147483647 : Int32)) % (9 : Int32))), .val (.int (f0_e1 p1 p2)), .val (.int ((f0_e10 q0 p1 p2) + (f0_e11 q0 p1 p2))), .val (.int (f0_e12 q0 p1 p2))] [(.int (0 : Int32))])) _
      exact retN X26 hx (t := .boolean) Bd.returns (by simp) (hb hby at_217) hr
    · show Q0 Z q0 p1 p2 h0 n0 _ T26.heap _
      rw [e26]
      exact ⟨by rw [show f0 q0 p1 p2 = (0 : Int32) from by unfold f0; rw [if_neg hc28]], N26⟩
theorem own_oct (q0 : Int64) (i : Int32) : 0 ≤ (f1 q0 i).toInt ∧ (f1 q0 i).toInt ≤ 255 := by
  unfold f1
  have e := c_maskL (f1_e1 q0 i) 255 8 (by decide) (by decide)
  have e2 : ((2 ^ 8 : Nat) : Int) = 256 := by decide
  rw [e2] at e
  have l := c_l2i (f1_e1 q0 i &&& 255)
  have r := rng32 (f1_e1 q0 i &&& 255).toInt32
  omega
theorem own_vm (q0 : Int64) (i : Int32) : own_v q0 i &&& 255 = f1 q0 i := by
  have o := own_oct q0 i
  unfold own_v
  generalize f1 q0 i = x at *
  have b1 := c_i2b x
  have b2 := c_i2b x.toInt8.toInt32
  have e := c_mask x.toInt8.toInt32.toInt8.toInt32 255 8 (by decide) (by decide)
  have e2 : ((2 ^ 8 : Nat) : Int) = 256 := by decide
  rw [e2] at e
  apply Int32.toInt_inj.mp
  rw [e]
  omega
theorem own_ss (q0 : Int64) (k : Nat) (i S : Int32) : own_sum (own_v q0) (k + 1) i S = own_sum (own_v q0) k (i + 1) (S + f1 q0 i) := by
  show own_sum (own_v q0) k (i + 1) (S + (own_v q0 i &&& 255)) = _
  rw [own_vm]
theorem own_s0 (vv : Int32 → Int32) (i S : Int32) : own_sum vv 0 i S = S := rfl
theorem own_bnd (q0 : Int64) : ∀ (k : Nat) (i S : Int32), 0 ≤ S.toInt → S.toInt + 255 * (k : Int) < 65536 → 0 ≤ (own_sum (own_v q0) k i S).toInt ∧ (own_sum (own_v q0) k i S).toInt < 65536 := by
  intro k
  induction k with
  | zero => intro i S h0 h1; rw [own_s0]; omega
  | succ k ih =>
    intro i S h0 h1
    rw [own_ss]
    have o := own_oct q0 i
    have a := c_iadd S (f1 q0 i)
    have r := rng32 (S + f1 q0 i)
    exact ih _ _ (by omega) (by omega)
theorem own_m16 (x : Int32) (h0 : 0 ≤ x.toInt) (h1 : x.toInt < 65536) : x &&& 65535 = x := by
  have e := c_mask x 65535 16 (by decide) (by decide)
  have e2 : ((2 ^ 16 : Nat) : Int) = 65536 := by decide
  rw [e2] at e
  apply Int32.toInt_inj.mp
  omega
theorem own_nine : ∀ n : Fin 9, (Int32.ofInt ((n.val : Nat) : Int) = 0 ∧ (Int32.ofInt ((n.val : Nat) : Int)).toInt.toNat = 0) ∨ (Int32.ofInt ((n.val : Nat) : Int) = 1 ∧ (Int32.ofInt ((n.val : Nat) : Int)).toInt.toNat = 1) ∨ (Int32.ofInt ((n.val : Nat) : Int) = 2 ∧ (Int32.ofInt ((n.val : Nat) : Int)).toInt.toNat = 2) ∨ (Int32.ofInt ((n.val : Nat) : Int) = 3 ∧ (Int32.ofInt ((n.val : Nat) : Int)).toInt.toNat = 3) ∨ (Int32.ofInt ((n.val : Nat) : Int) = 4 ∧ (Int32.ofInt ((n.val : Nat) : Int)).toInt.toNat = 4) ∨ (Int32.ofInt ((n.val : Nat) : Int) = 5 ∧ (Int32.ofInt ((n.val : Nat) : Int)).toInt.toNat = 5) ∨ (Int32.ofInt ((n.val : Nat) : Int) = 6 ∧ (Int32.ofInt ((n.val : Nat) : Int)).toInt.toNat = 6) ∨ (Int32.ofInt ((n.val : Nat) : Int) = 7 ∧ (Int32.ofInt ((n.val : Nat) : Int)).toInt.toNat = 7) ∨ (Int32.ofInt ((n.val : Nat) : Int) = 8 ∧ (Int32.ofInt ((n.val : Nat) : Int)).toInt.toNat = 8) := by decide +kernel
set_option maxRecDepth 65536 in
set_option maxHeartbeats 4000000 in
theorem own_case (q0 : Int64) (off len : Int32) (h0 : 0 ≤ off.toInt) (h1 : 0 ≤ len.toInt) (h2 : off.toInt + len.toInt ≤ 8) :
    own_sum (own_v q0) len.toInt.toNat off 0 &&& 65535 = f2 q0 0 off len + f2 q0 1 off len + f2 q0 2 off len + f2 q0 3 off len + f2 q0 4 off len + f2 q0 5 off len + f2 q0 6 off len + f2 q0 7 off len := by
  have bd := own_bnd q0 len.toInt.toNat off 0 (by decide) (by have l0 : (0 : Int32).toInt = 0 := rfl; omega)
  rw [own_m16 _ bd.1 bd.2]
  clear bd
  obtain ⟨n, rfl⟩ := own_of (c := off) (k := 9) h0 (by omega)
  obtain ⟨l, rfl⟩ := own_of (c := len) (k := 9) h1 (by omega)
  rcases own_nine n with ⟨e, -⟩ | ⟨e, -⟩ | ⟨e, -⟩ | ⟨e, -⟩ | ⟨e, -⟩ | ⟨e, -⟩ | ⟨e, -⟩ | ⟨e, -⟩ | ⟨e, -⟩ <;> rw [e] at h2 ⊢ <;>
  rcases own_nine l with ⟨d, d'⟩ | ⟨d, d'⟩ | ⟨d, d'⟩ | ⟨d, d'⟩ | ⟨d, d'⟩ | ⟨d, d'⟩ | ⟨d, d'⟩ | ⟨d, d'⟩ | ⟨d, d'⟩ <;> rw [d'] <;> rw [d] at h2 ⊢ <;>
  first
  | (exfalso; revert h2; decide)
  | (simp +decide [own_ss, own_s0, f2])
theorem own_law (q0 : Int64) (p1 p2 : Int32) : f0 q0 p1 p2 = 1 := by
  unfold f0
  rw [if_pos]
  exact own_case q0 (own_off p1) (own_len p1 p2) (own_b1 p1 p2) (own_b2 p1 p2) (own_b3 p1 p2)
set_option maxRecDepth 65536 in
set_option maxHeartbeats 40000000 in
theorem comes_1 {Post : Tables → Env → Array Value → State → Outcome → State → Prop} (hpost : ∀ tb e args s v u, (limb_1_1.after args s (.returned v) u = true ∧ limb_1_2.after args s (.returned v) u = true ∧ True) → FrameEnd s (.returned v) u (Jvm.fieldLocs frame_1_writes args s ++ Jvm.arrayLocs frame_1_arrays args s ++ Jvm.staticLocs frame_1_statics s) 16 128 → Post tb e args s (.returned v) u) :
    ArmFor flags0 classFile x code maxLocals ret World_1 tables_1 room_1 Calls_1 rest_1 Pre_1 Post := by
  intro l hfl _ _ p e ha hc hk s m args below hf hA hF happ hP
  obtain ⟨hcalls, hrest, hpre⟩ := hP
  obtain ⟨-, -, -, hnamed, -, -, -, hat⟩ := (Spec.applies_iff hf).mp happ
  obtain ⟨hg, hn⟩ := and_e (Cond.before_iff.mp (show (Jvm.Cond.and given_1 narrow_1).before args s = true from hpre))
  obtain ⟨g1, g2⟩ := and_e hg
  obtain ⟨g3, g4⟩ := and_e g2
  obtain ⟨g5, g6⟩ := and_e g4
  obtain ⟨w0, w1, w2, rfl⟩ : ∃ w0 w1 w2 : Value, args = #[w0, w1, w2] := by
    have hs : args.size = 3 := by simpa [Cond.value, given_1] using g1
    obtain ⟨L⟩ := args
    match L, hs with
    | [w0, w1, w2], _ => exact ⟨w0, w1, w2, rfl⟩
  have hw := fun d (hd : d ∈ tables_1) => atoms_spec (ws := Jvm.Cond.code x code maxLocals ret :: tables_1) hat d (List.mem_cons_of_mem _ hd)
  have hfit : Fit s := fun {y c} hc i hi => by
    obtain ⟨ha, rfl⟩ := Array.getElem?_eq_some_iff.mp hc
    have q := List.all_eq_true.mp ((Array.all_eq_true_iff_forall_mem.mp hF) _ (Array.getElem_mem ha)) i (List.mem_range.mpr hi)
    simpa [Array.getElem?_eq_getElem hi] using q
  obtain ⟨i0, ei0⟩ := isL_v g3
  obtain rfl : w0 = (.long i0) := Option.some.inj ei0
  obtain ⟨i1, ei1⟩ := is_v g5
  obtain rfl : w1 = (.int i1) := Option.some.inj ei1
  obtain ⟨i2, ei2⟩ := is_v g6
  obtain rfl : w2 = (.int i2) := Option.some.inj ei2
  obtain ⟨n, o, h1, h2, h3, _, L, rfl, ⟨rfl, N⟩, hq⟩ := rm0 l s _ hw tables_1 i0 i1 i2 s.heap s.heap.size (Nat.le_refl _) p e ha hc hk s m _ below hf ((Spec.applies_iff_loose hf).mp happ).1 ⟨rfl, State.Warmed39.refl s, rfl⟩ trivial
  refine ⟨n, _, h1, h2, h3, hpost _ _ _ _ _ _ ⟨Cond.after_iff.mpr rfl, Cond.after_iff.mpr (eq_i res_at (Term.int_eval (1)) (by rw [own_law i0 i1 i2])), trivial⟩ ⟨hq.1, hq.2.1, (hq.2.2.sift fun y hy => Or.inr (N y hy)).mono (by decide) (by decide)⟩⟩
theorem main_1_1 : Claimed_1_1 := comes_1 fun _ _ _ _ _ _ h hF => ⟨h.1, hF⟩
theorem main_1_2 : Claimed_1_2 := comes_1 fun _ _ _ _ _ _ h hF => ⟨h.2.1, hF⟩
end Jvm.Pilot.@@N@@
namespace Jvm.Pilot.@@N@@
open Jvm Jvm.ClassFile Sem Op Lib Jvm.Free Jvm.Stand Jvm.Pilot.@@N@@.Jvm.D
/-! MADE BY PROGRAM (witnessworld.py) out of the Statement's table words and the real class files: 9 classes; the members and pool entries that the words name. The judged class is class 1, her method 3. -/
namespace start1
open Jvm.ClassFile
def u (s : String) : CpInfo := .utf8 (stringToUtf16 s)
/-- a pool by its gaps: so many unusable entries, then the entry; so many at the end -/
def gap : Nat → List CpInfo → List CpInfo
  | 0, r => r
  | n + 1, r => .unusable :: gap n r
def poolList (es : List (Nat × CpInfo)) (last : Nat) : List CpInfo := es.foldr (fun e r => gap e.1 (e.2 :: r)) (gap last [])
def pool (es : List (Nat × CpInfo)) (last : Nat) : Array CpInfo := ⟨poolList es last⟩
def fileOf (pool : Array CpInfo) (this : Nat) (attrs : Array Attribute := #[]) (ms : Array MethodInfo := #[]) (fl : Nat := 33) (sup : Nat := 0) (ifs : Array Nat := #[]) (fds : Array FieldInfo := #[]) : ClassFile where
  minorVersion := 0
  majorVersion := 65
  constantPool := pool
  accessFlags := fl
  thisClass := this
  superClass := sup
  interfaces := ifs
  fields := fds
  methods := ms
  attributes := attrs
def plain (name : String) (sup : Option ClassId) : Class where
  name := name
  kind := .ordinary
  loader := none
  accessFlags := 33
  super := sup
  interfaces := #[]
  cf := none
  fields := #[]
  methods := #[]
  instanceTypes := #[]
  staticTypes := #[]
  resolved := #[]
  callSites := []
  init := .initialized
  statics := none
  mirror := none

def pool0 : Array CpInfo := pool [(5, u "<init>"), (0, u "()V"), (1, .class_ 10), (1, u "java/lang/Object")] 113

def k0m0 : Method := { name := "<init>", desc := "()V", sig := { parameters := [], returnType := none }, accessFlags := 1, code := none }
/-- java/lang/Object -/
def k0 : Class := { plain "java/lang/Object" none with
  accessFlags := 33
  interfaces := #[]
  cf := some (fileOf pool0 8 #[] #[{ accessFlags := 1, nameIndex := 5, descriptorIndex := 6, attributes := #[] }] 33 0 #[] #[])
  fields := #[]
  methods := #[k0m0]
  instanceTypes := #[]
  staticTypes := #[]
  resolved := Array.replicate 124 none
  statics := none }

def pool1 : Array CpInfo := pool [(2, .class_ 4), (1, u "java/lang/Object"), (0, u "<init>"), (0, u "()V"), (0, .long 255), (1, .methodref 10 11), (0, .class_ 12), (0, .nameAndType 13 14), (0, u "com/example/sealwax/sealwax/OctetSumOfPinLaw"), (0, u "octet"), (0, u "(JI)I"), (0, .integer 2147483647), (0, .methodref 10 17), (0, .nameAndType 18 19), (0, u "term"), (0, u "(JIII)I"), (0, .methodref 21 22), (0, .class_ 23), (0, .nameAndType 24 25), (0, u "com/example/sealwax/sealwax/OctetSum"), (0, u "of"), (0, u "([BII)I"), (3, u "law"), (0, u "(JII)Z")] 4

def k1m0 : Method := { name := "<init>", desc := "()V", sig := { parameters := [], returnType := none }, accessFlags := 2, code := none }
def k1c1 : Code := { maxStack := 4, maxLocals := 3, code := method_2_code, exceptionTable := #[], attributes := #[] }
def k1m1 : Method := { name := "octet", desc := "(JI)I", sig := { parameters := [.long, .int], returnType := some .int }, accessFlags := 10, code := some k1c1 }
def k1c2 : Code := { maxStack := 3, maxLocals := 5, code := method_3_code, exceptionTable := #[], attributes := #[] }
def k1m2 : Method := { name := "term", desc := "(JIII)I", sig := { parameters := [.long, .int, .int, .int], returnType := some .int }, accessFlags := 10, code := some k1c2 }
def k1c3 : Code := { maxStack := 6, maxLocals := 9, code := code, exceptionTable := #[], attributes := #[] }
def k1m3 : Method := { name := "law", desc := "(JII)Z", sig := { parameters := [.long, .int, .int], returnType := some .boolean }, accessFlags := 9, code := some k1c3 }
/-- com/example/sealwax/sealwax/OctetSumOfPinLaw -/
def k1 : Class := { plain "com/example/sealwax/sealwax/OctetSumOfPinLaw" (some 0) with
  accessFlags := 49
  interfaces := #[]
  cf := some (fileOf pool1 10 #[] #[{ accessFlags := 2, nameIndex := 5, descriptorIndex := 6, attributes := #[] }, { accessFlags := 10, nameIndex := 13, descriptorIndex := 14, attributes := #[] }, { accessFlags := 10, nameIndex := 18, descriptorIndex := 19, attributes := #[] }, { accessFlags := 9, nameIndex := 29, descriptorIndex := 30, attributes := #[] }] 49 2 #[] #[])
  fields := #[]
  methods := #[k1m0, k1m1, k1m2, k1m3]
  instanceTypes := #[]
  staticTypes := #[]
  resolved := Array.replicate 35 none
  statics := none }

def pool2 : Array CpInfo := pool [(2, .class_ 4), (1, u "java/lang/Object"), (0, u "<init>"), (0, u "()V"), (0, .integer 65535), (1, .class_ 11), (1, u "com/example/sealwax/sealwax/OctetSum"), (0, u "of"), (0, u "([BII)I")] 7

def k2m0 : Method := { name := "<init>", desc := "()V", sig := { parameters := [], returnType := none }, accessFlags := 2, code := none }
def k2c1 : Code := { maxStack := 3, maxLocals := 5, code := prog_26_method_2_code, exceptionTable := #[], attributes := #[] }
def k2m1 : Method := { name := "of", desc := "([BII)I", sig := { parameters := [(.array .byte), .int, .int], returnType := some .int }, accessFlags := 8, code := some k2c1 }
/-- com/example/sealwax/sealwax/OctetSum -/
def k2 : Class := { plain "com/example/sealwax/sealwax/OctetSum" (some 0) with
  accessFlags := 48
  interfaces := #[]
  cf := some (fileOf pool2 9 #[] #[{ accessFlags := 2, nameIndex := 5, descriptorIndex := 6, attributes := #[] }, { accessFlags := 8, nameIndex := 12, descriptorIndex := 13, attributes := #[] }] 48 2 #[] #[])
  fields := #[]
  methods := #[k2m0, k2m1]
  instanceTypes := #[]
  staticTypes := #[]
  resolved := Array.replicate 21 none
  statics := none }

def pool3 : Array CpInfo := pool [(1, u "java/lang/Cloneable"), (0, .class_ 1), (0, u "java/lang/Object"), (0, .class_ 3)] 3

/-- java/lang/Cloneable -/
def k3 : Class := { plain "java/lang/Cloneable" (some 0) with
  accessFlags := 1537
  interfaces := #[]
  cf := some (fileOf pool3 2 #[] #[] 1537 4 #[] #[])
  fields := #[]
  methods := #[]
  instanceTypes := #[]
  staticTypes := #[]
  resolved := Array.replicate 8 none
  statics := none }

def pool4 : Array CpInfo := pool [(1, u "java/io/Serializable"), (0, .class_ 1), (0, u "java/lang/Object"), (0, .class_ 3)] 3

/-- java/io/Serializable -/
def k4 : Class := { plain "java/io/Serializable" (some 0) with
  accessFlags := 1537
  interfaces := #[]
  cf := some (fileOf pool4 2 #[] #[] 1537 4 #[] #[])
  fields := #[]
  methods := #[]
  instanceTypes := #[]
  staticTypes := #[]
  resolved := Array.replicate 8 none
  statics := none }

/-- the primitive byte -/
def k5 : Class := { plain "byte" none with kind := .primitive 'B', accessFlags := 0x411 }
/-- [B -/
def k6 : Class := { plain "[B" (some 0) with kind := .array 5 .byte, interfaces := #[3, 4], accessFlags := 1041 }

/-- the primitive int -/
def k7 : Class := { plain "int" none with kind := .primitive 'I', accessFlags := 0x411 }
/-- [I -/
def k8 : Class := { plain "[I" (some 0) with kind := .array 7 .int, interfaces := #[3, 4], accessFlags := 1041 }

def heap : Heap := #[]
def classes : Array Class := #[k0, k1, k2, k3, k4, k5, k6, k7, k8]
def interned : List (Array UInt16 × Addr) := []
def slotsUsed : Nat := 0
def theMethod : MethodId := ⟨1, 3⟩
def args0 : Array Value := #[.long 5, .int 5, .int 5]
def aboutOver (below : List Frame) : State where
  vm := { classes := classes, interned := interned.toArray }
  heap := heap
  slotsUsed := slotsUsed
  threads := #[{ frames := .invoking theMethod args0 :: below }]
def below0 : List Frame := [.native { method := ⟨0, 0⟩, args := #[] }]
def about1 : State := aboutOver below0
def p0 : Program := .bare "" "" ""
def e0 : Env := launch0.env 0 0 0
theorem w_frames : about1.frames = Frame.invoking theMethod args0 :: below0 := rfl
set_option maxRecDepth 65536 in
theorem w_args : argsFit about1.vm theMethod args0 = true := by decide +kernel
set_option maxRecDepth 65536 in
theorem w_heap : heapFits about1 = true := by decide +kernel
set_option maxRecDepth 65536 in
theorem w_runnable : about1.curStatus? = some .runnable := by decide +kernel
set_option maxRecDepth 65536 in
theorem w_alone : about1.alone = true := by decide +kernel
set_option maxRecDepth 65536 in
theorem w_named : about1.methodNamed? x = some theMethod := by decide +kernel
set_option maxRecDepth 65536 in
theorem w_hears : about1.hears theMethod below0 = true := by decide +kernel
set_option maxRecDepth 65536 in
theorem w_ripe : about1.ripe theMethod args0 below0 = true := by decide +kernel
theorem w_running : about1.status = .running := rfl
set_option maxRecDepth 65536 in
theorem w_room : about1.hasRoom e0.platform room_1 = true :=
  launch0.hasRoom_least _ room_1 (by decide +kernel) (by decide +kernel) (by decide +kernel) (by decide +kernel) (by decide +kernel) (by decide +kernel)
theorem allAtoms_all (ts : List Jvm.Cond) (a : Array Jvm.Value) (st : Jvm.State) : (allAtoms ts).before a st = ts.all (fun c => c.before a st) := by
  induction ts with
  | nil => rfl
  | cons c t ih =>
    show (Jvm.Cond.and c (allAtoms t)).before a st = _
    rw [Jvm.Cond.before_and, ih, List.all_cons]
def words1 : List Jvm.Cond := Jvm.Cond.code x code maxLocals ret :: tables_1
/-- a 'code' word, met by the world's own term for the bytes: nothing is compared byte by byte -/
theorem code_word {y : MethodName} {bytes : ByteArray} {mx : Nat} {rt : Option FieldType} {a : Array Value} {s : State} {m : MethodId} {meth : Method} {c : Code} (h1 : s.methodNamed? y = some m) (h2 : s.vm.method? m = some meth) (h3 : meth.code = some c) (h4 : c.code = bytes)
    (h5 : (c.maxLocals == mx && c.exceptionTable.isEmpty && decide (c.maxStack ≤ mostOperands) && decide (meth.sig.returnType = rt) && !meth.locks && decide (parseMethodDescriptor y.desc = some meth.sig)) = true) : (Jvm.Cond.code y bytes mx rt).before a s = true := by
  simp only [Bool.and_eq_true, beq_iff_eq, Bool.not_eq_true', decide_eq_true_eq] at h5
  obtain ⟨⟨⟨⟨⟨g1, g2⟩, g3⟩, g4⟩, g5⟩, g6⟩ := h5
  simp [Cond.before, Cond.holds, Cond.value, h1, h2, h3, h4, g1, g2, g3, g4, g5, g6]
def isCode : Jvm.Cond → Bool
  | .code _ _ _ _ => true
  | _ => false
theorem all_split {L : List Jvm.Cond} {P : Jvm.Cond → Bool} (h1 : L.all (fun c => isCode c || P c) = true) (h2 : ∀ c ∈ L.filter isCode, P c = true) : L.all P = true := by
  refine List.all_eq_true.mpr fun c hc => ?_
  have h := List.all_eq_true.mp h1 c hc
  rcases Bool.eq_false_or_eq_true (isCode c) with hi | hi
  · exact h2 c (List.mem_filter.mpr ⟨hc, hi⟩)
  · simpa [hi] using h
set_option maxRecDepth 65536 in
theorem w_c0 : (Jvm.Cond.code x code maxLocals ret).before args0 about1 = true := code_word (m := ⟨1, 3⟩) (meth := k1m3) (c := k1c3) (by decide +kernel) rfl rfl rfl (by decide +kernel)
set_option maxRecDepth 65536 in
theorem w_c1 : (Jvm.Cond.code ({ cls := "com/example/sealwax/sealwax/OctetSumOfPinLaw", name := "octet", desc := "(JI)I" } : Jvm.MethodName) method_2_code (3 : Nat) (Option.some Jvm.ClassFile.FieldType.int)).before args0 about1 = true := code_word (m := ⟨1, 1⟩) (meth := k1m1) (c := k1c1) (by decide +kernel) rfl rfl rfl (by decide +kernel)
set_option maxRecDepth 65536 in
theorem w_c2 : (Jvm.Cond.code ({ cls := "com/example/sealwax/sealwax/OctetSumOfPinLaw", name := "term", desc := "(JIII)I" } : Jvm.MethodName) method_3_code (5 : Nat) (Option.some Jvm.ClassFile.FieldType.int)).before args0 about1 = true := code_word (m := ⟨1, 2⟩) (meth := k1m2) (c := k1c2) (by decide +kernel) rfl rfl rfl (by decide +kernel)
set_option maxRecDepth 65536 in
theorem w_c3 : (Jvm.Cond.code ({ cls := "com/example/sealwax/sealwax/OctetSum", name := "of", desc := "([BII)I" } : Jvm.MethodName) prog_26_method_2_code (5 : Nat) (Option.some Jvm.ClassFile.FieldType.int)).before args0 about1 = true := code_word (m := ⟨2, 1⟩) (meth := k2m1) (c := k2c1) (by decide +kernel) rfl rfl rfl (by decide +kernel)
def codes1 : List Jvm.Cond := [Jvm.Cond.code x code maxLocals ret, Jvm.Cond.code ({ cls := "com/example/sealwax/sealwax/OctetSumOfPinLaw", name := "octet", desc := "(JI)I" } : Jvm.MethodName) method_2_code (3 : Nat) (Option.some Jvm.ClassFile.FieldType.int), Jvm.Cond.code ({ cls := "com/example/sealwax/sealwax/OctetSumOfPinLaw", name := "term", desc := "(JIII)I" } : Jvm.MethodName) method_3_code (5 : Nat) (Option.some Jvm.ClassFile.FieldType.int), Jvm.Cond.code ({ cls := "com/example/sealwax/sealwax/OctetSum", name := "of", desc := "([BII)I" } : Jvm.MethodName) prog_26_method_2_code (5 : Nat) (Option.some Jvm.ClassFile.FieldType.int)]
set_option maxRecDepth 65536 in
theorem codes_eq : words1.filter isCode = codes1 := rfl
theorem w_codes : ∀ c ∈ words1.filter isCode, c.before args0 about1 = true := by
  rw [codes_eq]
  intro c hc
  simp only [codes1, List.mem_cons, List.not_mem_nil, or_false] at hc
  rcases hc with rfl | rfl | rfl | rfl
  · exact w_c0
  · exact w_c1
  · exact w_c2
  · exact w_c3
set_option maxRecDepth 65536 in
theorem w_t1 : words1.all (fun c => isCode c || c.before args0 about1) = true := by decide +kernel
theorem w_tables : (allAtoms (Jvm.Cond.code x code maxLocals ret :: tables_1)).before args0 about1 = true := by
  rw [allAtoms_all]
  show words1.all (fun c => c.before args0 about1) = true
  refine all_split ?_ w_codes
  rw [w_t1]
set_option maxRecDepth 65536 in
theorem w_case : (Jvm.Cond.and given_1 narrow_1).before args0 about1 = true := by decide +kernel
theorem w_applies : (headSpec (Jvm.Cond.code x code maxLocals ret :: tables_1) room_1).applies x e0.platform about1 = true :=
  (Spec.applies_iff w_frames).mpr ⟨w_running, w_runnable, w_alone, w_named, w_hears, w_ripe, w_room, w_tables⟩
theorem atStart : AtStart classFile x code maxLocals ret World_1 tables_1 room_1 Calls_1 rest_1 Pre_1 launch0 p0 e0 about1 theMethod args0 below0 :=
  ⟨lists_1, trivial, launch0.admits_env _ _ _, launch0.least_env, fairChoices_fair.cas, fairChoices_fair.clock, w_frames, w_args, w_heap, w_applies, trivial, trivial, w_case⟩
end start1
theorem witness_1 : WitnessClaimed_1 := ⟨start1.p0, start1.e0, start1.about1, start1.theMethod, start1.args0, start1.below0, start1.atStart⟩
end Jvm.Pilot.@@N@@

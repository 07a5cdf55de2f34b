import JvmDerived
import JvmDerived.Pilot.@@N@@Statement
import JvmDerived.Pilot.@@N@@Code
set_option linter.unusedVariables false
set_option linter.unusedSimpArgs false
namespace Jvm.RoadKit
open Sem ClassFile Op Lib Jvm.Stand Jvm.Free Jvm.LawKit
section New
variable {p : Program} {l : Launch} {e : Env} {R : Room} {s : State} {m : MethodId} {args : Array Value} {below : List Frame} {meth : Method} {c : Code} {T : State} {locs : List Loc} {cells slots : Nat}
theorem retI (X : Stand p l e R s m args below meth c T locs cells slots) (hx : p.tables.exec = Jvm.exec) {pc : Nat} {Ls : Array Slot} {z : Int32} {rest : List Value} (hret : meth.sig.returnType = some .int) (hd : decode c.code pc = .ok (.ireturn, 1)) {fs : List Frame}
    (hl : ∀ (f : JFrame) (acts : List Action), f.method = m → f.locked = none → f.entered = [] → (doReturn e (T.setTop f) acts (some (.int z))).1 = T.setFrames fs) : Steps p.tables e below (T.setTop (mkF m pc Ls (.int z :: rest))) (T.setFrames fs) := by
  have hm' : T.vm.method? m = some meth := X.method'
  have hn : narrow .int (.int z) = .int z := rfl
  show Steps p.tables e below (T.setTop { method := m, pc := pc, locals := Ls, stack := _ :: rest, locked := none }) _
  jvm_step X.here [X.here.top, hx, hd, hm', hret, hn]
  first | (intro acts; rw [hl _ acts rfl rfl rfl]) | rw [hl _ _ rfl rfl rfl]
  exact Steps.refl _
end New
end Jvm.RoadKit
namespace Jvm.Pilot.@@N@@
open Jvm Jvm.ClassFile Sem Op Lib Jvm.Free Jvm.Stand Jvm.LawKit Jvm.RoadKit Bundle Jvm.Pilot.@@N@@.Jvm.D
theorem pn_0 : plainName "com/example/moothall/moothall/model/CountersNextPinLaw" = true := by first | (simp [plainName, overriddenIn]; done) | decide +kernel
theorem d1_0 : decode method_2_code 0 = .ok (.iload_n 0, 1) := by decide +kernel
theorem d1_1 : decode method_2_code 1 = .ok (.iconst 3, 1) := by decide +kernel
theorem d1_2 : decode method_2_code 2 = .ok (.iand, 1) := by decide +kernel
theorem d1_3 : decode method_2_code 3 = .ok (.istore_n 3, 1) := by decide +kernel
theorem d1_4 : decode method_2_code 4 = .ok (.lload_n 1, 1) := by decide +kernel
theorem d1_5 : decode method_2_code 5 = .ok (.ldc2_w 7, 3) := by decide +kernel
theorem d1_8 : decode method_2_code 8 = .ok (.land, 1) := by decide +kernel
theorem d1_9 : decode method_2_code 9 = .ok (.lstore 4, 2) := by decide +kernel
theorem d1_11 : decode method_2_code 11 = .ok (.iload_n 3, 1) := by decide +kernel
theorem d1_12 : decode method_2_code 12 = .ok (.ifCond .ne 5, 3) := by decide +kernel
theorem d1_15 : decode method_2_code 15 = .ok (.lload_n 1, 1) := by decide +kernel
theorem d1_16 : decode method_2_code 16 = .ok (.lreturn, 1) := by decide +kernel
theorem d1_17 : decode method_2_code 17 = .ok (.iload_n 3, 1) := by decide +kernel
theorem d1_18 : decode method_2_code 18 = .ok (.iconst 1, 1) := by decide +kernel
theorem d1_19 : decode method_2_code 19 = .ok (.if_icmp .ne 10, 3) := by decide +kernel
theorem d1_22 : decode method_2_code 22 = .ok (.ldc2_w 11, 3) := by decide +kernel
theorem d1_25 : decode method_2_code 25 = .ok (.lload 4, 2) := by decide +kernel
theorem d1_27 : decode method_2_code 27 = .ok (.lsub, 1) := by decide +kernel
theorem d1_28 : decode method_2_code 28 = .ok (.lreturn, 1) := by decide +kernel
theorem d1_29 : decode method_2_code 29 = .ok (.iload_n 3, 1) := by decide +kernel
theorem d1_30 : decode method_2_code 30 = .ok (.iconst 2, 1) := by decide +kernel
theorem d1_31 : decode method_2_code 31 = .ok (.if_icmp .ne 10, 3) := by decide +kernel
theorem d1_34 : decode method_2_code 34 = .ok (.ldc2_w 11, 3) := by decide +kernel
theorem d1_37 : decode method_2_code 37 = .ok (.lload 4, 2) := by decide +kernel
theorem d1_39 : decode method_2_code 39 = .ok (.ladd, 1) := by decide +kernel
theorem d1_40 : decode method_2_code 40 = .ok (.lreturn, 1) := by decide +kernel
theorem d1_41 : decode method_2_code 41 = .ok (.ldc2_w 15, 3) := by decide +kernel
theorem d1_44 : decode method_2_code 44 = .ok (.lload 4, 2) := by decide +kernel
theorem d1_46 : decode method_2_code 46 = .ok (.lsub, 1) := by decide +kernel
theorem d1_47 : decode method_2_code 47 = .ok (.lreturn, 1) := by decide +kernel
theorem ef_1 (m : MethodId) (x0 : Int32) (x1 : Int64) : entryFrame m #[(.int x0), (.long x1)] 6 = mkF m 0 #[.val (.int x0), .val (.long x1), .second, .unset, .unset, .unset] [] := by first | (simp [entryFrame, mkF, argsToLocals, Value.category]; done) | rfl
def f1 (p0 : Int32) (q1 : Int64) : Int64 := (if (p0 &&& (3 : Int32)) = (0 : Int32) then q1 else (if (p0 &&& (3 : Int32)) = (1 : Int32) then ((9223372032559808511 : Int64) - (q1 &&& (7 : Int64))) else (if (p0 &&& (3 : Int32)) = (2 : Int32) then ((9223372032559808511 : Int64) + (q1 &&& (7 : Int64))) else ((9223372036854775807 : Int64) - (q1 &&& (7 : Int64))))))
def Q1 (Z : State) (p0 : Int32) (q1 : Int64) (h0 : Heap) (n0 : Nat) (v : Option Value) (h : Heap) (L : List Loc) : Prop := v = some (.long (f1 p0 q1)) ∧ Fr n0 L ∧ h = h0
set_option maxRecDepth 65536 in
set_option maxHeartbeats 40000000 in
theorem rm1 (l : Launch) (Z : State) (a0 : Array Value) (hw : ∀ d ∈ tables_1, d.before a0 Z = true) (ws : List Jvm.Cond) (p0 : Int32) (q1 : Int64) (h0 : Heap) (n0 : Nat) (Z0 : n0 ≤ h0.size)  :
    MetFree l (⟨"com/example/moothall/moothall/model/CountersNextPinLaw", "pick", "(IJ)J"⟩ : MethodName) (head1 (Jvm.Cond.code (⟨"com/example/moothall/moothall/model/CountersNextPinLaw", "pick", "(IJ)J"⟩ : MethodName) method_2_code 6 (some .long) :: ws) ({ frames := 0, cells := 0, slots := 0, locals := 0 } : Room)) (fun a U => a = #[(.int p0), (.long q1)] ∧ Z.Warmed39 U.vm ∧ U.heap = h0) (fun _ _ _ _ _ => True) (fun _ U o U' => ∃ v L, o = .returned v ∧ Q1 Z p0 q1 h0 n0 v U'.heap L ∧ FrameEnd U o U' L ({ frames := 0, cells := 0, slots := 0, locals := 0 } : Room).cells ({ frames := 0, cells := 0, slots := 0, locals := 0 } : Room).slots) := by
  refine MetFree.of_bodySF (plainFor_of_name pn_0) hisR ?_
  intro p e s m args below meth c s₁ Bd hml0 hP hK
  obtain ⟨rfl, hZ, hh⟩ := hP
  have hx := Bd.exec
  have hby := Bd.bytes
  have hml : c.maxLocals = 6 := hml0
  have hown : s.vm.findClass "com/example/moothall/moothall/model/CountersNextPinLaw" = some m.cls := findClass_of_methodNamed Bd.named
  have hnm := (name_of_methodNamed Bd.named Bd.method).1
  have X0 : Stand p l e ({ frames := 0, cells := 0, slots := 0, locals := 0 } : Room) s m #[(.int p0), (.long q1)] below meth c s₁ [] 0 0 := Stand.of_body Bd
  have e0 : s₁.heap = h0 := by rw [← hh, Bd.state]; rfl
  have hlk : meth.locks = false := by first | exact BodyLoose.notSynchronized Bd | exact Body.notSynchronized Bd
  have N0 := Fr.nil n0
  have K0 := Keep.refl h0 []
  have pre0 : ∀ t, Steps p.tables e below (s₁.setTop (mkF m 0 #[.val (.int p0), .val (.long q1), .second, .unset, .unset, .unset] [])) t → Steps p.tables e below (s₁.setTop (entryFrame m #[(.int p0), (.long q1)] 6)) t := fun t k => castTop (ef_1 m p0 q1) k
  have pre1 : ∀ t, Steps p.tables e below (s₁.setTop (mkF m 12 #[.val (.int p0), .val (.long q1), .second, .val (.int (p0 &&& (3 : Int32))), .val (.long (q1 &&& (7 : Int64))), .second] [(.int (p0 &&& (3 : Int32)))])) t → Steps p.tables e below (s₁.setTop (entryFrame m #[(.int p0), (.long q1)] 6)) t := fun t kt => pre0 t (by
    show Steps p.tables e below (s₁.setTop (mkF m 0 #[.val (.int p0), .val (.long q1), .second, .unset, .unset, .unset] [])) _
    refine XS.iloadN X0.here hx rfl (hb hby d1_0) rfl ?_
    show Steps p.tables e below (s₁.setTop (mkF m 1 #[.val (.int p0), .val (.long q1), .second, .unset, .unset, .unset] [(.int p0)])) _
    refine XS.iconst X0.here hx rfl (hb hby d1_1) ?_
    show Steps p.tables e below (s₁.setTop (mkF m 2 #[.val (.int p0), .val (.long q1), .second, .unset, .unset, .unset] [(.int (3 : Int32)), (.int p0)])) _
    refine XS.iand X0.here hx rfl (hb hby d1_2) rfl ?_
    show Steps p.tables e below (s₁.setTop (mkF m 3 #[.val (.int p0), .val (.long q1), .second, .unset, .unset, .unset] [(.int (p0 &&& (3 : Int32)))])) _
    refine XS.istoreN X0.here hx rfl (hb hby d1_3) rfl (l' := #[.val (.int p0), .val (.long q1), .second, .val (.int (p0 &&& (3 : Int32))), .unset, .unset]) rfl ?_
    show Steps p.tables e below (s₁.setTop (mkF m 4 #[.val (.int p0), .val (.long q1), .second, .val (.int (p0 &&& (3 : Int32))), .unset, .unset] [])) _
    refine XS.lloadN X0.here hx rfl (hb hby d1_4) rfl ?_
    show Steps p.tables e below (s₁.setTop (mkF m 5 #[.val (.int p0), .val (.long q1), .second, .val (.int (p0 &&& (3 : Int32))), .unset, .unset] [(.long q1)])) _
    refine X0.ldc2Long hx hown (mvT hZ (hw _ (List.mem_of_getElem? (i := 4) rfl))) (g := (mkF m 5 #[.val (.int p0), .val (.long q1), .second, .val (.int (p0 &&& (3 : Int32))), .unset, .unset] [(.long q1)])) rfl (hb hby d1_5) _ ?_
    show Steps p.tables e below (s₁.setTop (mkF m 8 #[.val (.int p0), .val (.long q1), .second, .val (.int (p0 &&& (3 : Int32))), .unset, .unset] [(.long (7 : Int64)), (.long q1)])) _
    refine XS.land X0.here hx rfl (hb hby d1_8) rfl ?_
    show Steps p.tables e below (s₁.setTop (mkF m 9 #[.val (.int p0), .val (.long q1), .second, .val (.int (p0 &&& (3 : Int32))), .unset, .unset] [(.long (q1 &&& (7 : Int64)))])) _
    refine XS.lstore X0.here hx rfl (hb hby d1_9) rfl (l' := #[.val (.int p0), .val (.long q1), .second, .val (.int (p0 &&& (3 : Int32))), .val (.long (q1 &&& (7 : Int64))), .second]) rfl ?_
    show Steps p.tables e below (s₁.setTop (mkF m 11 #[.val (.int p0), .val (.long q1), .second, .val (.int (p0 &&& (3 : Int32))), .val (.long (q1 &&& (7 : Int64))), .second] [])) _
    refine XS.iloadN X0.here hx rfl (hb hby d1_11) rfl ?_
    exact kt)
  by_cases hc2 : (p0 &&& (3 : Int32)) = (0 : Int32)
  · obtain ⟨fs, hr, hrun, hended, hW, hsame⟩ := X0.leave (v := some (.long q1)) (fun h => by rw [Bd.returns] at h; cases h) hlk
    refine ⟨_, _, pre1 _ ?_, hrun, hended, _, _, rfl, ?_, ⟨_, rfl⟩, hW, hsame.mono (by decide) (by decide)⟩
    · show Steps p.tables e below (s₁.setTop (mkF m 12 #[.val (.int p0), .val (.long q1), .second, .val (.int (p0 &&& (3 : Int32))), .val (.long (q1 &&& (7 : Int64))), .second] [(.int (p0 &&& (3 : Int32)))])) _
      refine XS.ifNo X0.here hx rfl (hb hby d1_12) rfl ((if0 _ _).trans (teq hc2).2) ?_
      show Steps p.tables e below (s₁.setTop (mkF m 15 #[.val (.int p0), .val (.long q1), .second, .val (.int (p0 &&& (3 : Int32))), .val (.long (q1 &&& (7 : Int64))), .second] [])) _
      refine XS.lloadN X0.here hx rfl (hb hby d1_15) rfl ?_
      show Steps p.tables e below (s₁.setTop (mkF m 16 #[.val (.int p0), .val (.long q1), .second, .val (.int (p0 &&& (3 : Int32))), .val (.long (q1 &&& (7 : Int64))), .second] [(.long q1)])) _
      jvm_step X0.here [X0.here.top, hx, (hb hby d1_16), X0.method', Bd.returns, narrow]
      first | (intro acts; rw [hr _ acts rfl rfl rfl]) | rw [hr _ _ rfl rfl rfl]
      exact Steps.refl _
    · show Q1 Z p0 q1 h0 n0 _ s₁.heap _
      rw [e0]
      exact ⟨by rw [show f1 p0 q1 = q1 from by unfold f1; rw [if_pos hc2]], N0, rfl⟩
  · have pre3 : ∀ t, Steps p.tables e below (s₁.setTop (mkF m 19 #[.val (.int p0), .val (.long q1), .second, .val (.int (p0 &&& (3 : Int32))), .val (.long (q1 &&& (7 : Int64))), .second] [(.int (1 : Int32)), (.int (p0 &&& (3 : Int32)))])) t → Steps p.tables e below (s₁.setTop (entryFrame m #[(.int p0), (.long q1)] 6)) t := fun t kt => pre1 t (by
      show Steps p.tables e below (s₁.setTop (mkF m 12 #[.val (.int p0), .val (.long q1), .second, .val (.int (p0 &&& (3 : Int32))), .val (.long (q1 &&& (7 : Int64))), .second] [(.int (p0 &&& (3 : Int32)))])) _
      refine XS.ifYes X0.here hx rfl (pc0 := 12) (pc' := 17) rfl (hb hby d1_12) rfl ((if0 _ _).trans (feq hc2).2) (by decide) (by decide) ?_
      show Steps p.tables e below (s₁.setTop (mkF m 17 #[.val (.int p0), .val (.long q1), .second, .val (.int (p0 &&& (3 : Int32))), .val (.long (q1 &&& (7 : Int64))), .second] [])) _
      refine XS.iloadN X0.here hx rfl (hb hby d1_17) rfl ?_
      show Steps p.tables e below (s₁.setTop (mkF m 18 #[.val (.int p0), .val (.long q1), .second, .val (.int (p0 &&& (3 : Int32))), .val (.long (q1 &&& (7 : Int64))), .second] [(.int (p0 &&& (3 : Int32)))])) _
      refine XS.iconst X0.here hx rfl (hb hby d1_18) ?_
      exact kt)
    by_cases hc4 : (p0 &&& (3 : Int32)) = (1 : Int32)
    · obtain ⟨fs, hr, hrun, hended, hW, hsame⟩ := X0.leave (v := some (.long ((9223372032559808511 : Int64) - (q1 &&& (7 : Int64))))) (fun h => by rw [Bd.returns] at h; cases h) hlk
      refine ⟨_, _, pre3 _ ?_, hrun, hended, _, _, rfl, ?_, ⟨_, rfl⟩, hW, hsame.mono (by decide) (by decide)⟩
      · show Steps p.tables e below (s₁.setTop (mkF m 19 #[.val (.int p0), .val (.long q1), .second, .val (.int (p0 &&& (3 : Int32))), .val (.long (q1 &&& (7 : Int64))), .second] [(.int (1 : Int32)), (.int (p0 &&& (3 : Int32)))])) _
        refine XS.icmpNo X0.here hx rfl (hb hby d1_19) rfl (teq hc4).2 ?_
        show Steps p.tables e below (s₁.setTop (mkF m 22 #[.val (.int p0), .val (.long q1), .second, .val (.int (p0 &&& (3 : Int32))), .val (.long (q1 &&& (7 : Int64))), .second] [])) _
        refine X0.ldc2Long hx hown (mvT hZ (hw _ (List.mem_of_getElem? (i := 10) rfl))) (g := (mkF m 22 #[.val (.int p0), .val (.long q1), .second, .val (.int (p0 &&& (3 : Int32))), .val (.long (q1 &&& (7 : Int64))), .second] [])) rfl (hb hby d1_22) _ ?_
        show Steps p.tables e below (s₁.setTop (mkF m 25 #[.val (.int p0), .val (.long q1), .second, .val (.int (p0 &&& (3 : Int32))), .val (.long (q1 &&& (7 : Int64))), .second] [(.long (9223372032559808511 : Int64))])) _
        refine XS.lload X0.here hx rfl (hb hby d1_25) rfl ?_
        show Steps p.tables e below (s₁.setTop (mkF m 27 #[.val (.int p0), .val (.long q1), .second, .val (.int (p0 &&& (3 : Int32))), .val (.long (q1 &&& (7 : Int64))), .second] [(.long (q1 &&& (7 : Int64))), (.long (9223372032559808511 : Int64))])) _
        refine XS.lsub X0.here hx rfl (hb hby d1_27) rfl ?_
        show Steps p.tables e below (s₁.setTop (mkF m 28 #[.val (.int p0), .val (.long q1), .second, .val (.int (p0 &&& (3 : Int32))), .val (.long (q1 &&& (7 : Int64))), .second] [(.long ((9223372032559808511 : Int64) - (q1 &&& (7 : Int64))))])) _
        jvm_step X0.here [X0.here.top, hx, (hb hby d1_28), X0.method', Bd.returns, narrow]
        first | (intro acts; rw [hr _ acts rfl rfl rfl]) | rw [hr _ _ rfl rfl rfl]
        exact Steps.refl _
      · show Q1 Z p0 q1 h0 n0 _ s₁.heap _
        rw [e0]
        exact ⟨by rw [show f1 p0 q1 = ((9223372032559808511 : Int64) - (q1 &&& (7 : Int64))) from by unfold f1; rw [if_neg hc2, if_pos hc4]], N0, rfl⟩
    · have pre5 : ∀ t, Steps p.tables e below (s₁.setTop (mkF m 31 #[.val (.int p0), .val (.long q1), .second, .val (.int (p0 &&& (3 : Int32))), .val (.long (q1 &&& (7 : Int64))), .second] [(.int (2 : Int32)), (.int (p0 &&& (3 : Int32)))])) t → Steps p.tables e below (s₁.setTop (entryFrame m #[(.int p0), (.long q1)] 6)) t := fun t kt => pre3 t (by
        show Steps p.tables e below (s₁.setTop (mkF m 19 #[.val (.int p0), .val (.long q1), .second, .val (.int (p0 &&& (3 : Int32))), .val (.long (q1 &&& (7 : Int64))), .second] [(.int (1 : Int32)), (.int (p0 &&& (3 : Int32)))])) _
        refine XS.icmpYes X0.here hx rfl (pc0 := 19) (pc' := 29) rfl (hb hby d1_19) rfl (feq hc4).2 (by decide) (by decide) ?_
        show Steps p.tables e below (s₁.setTop (mkF m 29 #[.val (.int p0), .val (.long q1), .second, .val (.int (p0 &&& (3 : Int32))), .val (.long (q1 &&& (7 : Int64))), .second] [])) _
        refine XS.iloadN X0.here hx rfl (hb hby d1_29) rfl ?_
        show Steps p.tables e below (s₁.setTop (mkF m 30 #[.val (.int p0), .val (.long q1), .second, .val (.int (p0 &&& (3 : Int32))), .val (.long (q1 &&& (7 : Int64))), .second] [(.int (p0 &&& (3 : Int32)))])) _
        refine XS.iconst X0.here hx rfl (hb hby d1_30) ?_
        exact kt)
      by_cases hc6 : (p0 &&& (3 : Int32)) = (2 : Int32)
      · obtain ⟨fs, hr, hrun, hended, hW, hsame⟩ := X0.leave (v := some (.long ((9223372032559808511 : Int64) + (q1 &&& (7 : Int64))))) (fun h => by rw [Bd.returns] at h; cases h) hlk
        refine ⟨_, _, pre5 _ ?_, hrun, hended, _, _, rfl, ?_, ⟨_, rfl⟩, hW, hsame.mono (by decide) (by decide)⟩
        · show Steps p.tables e below (s₁.setTop (mkF m 31 #[.val (.int p0), .val (.long q1), .second, .val (.int (p0 &&& (3 : Int32))), .val (.long (q1 &&& (7 : Int64))), .second] [(.int (2 : Int32)), (.int (p0 &&& (3 : Int32)))])) _
          refine XS.icmpNo X0.here hx rfl (hb hby d1_31) rfl (teq hc6).2 ?_
          show Steps p.tables e below (s₁.setTop (mkF m 34 #[.val (.int p0), .val (.long q1), .second, .val (.int (p0 &&& (3 : Int32))), .val (.long (q1 &&& (7 : Int64))), .second] [])) _
          refine X0.ldc2Long hx hown (mvT hZ (hw _ (List.mem_of_getElem? (i := 10) rfl))) (g := (mkF m 34 #[.val (.int p0), .val (.long q1), .second, .val (.int (p0 &&& (3 : Int32))), .val (.long (q1 &&& (7 : Int64))), .second] [])) rfl (hb hby d1_34) _ ?_
          show Steps p.tables e below (s₁.setTop (mkF m 37 #[.val (.int p0), .val (.long q1), .second, .val (.int (p0 &&& (3 : Int32))), .val (.long (q1 &&& (7 : Int64))), .second] [(.long (9223372032559808511 : Int64))])) _
          refine XS.lload X0.here hx rfl (hb hby d1_37) rfl ?_
          show Steps p.tables e below (s₁.setTop (mkF m 39 #[.val (.int p0), .val (.long q1), .second, .val (.int (p0 &&& (3 : Int32))), .val (.long (q1 &&& (7 : Int64))), .second] [(.long (q1 &&& (7 : Int64))), (.long (9223372032559808511 : Int64))])) _
          refine XS.ladd X0.here hx rfl (hb hby d1_39) rfl ?_
          show Steps p.tables e below (s₁.setTop (mkF m 40 #[.val (.int p0), .val (.long q1), .second, .val (.int (p0 &&& (3 : Int32))), .val (.long (q1 &&& (7 : Int64))), .second] [(.long ((9223372032559808511 : Int64) + (q1 &&& (7 : Int64))))])) _
          jvm_step X0.here [X0.here.top, hx, (hb hby d1_40), X0.method', Bd.returns, narrow]
          first | (intro acts; rw [hr _ acts rfl rfl rfl]) | rw [hr _ _ rfl rfl rfl]
          exact Steps.refl _
        · show Q1 Z p0 q1 h0 n0 _ s₁.heap _
          rw [e0]
          exact ⟨by rw [show f1 p0 q1 = ((9223372032559808511 : Int64) + (q1 &&& (7 : Int64))) from by unfold f1; rw [if_neg hc2, if_neg hc4, if_pos hc6]], N0, rfl⟩
      · obtain ⟨fs, hr, hrun, hended, hW, hsame⟩ := X0.leave (v := some (.long ((9223372036854775807 : Int64) - (q1 &&& (7 : Int64))))) (fun h => by rw [Bd.returns] at h; cases h) hlk
        refine ⟨_, _, pre5 _ ?_, hrun, hended, _, _, rfl, ?_, ⟨_, rfl⟩, hW, hsame.mono (by decide) (by decide)⟩
        · show Steps p.tables e below (s₁.setTop (mkF m 31 #[.val (.int p0), .val (.long q1), .second, .val (.int (p0 &&& (3 : Int32))), .val (.long (q1 &&& (7 : Int64))), .second] [(.int (2 : Int32)), (.int (p0 &&& (3 : Int32)))])) _
          refine XS.icmpYes X0.here hx rfl (pc0 := 31) (pc' := 41) rfl (hb hby d1_31) rfl (feq hc6).2 (by decide) (by decide) ?_
          show Steps p.tables e below (s₁.setTop (mkF m 41 #[.val (.int p0), .val (.long q1), .second, .val (.int (p0 &&& (3 : Int32))), .val (.long (q1 &&& (7 : Int64))), .second] [])) _
          refine X0.ldc2Long hx hown (mvT hZ (hw _ (List.mem_of_getElem? (i := 11) rfl))) (g := (mkF m 41 #[.val (.int p0), .val (.long q1), .second, .val (.int (p0 &&& (3 : Int32))), .val (.long (q1 &&& (7 : Int64))), .second] [])) rfl (hb hby d1_41) _ ?_
          show Steps p.tables e below (s₁.setTop (mkF m 44 #[.val (.int p0), .val (.long q1), .second, .val (.int (p0 &&& (3 : Int32))), .val (.long (q1 &&& (7 : Int64))), .second] [(.long (9223372036854775807 : Int64))])) _
          refine XS.lload X0.here hx rfl (hb hby d1_44) rfl ?_
          show Steps p.tables e below (s₁.setTop (mkF m 46 #[.val (.int p0), .val (.long q1), .second, .val (.int (p0 &&& (3 : Int32))), .val (.long (q1 &&& (7 : Int64))), .second] [(.long (q1 &&& (7 : Int64))), (.long (9223372036854775807 : Int64))])) _
          refine XS.lsub X0.here hx rfl (hb hby d1_46) rfl ?_
          show Steps p.tables e below (s₁.setTop (mkF m 47 #[.val (.int p0), .val (.long q1), .second, .val (.int (p0 &&& (3 : Int32))), .val (.long (q1 &&& (7 : Int64))), .second] [(.long ((9223372036854775807 : Int64) - (q1 &&& (7 : Int64))))])) _
          jvm_step X0.here [X0.here.top, hx, (hb hby d1_47), X0.method', Bd.returns, narrow]
          first | (intro acts; rw [hr _ acts rfl rfl rfl]) | rw [hr _ _ rfl rfl rfl]
          exact Steps.refl _
        · show Q1 Z p0 q1 h0 n0 _ s₁.heap _
          rw [e0]
          exact ⟨by rw [show f1 p0 q1 = ((9223372036854775807 : Int64) - (q1 &&& (7 : Int64))) from by unfold f1; rw [if_neg hc2, if_neg hc4, if_neg hc6]], N0, rfl⟩
theorem pn_1 : plainName "com/example/moothall/moothall/model/Counters" = true := by first | (simp [plainName, overriddenIn]; done) | decide +kernel
theorem d2_0 : decode prog_24_method_5_code 0 = .ok (.lload_n 0, 1) := by decide +kernel
theorem d2_1 : decode prog_24_method_5_code 1 = .ok (.ldc2_w 15, 3) := by decide +kernel
theorem d2_4 : decode prog_24_method_5_code 4 = .ok (.lcmp, 1) := by decide +kernel
theorem d2_5 : decode prog_24_method_5_code 5 = .ok (.ifCond .ge 9, 3) := by decide +kernel
theorem d2_8 : decode prog_24_method_5_code 8 = .ok (.lload_n 0, 1) := by decide +kernel
theorem d2_9 : decode prog_24_method_5_code 9 = .ok (.lconst 1, 1) := by decide +kernel
theorem d2_10 : decode prog_24_method_5_code 10 = .ok (.ladd, 1) := by decide +kernel
theorem d2_11 : decode prog_24_method_5_code 11 = .ok (.goto 4, 3) := by decide +kernel
theorem d2_14 : decode prog_24_method_5_code 14 = .ok (.lload_n 0, 1) := by decide +kernel
theorem d2_15 : decode prog_24_method_5_code 15 = .ok (.lreturn, 1) := by decide +kernel
theorem ef_2 (m : MethodId) (x0 : Int64) : entryFrame m #[(.long x0)] 2 = mkF m 0 #[.val (.long x0), .second] [] := by first | (simp [entryFrame, mkF, argsToLocals, Value.category]; done) | rfl
def f2 (q0 : Int64) : Int64 := (if (lcmpW q0 (9223372032559808511 : Int64)) < (0 : Int32) then (q0 + (1 : Int64)) else q0)
def Q2 (Z : State) (q0 : Int64) (h0 : Heap) (n0 : Nat) (v : Option Value) (h : Heap) (L : List Loc) : Prop := v = some (.long (f2 q0)) ∧ Fr n0 L ∧ h = h0
set_option maxRecDepth 65536 in
set_option maxHeartbeats 40000000 in
theorem rm2 (l : Launch) (Z : State) (a0 : Array Value) (hw : ∀ d ∈ tables_1, d.before a0 Z = true) (ws : List Jvm.Cond) (q0 : Int64) (h0 : Heap) (n0 : Nat) (Z0 : n0 ≤ h0.size)  :
    MetFree l (⟨"com/example/moothall/moothall/model/Counters", "next", "(J)J"⟩ : MethodName) (head1 (Jvm.Cond.code (⟨"com/example/moothall/moothall/model/Counters", "next", "(J)J"⟩ : MethodName) prog_24_method_5_code 2 (some .long) :: ws) ({ frames := 0, cells := 0, slots := 0, locals := 0 } : Room)) (fun a U => a = #[(.long q0)] ∧ Z.Warmed39 U.vm ∧ U.heap = h0) (fun _ _ _ _ _ => True) (fun _ U o U' => ∃ v L, o = .returned v ∧ Q2 Z q0 h0 n0 v U'.heap L ∧ FrameEnd U o U' L ({ frames := 0, cells := 0, slots := 0, locals := 0 } : Room).cells ({ frames := 0, cells := 0, slots := 0, locals := 0 } : Room).slots) := by
  refine MetFree.of_bodySF (plainFor_of_name pn_1) hisR ?_
  intro p e s m args below meth c s₁ Bd hml0 hP hK
  obtain ⟨rfl, hZ, hh⟩ := hP
  have hx := Bd.exec
  have hby := Bd.bytes
  have hml : c.maxLocals = 2 := hml0
  have hown : s.vm.findClass "com/example/moothall/moothall/model/Counters" = some m.cls := findClass_of_methodNamed Bd.named
  have hnm := (name_of_methodNamed Bd.named Bd.method).1
  have X0 : Stand p l e ({ frames := 0, cells := 0, slots := 0, locals := 0 } : Room) s m #[(.long q0)] below meth c s₁ [] 0 0 := Stand.of_body Bd
  have e0 : s₁.heap = h0 := by rw [← hh, Bd.state]; rfl
  have hlk : meth.locks = false := by first | exact BodyLoose.notSynchronized Bd | exact Body.notSynchronized Bd
  have N0 := Fr.nil n0
  have K0 := Keep.refl h0 []
  have pre0 : ∀ t, Steps p.tables e below (s₁.setTop (mkF m 0 #[.val (.long q0), .second] [])) t → Steps p.tables e below (s₁.setTop (entryFrame m #[(.long q0)] 2)) t := fun t k => castTop (ef_2 m q0) k
  have pre1 : ∀ t, Steps p.tables e below (s₁.setTop (mkF m 5 #[.val (.long q0), .second] [(.int (lcmpW q0 (9223372032559808511 : Int64)))])) t → Steps p.tables e below (s₁.setTop (entryFrame m #[(.long q0)] 2)) t := fun t kt => pre0 t (by
    show Steps p.tables e below (s₁.setTop (mkF m 0 #[.val (.long q0), .second] [])) _
    refine XS.lloadN X0.here hx rfl (hb hby d2_0) rfl ?_
    show Steps p.tables e below (s₁.setTop (mkF m 1 #[.val (.long q0), .second] [(.long q0)])) _
    refine X0.ldc2Long hx hown (mvT hZ (hw _ (List.mem_of_getElem? (i := 9) rfl))) (g := (mkF m 1 #[.val (.long q0), .second] [(.long q0)])) rfl (hb hby d2_1) _ ?_
    show Steps p.tables e below (s₁.setTop (mkF m 4 #[.val (.long q0), .second] [(.long (9223372032559808511 : Int64)), (.long q0)])) _
    refine XS.lcmp X0.here hx rfl (hb hby d2_4) rfl ?_
    exact kt)
  by_cases hc2 : (lcmpW q0 (9223372032559808511 : Int64)) < (0 : Int32)
  · obtain ⟨fs, hr, hrun, hended, hW, hsame⟩ := X0.leave (v := some (.long (q0 + (1 : Int64)))) (fun h => by rw [Bd.returns] at h; cases h) hlk
    refine ⟨_, _, pre1 _ ?_, hrun, hended, _, _, rfl, ?_, ⟨_, rfl⟩, hW, hsame.mono (by decide) (by decide)⟩
    · show Steps p.tables e below (s₁.setTop (mkF m 5 #[.val (.long q0), .second] [(.int (lcmpW q0 (9223372032559808511 : Int64)))])) _
      refine XS.ifNo X0.here hx rfl (hb hby d2_5) rfl ((if0 _ _).trans (tlt hc2).2.1) ?_
      show Steps p.tables e below (s₁.setTop (mkF m 8 #[.val (.long q0), .second] [])) _
      refine XS.lloadN X0.here hx rfl (hb hby d2_8) rfl ?_
      show Steps p.tables e below (s₁.setTop (mkF m 9 #[.val (.long q0), .second] [(.long q0)])) _
      refine XS.lconst X0.here hx rfl (hb hby d2_9) ?_
      show Steps p.tables e below (s₁.setTop (mkF m 10 #[.val (.long q0), .second] [(.long (1 : Int64)), (.long q0)])) _
      refine XS.ladd X0.here hx rfl (hb hby d2_10) rfl ?_
      show Steps p.tables e below (s₁.setTop (mkF m 11 #[.val (.long q0), .second] [(.long (q0 + (1 : Int64)))])) _
      refine XS.goto X0.here hx rfl (pc0 := 11) (pc' := 15) rfl (hb hby d2_11) (by decide) (by decide) ?_
      show Steps p.tables e below (s₁.setTop (mkF m 15 #[.val (.long q0), .second] [(.long (q0 + (1 : Int64)))])) _
      jvm_step X0.here [X0.here.top, hx, (hb hby d2_15), X0.method', Bd.returns, narrow]
      first | (intro acts; rw [hr _ acts rfl rfl rfl]) | rw [hr _ _ rfl rfl rfl]
      exact Steps.refl _
    · show Q2 Z q0 h0 n0 _ s₁.heap _
      rw [e0]
      exact ⟨by rw [show f2 q0 = (q0 + (1 : Int64)) from by unfold f2; rw [if_pos hc2]], N0, rfl⟩
  · obtain ⟨fs, hr, hrun, hended, hW, hsame⟩ := X0.leave (v := some (.long q0)) (fun h => by rw [Bd.returns] at h; cases h) hlk
    refine ⟨_, _, pre1 _ ?_, hrun, hended, _, _, rfl, ?_, ⟨_, rfl⟩, hW, hsame.mono (by decide) (by decide)⟩
    · show Steps p.tables e below (s₁.setTop (mkF m 5 #[.val (.long q0), .second] [(.int (lcmpW q0 (9223372032559808511 : Int64)))])) _
      refine XS.ifYes X0.here hx rfl (pc0 := 5) (pc' := 14) rfl (hb hby d2_5) rfl ((if0 _ _).trans (flt hc2).2.1) (by decide) (by decide) ?_
      show Steps p.tables e below (s₁.setTop (mkF m 14 #[.val (.long q0), .second] [])) _
      refine XS.lloadN X0.here hx rfl (hb hby d2_14) rfl ?_
      show Steps p.tables e below (s₁.setTop (mkF m 15 #[.val (.long q0), .second] [(.long q0)])) _
      jvm_step X0.here [X0.here.top, hx, (hb hby d2_15), X0.method', Bd.returns, narrow]
      first | (intro acts; rw [hr _ acts rfl rfl rfl]) | rw [hr _ _ rfl rfl rfl]
      exact Steps.refl _
    · show Q2 Z q0 h0 n0 _ s₁.heap _
      rw [e0]
      exact ⟨by rw [show f2 q0 = q0 from by unfold f2; rw [if_neg hc2]], N0, rfl⟩
theorem pd_0 : parseMethodDescriptor "(IJ)J" = some ⟨[.int, .long], some .long⟩ := by decide +kernel
theorem pd_1 : parseMethodDescriptor "(J)J" = some ⟨[.long], some .long⟩ := by decide +kernel
theorem ef_0 (m : MethodId) (x0 : Int32) (x1 : Int64) : entryFrame m #[(.int x0), (.long x1)] maxLocals = mkF m 0 #[.val (.int x0), .val (.long x1), .second, .unset, .unset, .unset, .unset, .unset, .unset, .unset] [] := by first | (simp [entryFrame, mkF, argsToLocals, Value.category, maxLocals]; done) | rfl
def f0_s0_24001 (p0 : Int32) (q1 : Int64) : Int32 := (if (lcmpW (f2 (f1 p0 q1)) (f1 p0 q1)) < (0 : Int32) then (0 : Int32) else (1 : Int32))
def f0_s0_47002 (p0 : Int32) (q1 : Int64) : Int32 := (if (lcmpW (f2 (f1 p0 q1)) (f1 p0 q1)) = (0 : Int32) then (1 : Int32) else (if (lcmpW ((f2 (f1 p0 q1)) - (1 : Int64)) (f1 p0 q1)) = (0 : Int32) then (1 : Int32) else (0 : Int32)))
def f0_s0_61003 (p0 : Int32) (q1 : Int64) : Int32 := (if (lcmpW (f2 (f1 p0 q1)) (f1 p0 q1)) = (0 : Int32) then (0 : Int32) else (1 : Int32))
def f0_s0_74004 (p0 : Int32) (q1 : Int64) : Int32 := (if (lcmpW (f1 p0 q1) (9223372032559808511 : Int64)) < (0 : Int32) then (1 : Int32) else (0 : Int32))
def f0_s0_82005 (p0 : Int32) (q1 : Int64) : Int32 := (if (f0_s0_61003 p0 q1) = (f0_s0_74004 p0 q1) then (1 : Int32) else (0 : Int32))
def f0 (p0 : Int32) (q1 : Int64) : Int32 := (if (f0_s0_24001 p0 q1) = (0 : Int32) then (0 : Int32) else (if (f0_s0_47002 p0 q1) = (0 : Int32) then (0 : Int32) else (if (f0_s0_82005 p0 q1) = (0 : Int32) then (0 : Int32) else (1 : Int32))))
def Q0 (Z : State) (p0 : Int32) (q1 : Int64) (h0 : Heap) (n0 : Nat) (v : Option Value) (h : Heap) (L : List Loc) : Prop := v = some (.int (f0 p0 q1)) ∧ Fr n0 L
set_option maxRecDepth 65536 in
set_option maxHeartbeats 40000000 in
theorem rm0 (l : Launch) (Z : State) (a0 : Array Value) (hw : ∀ d ∈ tables_1, d.before a0 Z = true) (ws : List Jvm.Cond) (p0 : Int32) (q1 : Int64) (h0 : Heap) (n0 : Nat) (Z0 : n0 ≤ h0.size)  :
    MetFree l x (head1 (Jvm.Cond.code x code maxLocals ret :: ws) room_1) (fun a U => a = #[(.int p0), (.long q1)] ∧ Z.Warmed39 U.vm ∧ U.heap = h0) (fun _ _ _ _ _ => True) (fun _ U o U' => ∃ v L, o = .returned v ∧ Q0 Z p0 q1 h0 n0 v U'.heap L ∧ FrameEnd U o U' L room_1.cells room_1.slots) := by
  refine MetFree.of_bodySF (plainFor_of_name pn_0) hisR ?_
  intro p e s m args below meth c s₁ Bd hml0 hP hK
  obtain ⟨rfl, hZ, hh⟩ := hP
  have hx := Bd.exec
  have hby := Bd.bytes
  have hml : c.maxLocals = 10 := hml0
  have hown : s.vm.findClass "com/example/moothall/moothall/model/CountersNextPinLaw" = some m.cls := findClass_of_methodNamed Bd.named
  have hnm := (name_of_methodNamed Bd.named Bd.method).1
  have X0 : Stand p l e room_1 s m #[(.int p0), (.long q1)] below meth c s₁ [] 0 0 := Stand.of_body Bd
  have e0 : s₁.heap = h0 := by rw [← hh, Bd.state]; rfl
  have hlk : meth.locks = false := by first | exact BodyLoose.notSynchronized Bd | exact Body.notSynchronized Bd
  have N0 := Fr.nil n0
  have K0 := Keep.refl h0 []
  have pre0 : ∀ t, Steps p.tables e below (s₁.setTop (mkF m 0 #[.val (.int p0), .val (.long q1), .second, .unset, .unset, .unset, .unset, .unset, .unset, .unset] [])) t → Steps p.tables e below (s₁.setTop (entryFrame m #[(.int p0), (.long q1)] maxLocals)) t := fun t k => castTop (ef_0 m p0 q1) k
  obtain ⟨_, _, ⟨T1, L1, k1, n1⟩, -, X1, ⟨Lc1, hQ1, l1, y1, z1⟩, st1⟩ := Jvm.LawKit.callS X0 hx (y := (⟨"com/example/moothall/moothall/model/CountersNextPinLaw", "pick", "(IJ)J"⟩ : MethodName)) hown (mvT hZ (hw _ (List.mem_of_getElem? (i := 0) rfl))) (mvT hZ (hw _ (List.mem_of_getElem? (i := 1) rfl))) (mvT hZ (hw _ (List.mem_of_getElem? (i := 2) rfl))) (mvT hZ (hw _ (List.mem_of_getElem? (i := 3) rfl))) (by decide) (backOf (W := 0) (rm1 l Z a0 hw [] p0 q1 h0 n0 Z0) hZ (hw _ (List.mem_of_getElem? (i := 3) rfl)) (hw _ (List.mem_of_getElem? (i := 2) rfl)) (by decide) (by decide)) (g := (mkF m 2 #[.val (.int p0), .val (.long q1), .second, .unset, .unset, .unset, .unset, .unset, .unset, .unset] [(.long q1), (.int p0)])) rfl (by rw [hml]; rfl) (argsL := [(.int p0), (.long q1)]) (rest := []) (lenOf pd_0 rfl) rfl (by show 2 * 0 + _ ≤ _; exact Nat.le_of_eq rfl) (hb hby at_2) (fun _ _ => ⟨rfl, e0, (by decide : 0 + 0 ≤ _), (by decide : 0 + 0 ≤ _)⟩)
  dsimp only [Pt.U, Pt.locs, Pt.cells, Pt.slots] at X1 l1 y1 z1 st1 hQ1
  subst l1 y1 z1
  obtain ⟨rfl, N1q, e1⟩ := hQ1
  have N1 := Fr.app N0 N1q
  obtain ⟨_, _, ⟨T2, L2, k2, n2⟩, -, X2, ⟨Lc2, hQ2, l2, y2, z2⟩, st2⟩ := Jvm.LawKit.callS X1 hx (y := (⟨"com/example/moothall/moothall/model/Counters", "next", "(J)J"⟩ : MethodName)) hown (mvT hZ (hw _ (List.mem_of_getElem? (i := 5) rfl))) (mvT hZ (hw _ (List.mem_of_getElem? (i := 6) rfl))) (mvT hZ (hw _ (List.mem_of_getElem? (i := 7) rfl))) (mvT hZ (hw _ (List.mem_of_getElem? (i := 8) rfl))) (by decide) (backOf (W := 0) (rm2 l Z a0 hw [] (f1 p0 q1) h0 n0 Z0) hZ (hw _ (List.mem_of_getElem? (i := 8) rfl)) (hw _ (List.mem_of_getElem? (i := 7) rfl)) (by decide) (by decide)) (g := (mkF m 7 #[.val (.int p0), .val (.long q1), .second, .val (.long (f1 p0 q1)), .second, .unset, .unset, .unset, .unset, .unset] [(.long (f1 p0 q1))])) rfl (by rw [hml]; rfl) (argsL := [(.long (f1 p0 q1))]) (rest := []) (lenOf pd_1 rfl) rfl (by show 2 * 0 + _ ≤ _; exact Nat.le_of_eq rfl) (hb hby at_7) (fun _ _ => ⟨rfl, e1, (by decide : 0 + 0 ≤ _), (by decide : 0 + 0 ≤ _)⟩)
  dsimp only [Pt.U, Pt.locs, Pt.cells, Pt.slots] at X2 l2 y2 z2 st2 hQ2
  subst l2 y2 z2
  obtain ⟨rfl, N2q, e2⟩ := hQ2
  have N2 := Fr.app N1 N2q
  have pre3 : ∀ t, Steps p.tables e below (T2.setTop (mkF m 16 #[.val (.int p0), .val (.long q1), .second, .val (.long (f1 p0 q1)), .second, .val (.long (f2 (f1 p0 q1))), .second, .unset, .unset, .unset] [(.int (lcmpW (f2 (f1 p0 q1)) (f1 p0 q1)))])) t → Steps p.tables e below (s₁.setTop (entryFrame m #[(.int p0), (.long q1)] maxLocals)) t := fun t kt => pre0 t (by
    show Steps p.tables e below (s₁.setTop (mkF m 0 #[.val (.int p0), .val (.long q1), .second, .unset, .unset, .unset, .unset, .unset, .unset, .unset] [])) _
    refine XS.iloadN X0.here hx rfl (hb hby at_0) rfl ?_
    show Steps p.tables e below (s₁.setTop (mkF m 1 #[.val (.int p0), .val (.long q1), .second, .unset, .unset, .unset, .unset, .unset, .unset, .unset] [(.int p0)])) _
    refine XS.lloadN X0.here hx rfl (hb hby at_1) rfl ?_
    show Steps p.tables e below (s₁.setTop (mkF m 2 #[.val (.int p0), .val (.long q1), .second, .unset, .unset, .unset, .unset, .unset, .unset, .unset] [(.long q1), (.int p0)])) _
    refine st1 _ ?_
    show Steps p.tables e below (T1.setTop (mkF m 5 #[.val (.int p0), .val (.long q1), .second, .unset, .unset, .unset, .unset, .unset, .unset, .unset] [(.long (f1 p0 q1))])) _
    refine XS.lstoreN X1.here hx rfl (hb hby at_5) rfl (l' := #[.val (.int p0), .val (.long q1), .second, .val (.long (f1 p0 q1)), .second, .unset, .unset, .unset, .unset, .unset]) rfl ?_
    show Steps p.tables e below (T1.setTop (mkF m 6 #[.val (.int p0), .val (.long q1), .second, .val (.long (f1 p0 q1)), .second, .unset, .unset, .unset, .unset, .unset] [])) _
    refine XS.lloadN X1.here hx rfl (hb hby at_6) rfl ?_
    show Steps p.tables e below (T1.setTop (mkF m 7 #[.val (.int p0), .val (.long q1), .second, .val (.long (f1 p0 q1)), .second, .unset, .unset, .unset, .unset, .unset] [(.long (f1 p0 q1))])) _
    refine st2 _ ?_
    show Steps p.tables e below (T2.setTop (mkF m 10 #[.val (.int p0), .val (.long q1), .second, .val (.long (f1 p0 q1)), .second, .unset, .unset, .unset, .unset, .unset] [(.long (f2 (f1 p0 q1)))])) _
    refine XS.lstore X2.here hx rfl (hb hby at_10) rfl (l' := #[.val (.int p0), .val (.long q1), .second, .val (.long (f1 p0 q1)), .second, .val (.long (f2 (f1 p0 q1))), .second, .unset, .unset, .unset]) rfl ?_
    show Steps p.tables e below (T2.setTop (mkF m 12 #[.val (.int p0), .val (.long q1), .second, .val (.long (f1 p0 q1)), .second, .val (.long (f2 (f1 p0 q1))), .second, .unset, .unset, .unset] [])) _
    refine XS.lload X2.here hx rfl (hb hby at_12) rfl ?_
    show Steps p.tables e below (T2.setTop (mkF m 14 #[.val (.int p0), .val (.long q1), .second, .val (.long (f1 p0 q1)), .second, .val (.long (f2 (f1 p0 q1))), .second, .unset, .unset, .unset] [(.long (f2 (f1 p0 q1)))])) _
    refine XS.lloadN X2.here hx rfl (hb hby at_14) rfl ?_
    show Steps p.tables e below (T2.setTop (mkF m 15 #[.val (.int p0), .val (.long q1), .second, .val (.long (f1 p0 q1)), .second, .val (.long (f2 (f1 p0 q1))), .second, .unset, .unset, .unset] [(.long (f1 p0 q1)), (.long (f2 (f1 p0 q1)))])) _
    refine XS.lcmp X2.here hx rfl (hb hby at_15) rfl ?_
    exact kt)
  have pre5 : ∀ t, Steps p.tables e below (T2.setTop (mkF m 24 #[.val (.int p0), .val (.long q1), .second, .val (.long (f1 p0 q1)), .second, .val (.long (f2 (f1 p0 q1))), .second, .unset, .unset, .unset] [(.int (f0_s0_24001 p0 q1))])) t → Steps p.tables e below (s₁.setTop (entryFrame m #[(.int p0), (.long q1)] maxLocals)) t := by
    intro t kt
    by_cases hc4 : (lcmpW (f2 (f1 p0 q1)) (f1 p0 q1)) < (0 : Int32)
    · have hj : (f0_s0_24001 p0 q1) = (0 : Int32) := by unfold f0_s0_24001; rw [if_pos hc4]
      rw [hj] at kt
      refine pre3 t ?_
      show Steps p.tables e below (T2.setTop (mkF m 16 #[.val (.int p0), .val (.long q1), .second, .val (.long (f1 p0 q1)), .second, .val (.long (f2 (f1 p0 q1))), .second, .unset, .unset, .unset] [(.int (lcmpW (f2 (f1 p0 q1)) (f1 p0 q1)))])) _
      refine XS.ifYes X2.here hx rfl (pc0 := 16) (pc' := 23) rfl (hb hby at_16) rfl ((if0 _ _).trans (tlt hc4).1) (by decide) (by decide) ?_
      show Steps p.tables e below (T2.setTop (mkF m 23 #[.val (.int p0), .val (.long q1), .second, .val (.long (f1 p0 q1)), .second, .val (.long (f2 (f1 p0 q1))), .second, .unset, .unset, .unset] [])) _
      refine XS.iconst X2.here hx rfl (hb hby at_23) ?_
      exact kt
    · have hj : (f0_s0_24001 p0 q1) = (1 : Int32) := by unfold f0_s0_24001; rw [if_neg hc4]
      rw [hj] at kt
      refine pre3 t ?_
      show Steps p.tables e below (T2.setTop (mkF m 16 #[.val (.int p0), .val (.long q1), .second, .val (.long (f1 p0 q1)), .second, .val (.long (f2 (f1 p0 q1))), .second, .unset, .unset, .unset] [(.int (lcmpW (f2 (f1 p0 q1)) (f1 p0 q1)))])) _
      refine XS.ifNo X2.here hx rfl (hb hby at_16) rfl ((if0 _ _).trans (flt hc4).1) ?_
      show Steps p.tables e below (T2.setTop (mkF m 19 #[.val (.int p0), .val (.long q1), .second, .val (.long (f1 p0 q1)), .second, .val (.long (f2 (f1 p0 q1))), .second, .unset, .unset, .unset] [])) _
      refine XS.iconst X2.here hx rfl (hb hby at_19) ?_
      show Steps p.tables e below (T2.setTop (mkF m 20 #[.val (.int p0), .val (.long q1), .second, .val (.long (f1 p0 q1)), .second, .val (.long (f2 (f1 p0 q1))), .second, .unset, .unset, .unset] [(.int (1 : Int32))])) _
      refine XS.goto X2.here hx rfl (pc0 := 20) (pc' := 24) rfl (hb hby at_20) (by decide) (by decide) ?_
      exact kt
  have pre6 : ∀ t, Steps p.tables e below (T2.setTop (mkF m 30 #[.val (.int p0), .val (.long q1), .second, .val (.long (f1 p0 q1)), .second, .val (.long (f2 (f1 p0 q1))), .second, .val (.int (f0_s0_24001 p0 q1)), .unset, .unset] [(.int (lcmpW (f2 (f1 p0 q1)) (f1 p0 q1)))])) t → Steps p.tables e below (s₁.setTop (entryFrame m #[(.int p0), (.long q1)] maxLocals)) t := fun t kt => pre5 t (by
    show Steps p.tables e below (T2.setTop (mkF m 24 #[.val (.int p0), .val (.long q1), .second, .val (.long (f1 p0 q1)), .second, .val (.long (f2 (f1 p0 q1))), .second, .unset, .unset, .unset] [(.int (f0_s0_24001 p0 q1))])) _
    refine XS.istore X2.here hx rfl (hb hby at_24) rfl (l' := #[.val (.int p0), .val (.long q1), .second, .val (.long (f1 p0 q1)), .second, .val (.long (f2 (f1 p0 q1))), .second, .val (.int (f0_s0_24001 p0 q1)), .unset, .unset]) rfl ?_
    show Steps p.tables e below (T2.setTop (mkF m 26 #[.val (.int p0), .val (.long q1), .second, .val (.long (f1 p0 q1)), .second, .val (.long (f2 (f1 p0 q1))), .second, .val (.int (f0_s0_24001 p0 q1)), .unset, .unset] [])) _
    refine XS.lload X2.here hx rfl (hb hby at_26) rfl ?_
    show Steps p.tables e below (T2.setTop (mkF m 28 #[.val (.int p0), .val (.long q1), .second, .val (.long (f1 p0 q1)), .second, .val (.long (f2 (f1 p0 q1))), .second, .val (.int (f0_s0_24001 p0 q1)), .unset, .unset] [(.long (f2 (f1 p0 q1)))])) _
    refine XS.lloadN X2.here hx rfl (hb hby at_28) rfl ?_
    show Steps p.tables e below (T2.setTop (mkF m 29 #[.val (.int p0), .val (.long q1), .second, .val (.long (f1 p0 q1)), .second, .val (.long (f2 (f1 p0 q1))), .second, .val (.int (f0_s0_24001 p0 q1)), .unset, .unset] [(.long (f1 p0 q1)), (.long (f2 (f1 p0 q1)))])) _
    refine XS.lcmp X2.here hx rfl (hb hby at_29) rfl ?_
    exact kt)
  have pre9 : ∀ t, Steps p.tables e below (T2.setTop (mkF m 47 #[.val (.int p0), .val (.long q1), .second, .val (.long (f1 p0 q1)), .second, .val (.long (f2 (f1 p0 q1))), .second, .val (.int (f0_s0_24001 p0 q1)), .unset, .unset] [(.int (f0_s0_47002 p0 q1))])) t → Steps p.tables e below (s₁.setTop (entryFrame m #[(.int p0), (.long q1)] maxLocals)) t := by
    intro t kt
    by_cases hc7 : (lcmpW (f2 (f1 p0 q1)) (f1 p0 q1)) = (0 : Int32)
    · have hj : (f0_s0_47002 p0 q1) = (1 : Int32) := by unfold f0_s0_47002; rw [if_pos hc7]
      rw [hj] at kt
      refine pre6 t ?_
      show Steps p.tables e below (T2.setTop (mkF m 30 #[.val (.int p0), .val (.long q1), .second, .val (.long (f1 p0 q1)), .second, .val (.long (f2 (f1 p0 q1))), .second, .val (.int (f0_s0_24001 p0 q1)), .unset, .unset] [(.int (lcmpW (f2 (f1 p0 q1)) (f1 p0 q1)))])) _
      refine XS.ifYes X2.here hx rfl (pc0 := 30) (pc' := 42) rfl (hb hby at_30) rfl ((if0 _ _).trans (teq hc7).1) (by decide) (by decide) ?_
      show Steps p.tables e below (T2.setTop (mkF m 42 #[.val (.int p0), .val (.long q1), .second, .val (.long (f1 p0 q1)), .second, .val (.long (f2 (f1 p0 q1))), .second, .val (.int (f0_s0_24001 p0 q1)), .unset, .unset] [])) _
      refine XS.iconst X2.here hx rfl (hb hby at_42) ?_
      show Steps p.tables e below (T2.setTop (mkF m 43 #[.val (.int p0), .val (.long q1), .second, .val (.long (f1 p0 q1)), .second, .val (.long (f2 (f1 p0 q1))), .second, .val (.int (f0_s0_24001 p0 q1)), .unset, .unset] [(.int (1 : Int32))])) _
      refine XS.goto X2.here hx rfl (pc0 := 43) (pc' := 47) rfl (hb hby at_43) (by decide) (by decide) ?_
      exact kt
    · by_cases hc8 : (lcmpW ((f2 (f1 p0 q1)) - (1 : Int64)) (f1 p0 q1)) = (0 : Int32)
      · have hj : (f0_s0_47002 p0 q1) = (1 : Int32) := by unfold f0_s0_47002; rw [if_neg hc7, if_pos hc8]
        rw [hj] at kt
        refine pre6 t ?_
        show Steps p.tables e below (T2.setTop (mkF m 30 #[.val (.int p0), .val (.long q1), .second, .val (.long (f1 p0 q1)), .second, .val (.long (f2 (f1 p0 q1))), .second, .val (.int (f0_s0_24001 p0 q1)), .unset, .unset] [(.int (lcmpW (f2 (f1 p0 q1)) (f1 p0 q1)))])) _
        refine XS.ifNo X2.here hx rfl (hb hby at_30) rfl ((if0 _ _).trans (feq hc7).1) ?_
        show Steps p.tables e below (T2.setTop (mkF m 33 #[.val (.int p0), .val (.long q1), .second, .val (.long (f1 p0 q1)), .second, .val (.long (f2 (f1 p0 q1))), .second, .val (.int (f0_s0_24001 p0 q1)), .unset, .unset] [])) _
        refine XS.lload X2.here hx rfl (hb hby at_33) rfl ?_
        show Steps p.tables e below (T2.setTop (mkF m 35 #[.val (.int p0), .val (.long q1), .second, .val (.long (f1 p0 q1)), .second, .val (.long (f2 (f1 p0 q1))), .second, .val (.int (f0_s0_24001 p0 q1)), .unset, .unset] [(.long (f2 (f1 p0 q1)))])) _
        refine XS.lconst X2.here hx rfl (hb hby at_35) ?_
        show Steps p.tables e below (T2.setTop (mkF m 36 #[.val (.int p0), .val (.long q1), .second, .val (.long (f1 p0 q1)), .second, .val (.long (f2 (f1 p0 q1))), .second, .val (.int (f0_s0_24001 p0 q1)), .unset, .unset] [(.long (1 : Int64)), (.long (f2 (f1 p0 q1)))])) _
        refine XS.lsub X2.here hx rfl (hb hby at_36) rfl ?_
        show Steps p.tables e below (T2.setTop (mkF m 37 #[.val (.int p0), .val (.long q1), .second, .val (.long (f1 p0 q1)), .second, .val (.long (f2 (f1 p0 q1))), .second, .val (.int (f0_s0_24001 p0 q1)), .unset, .unset] [(.long ((f2 (f1 p0 q1)) - (1 : Int64)))])) _
        refine XS.lloadN X2.here hx rfl (hb hby at_37) rfl ?_
        show Steps p.tables e below (T2.setTop (mkF m 38 #[.val (.int p0), .val (.long q1), .second, .val (.long (f1 p0 q1)), .second, .val (.long (f2 (f1 p0 q1))), .second, .val (.int (f0_s0_24001 p0 q1)), .unset, .unset] [(.long (f1 p0 q1)), (.long ((f2 (f1 p0 q1)) - (1 : Int64)))])) _
        refine XS.lcmp X2.here hx rfl (hb hby at_38) rfl ?_
        show Steps p.tables e below (T2.setTop (mkF m 39 #[.val (.int p0), .val (.long q1), .second, .val (.long (f1 p0 q1)), .second, .val (.long (f2 (f1 p0 q1))), .second, .val (.int (f0_s0_24001 p0 q1)), .unset, .unset] [(.int (lcmpW ((f2 (f1 p0 q1)) - (1 : Int64)) (f1 p0 q1)))])) _
        refine XS.ifNo X2.here hx rfl (hb hby at_39) rfl ((if0 _ _).trans (teq hc8).2) ?_
        show Steps p.tables e below (T2.setTop (mkF m 42 #[.val (.int p0), .val (.long q1), .second, .val (.long (f1 p0 q1)), .second, .val (.long (f2 (f1 p0 q1))), .second, .val (.int (f0_s0_24001 p0 q1)), .unset, .unset] [])) _
        refine XS.iconst X2.here hx rfl (hb hby at_42) ?_
        show Steps p.tables e below (T2.setTop (mkF m 43 #[.val (.int p0), .val (.long q1), .second, .val (.long (f1 p0 q1)), .second, .val (.long (f2 (f1 p0 q1))), .second, .val (.int (f0_s0_24001 p0 q1)), .unset, .unset] [(.int (1 : Int32))])) _
        refine XS.goto X2.here hx rfl (pc0 := 43) (pc' := 47) rfl (hb hby at_43) (by decide) (by decide) ?_
        exact kt
      · have hj : (f0_s0_47002 p0 q1) = (0 : Int32) := by unfold f0_s0_47002; rw [if_neg hc7, if_neg hc8]
        rw [hj] at kt
        refine pre6 t ?_
        show Steps p.tables e below (T2.setTop (mkF m 30 #[.val (.int p0), .val (.long q1), .second, .val (.long (f1 p0 q1)), .second, .val (.long (f2 (f1 p0 q1))), .second, .val (.int (f0_s0_24001 p0 q1)), .unset, .unset] [(.int (lcmpW (f2 (f1 p0 q1)) (f1 p0 q1)))])) _
        refine XS.ifNo X2.here hx rfl (hb hby at_30) rfl ((if0 _ _).trans (feq hc7).1) ?_
        show Steps p.tables e below (T2.setTop (mkF m 33 #[.val (.int p0), .val (.long q1), .second, .val (.long (f1 p0 q1)), .second, .val (.long (f2 (f1 p0 q1))), .second, .val (.int (f0_s0_24001 p0 q1)), .unset, .unset] [])) _
        refine XS.lload X2.here hx rfl (hb hby at_33) rfl ?_
        show Steps p.tables e below (T2.setTop (mkF m 35 #[.val (.int p0), .val (.long q1), .second, .val (.long (f1 p0 q1)), .second, .val (.long (f2 (f1 p0 q1))), .second, .val (.int (f0_s0_24001 p0 q1)), .unset, .unset] [(.long (f2 (f1 p0 q1)))])) _
        refine XS.lconst X2.here hx rfl (hb hby at_35) ?_
        show Steps p.tables e below (T2.setTop (mkF m 36 #[.val (.int p0), .val (.long q1), .second, .val (.long (f1 p0 q1)), .second, .val (.long (f2 (f1 p0 q1))), .second, .val (.int (f0_s0_24001 p0 q1)), .unset, .unset] [(.long (1 : Int64)), (.long (f2 (f1 p0 q1)))])) _
        refine XS.lsub X2.here hx rfl (hb hby at_36) rfl ?_
        show Steps p.tables e below (T2.setTop (mkF m 37 #[.val (.int p0), .val (.long q1), .second, .val (.long (f1 p0 q1)), .second, .val (.long (f2 (f1 p0 q1))), .second, .val (.int (f0_s0_24001 p0 q1)), .unset, .unset] [(.long ((f2 (f1 p0 q1)) - (1 : Int64)))])) _
        refine XS.lloadN X2.here hx rfl (hb hby at_37) rfl ?_
        show Steps p.tables e below (T2.setTop (mkF m 38 #[.val (.int p0), .val (.long q1), .second, .val (.long (f1 p0 q1)), .second, .val (.long (f2 (f1 p0 q1))), .second, .val (.int (f0_s0_24001 p0 q1)), .unset, .unset] [(.long (f1 p0 q1)), (.long ((f2 (f1 p0 q1)) - (1 : Int64)))])) _
        refine XS.lcmp X2.here hx rfl (hb hby at_38) rfl ?_
        show Steps p.tables e below (T2.setTop (mkF m 39 #[.val (.int p0), .val (.long q1), .second, .val (.long (f1 p0 q1)), .second, .val (.long (f2 (f1 p0 q1))), .second, .val (.int (f0_s0_24001 p0 q1)), .unset, .unset] [(.int (lcmpW ((f2 (f1 p0 q1)) - (1 : Int64)) (f1 p0 q1)))])) _
        refine XS.ifYes X2.here hx rfl (pc0 := 39) (pc' := 46) rfl (hb hby at_39) rfl ((if0 _ _).trans (feq hc8).2) (by decide) (by decide) ?_
        show Steps p.tables e below (T2.setTop (mkF m 46 #[.val (.int p0), .val (.long q1), .second, .val (.long (f1 p0 q1)), .second, .val (.long (f2 (f1 p0 q1))), .second, .val (.int (f0_s0_24001 p0 q1)), .unset, .unset] [])) _
        refine XS.iconst X2.here hx rfl (hb hby at_46) ?_
        exact kt
  have pre10 : ∀ t, Steps p.tables e below (T2.setTop (mkF m 53 #[.val (.int p0), .val (.long q1), .second, .val (.long (f1 p0 q1)), .second, .val (.long (f2 (f1 p0 q1))), .second, .val (.int (f0_s0_24001 p0 q1)), .val (.int (f0_s0_47002 p0 q1)), .unset] [(.int (lcmpW (f2 (f1 p0 q1)) (f1 p0 q1)))])) t → Steps p.tables e below (s₁.setTop (entryFrame m #[(.int p0), (.long q1)] maxLocals)) t := fun t kt => pre9 t (by
    show Steps p.tables e below (T2.setTop (mkF m 47 #[.val (.int p0), .val (.long q1), .second, .val (.long (f1 p0 q1)), .second, .val (.long (f2 (f1 p0 q1))), .second, .val (.int (f0_s0_24001 p0 q1)), .unset, .unset] [(.int (f0_s0_47002 p0 q1))])) _
    refine XS.istore X2.here hx rfl (hb hby at_47) rfl (l' := #[.val (.int p0), .val (.long q1), .second, .val (.long (f1 p0 q1)), .second, .val (.long (f2 (f1 p0 q1))), .second, .val (.int (f0_s0_24001 p0 q1)), .val (.int (f0_s0_47002 p0 q1)), .unset]) rfl ?_
    show Steps p.tables e below (T2.setTop (mkF m 49 #[.val (.int p0), .val (.long q1), .second, .val (.long (f1 p0 q1)), .second, .val (.long (f2 (f1 p0 q1))), .second, .val (.int (f0_s0_24001 p0 q1)), .val (.int (f0_s0_47002 p0 q1)), .unset] [])) _
    refine XS.lload X2.here hx rfl (hb hby at_49) rfl ?_
    show Steps p.tables e below (T2.setTop (mkF m 51 #[.val (.int p0), .val (.long q1), .second, .val (.long (f1 p0 q1)), .second, .val (.long (f2 (f1 p0 q1))), .second, .val (.int (f0_s0_24001 p0 q1)), .val (.int (f0_s0_47002 p0 q1)), .unset] [(.long (f2 (f1 p0 q1)))])) _
    refine XS.lloadN X2.here hx rfl (hb hby at_51) rfl ?_
    show Steps p.tables e below (T2.setTop (mkF m 52 #[.val (.int p0), .val (.long q1), .second, .val (.long (f1 p0 q1)), .second, .val (.long (f2 (f1 p0 q1))), .second, .val (.int (f0_s0_24001 p0 q1)), .val (.int (f0_s0_47002 p0 q1)), .unset] [(.long (f1 p0 q1)), (.long (f2 (f1 p0 q1)))])) _
    refine XS.lcmp X2.here hx rfl (hb hby at_52) rfl ?_
    exact kt)
  have pre12 : ∀ t, Steps p.tables e below (T2.setTop (mkF m 61 #[.val (.int p0), .val (.long q1), .second, .val (.long (f1 p0 q1)), .second, .val (.long (f2 (f1 p0 q1))), .second, .val (.int (f0_s0_24001 p0 q1)), .val (.int (f0_s0_47002 p0 q1)), .unset] [(.int (f0_s0_61003 p0 q1))])) t → Steps p.tables e below (s₁.setTop (entryFrame m #[(.int p0), (.long q1)] maxLocals)) t := by
    intro t kt
    by_cases hc11 : (lcmpW (f2 (f1 p0 q1)) (f1 p0 q1)) = (0 : Int32)
    · have hj : (f0_s0_61003 p0 q1) = (0 : Int32) := by unfold f0_s0_61003; rw [if_pos hc11]
      rw [hj] at kt
      refine pre10 t ?_
      show Steps p.tables e below (T2.setTop (mkF m 53 #[.val (.int p0), .val (.long q1), .second, .val (.long (f1 p0 q1)), .second, .val (.long (f2 (f1 p0 q1))), .second, .val (.int (f0_s0_24001 p0 q1)), .val (.int (f0_s0_47002 p0 q1)), .unset] [(.int (lcmpW (f2 (f1 p0 q1)) (f1 p0 q1)))])) _
      refine XS.ifYes X2.here hx rfl (pc0 := 53) (pc' := 60) rfl (hb hby at_53) rfl ((if0 _ _).trans (teq hc11).1) (by decide) (by decide) ?_
      show Steps p.tables e below (T2.setTop (mkF m 60 #[.val (.int p0), .val (.long q1), .second, .val (.long (f1 p0 q1)), .second, .val (.long (f2 (f1 p0 q1))), .second, .val (.int (f0_s0_24001 p0 q1)), .val (.int (f0_s0_47002 p0 q1)), .unset] [])) _
      refine XS.iconst X2.here hx rfl (hb hby at_60) ?_
      exact kt
    · have hj : (f0_s0_61003 p0 q1) = (1 : Int32) := by unfold f0_s0_61003; rw [if_neg hc11]
      rw [hj] at kt
      refine pre10 t ?_
      show Steps p.tables e below (T2.setTop (mkF m 53 #[.val (.int p0), .val (.long q1), .second, .val (.long (f1 p0 q1)), .second, .val (.long (f2 (f1 p0 q1))), .second, .val (.int (f0_s0_24001 p0 q1)), .val (.int (f0_s0_47002 p0 q1)), .unset] [(.int (lcmpW (f2 (f1 p0 q1)) (f1 p0 q1)))])) _
      refine XS.ifNo X2.here hx rfl (hb hby at_53) rfl ((if0 _ _).trans (feq hc11).1) ?_
      show Steps p.tables e below (T2.setTop (mkF m 56 #[.val (.int p0), .val (.long q1), .second, .val (.long (f1 p0 q1)), .second, .val (.long (f2 (f1 p0 q1))), .second, .val (.int (f0_s0_24001 p0 q1)), .val (.int (f0_s0_47002 p0 q1)), .unset] [])) _
      refine XS.iconst X2.here hx rfl (hb hby at_56) ?_
      show Steps p.tables e below (T2.setTop (mkF m 57 #[.val (.int p0), .val (.long q1), .second, .val (.long (f1 p0 q1)), .second, .val (.long (f2 (f1 p0 q1))), .second, .val (.int (f0_s0_24001 p0 q1)), .val (.int (f0_s0_47002 p0 q1)), .unset] [(.int (1 : Int32))])) _
      refine XS.goto X2.here hx rfl (pc0 := 57) (pc' := 61) rfl (hb hby at_57) (by decide) (by decide) ?_
      exact kt
  have pre13 : ∀ t, Steps p.tables e below (T2.setTop (mkF m 66 #[.val (.int p0), .val (.long q1), .second, .val (.long (f1 p0 q1)), .second, .val (.long (f2 (f1 p0 q1))), .second, .val (.int (f0_s0_24001 p0 q1)), .val (.int (f0_s0_47002 p0 q1)), .unset] [(.int (lcmpW (f1 p0 q1) (9223372032559808511 : Int64))), (.int (f0_s0_61003 p0 q1))])) t → Steps p.tables e below (s₁.setTop (entryFrame m #[(.int p0), (.long q1)] maxLocals)) t := fun t kt => pre12 t (by
    show Steps p.tables e below (T2.setTop (mkF m 61 #[.val (.int p0), .val (.long q1), .second, .val (.long (f1 p0 q1)), .second, .val (.long (f2 (f1 p0 q1))), .second, .val (.int (f0_s0_24001 p0 q1)), .val (.int (f0_s0_47002 p0 q1)), .unset] [(.int (f0_s0_61003 p0 q1))])) _
    refine XS.lloadN X2.here hx rfl (hb hby at_61) rfl ?_
    show Steps p.tables e below (T2.setTop (mkF m 62 #[.val (.int p0), .val (.long q1), .second, .val (.long (f1 p0 q1)), .second, .val (.long (f2 (f1 p0 q1))), .second, .val (.int (f0_s0_24001 p0 q1)), .val (.int (f0_s0_47002 p0 q1)), .unset] [(.long (f1 p0 q1)), (.int (f0_s0_61003 p0 q1))])) _
    refine X2.ldc2Long hx hown (mvT hZ (hw _ (List.mem_of_getElem? (i := 10) rfl))) (g := (mkF m 62 #[.val (.int p0), .val (.long q1), .second, .val (.long (f1 p0 q1)), .second, .val (.long (f2 (f1 p0 q1))), .second, .val (.int (f0_s0_24001 p0 q1)), .val (.int (f0_s0_47002 p0 q1)), .unset] [(.long (f1 p0 q1)), (.int (f0_s0_61003 p0 q1))])) rfl (hb hby at_62) _ ?_
    show Steps p.tables e below (T2.setTop (mkF m 65 #[.val (.int p0), .val (.long q1), .second, .val (.long (f1 p0 q1)), .second, .val (.long (f2 (f1 p0 q1))), .second, .val (.int (f0_s0_24001 p0 q1)), .val (.int (f0_s0_47002 p0 q1)), .unset] [(.long (9223372032559808511 : Int64)), (.long (f1 p0 q1)), (.int (f0_s0_61003 p0 q1))])) _
    refine XS.lcmp X2.here hx rfl (hb hby at_65) rfl ?_
    exact kt)
  have pre15 : ∀ t, Steps p.tables e below (T2.setTop (mkF m 74 #[.val (.int p0), .val (.long q1), .second, .val (.long (f1 p0 q1)), .second, .val (.long (f2 (f1 p0 q1))), .second, .val (.int (f0_s0_24001 p0 q1)), .val (.int (f0_s0_47002 p0 q1)), .unset] [(.int (f0_s0_74004 p0 q1)), (.int (f0_s0_61003 p0 q1))])) t → Steps p.tables e below (s₁.setTop (entryFrame m #[(.int p0), (.long q1)] maxLocals)) t := by
    intro t kt
    by_cases hc14 : (lcmpW (f1 p0 q1) (9223372032559808511 : Int64)) < (0 : Int32)
    · have hj : (f0_s0_74004 p0 q1) = (1 : Int32) := by unfold f0_s0_74004; rw [if_pos hc14]
      rw [hj] at kt
      refine pre13 t ?_
      show Steps p.tables e below (T2.setTop (mkF m 66 #[.val (.int p0), .val (.long q1), .second, .val (.long (f1 p0 q1)), .second, .val (.long (f2 (f1 p0 q1))), .second, .val (.int (f0_s0_24001 p0 q1)), .val (.int (f0_s0_47002 p0 q1)), .unset] [(.int (lcmpW (f1 p0 q1) (9223372032559808511 : Int64))), (.int (f0_s0_61003 p0 q1))])) _
      refine XS.ifNo X2.here hx rfl (hb hby at_66) rfl ((if0 _ _).trans (tlt hc14).2.1) ?_
      show Steps p.tables e below (T2.setTop (mkF m 69 #[.val (.int p0), .val (.long q1), .second, .val (.long (f1 p0 q1)), .second, .val (.long (f2 (f1 p0 q1))), .second, .val (.int (f0_s0_24001 p0 q1)), .val (.int (f0_s0_47002 p0 q1)), .unset] [(.int (f0_s0_61003 p0 q1))])) _
      refine XS.iconst X2.here hx rfl (hb hby at_69) ?_
      show Steps p.tables e below (T2.setTop (mkF m 70 #[.val (.int p0), .val (.long q1), .second, .val (.long (f1 p0 q1)), .second, .val (.long (f2 (f1 p0 q1))), .second, .val (.int (f0_s0_24001 p0 q1)), .val (.int (f0_s0_47002 p0 q1)), .unset] [(.int (1 : Int32)), (.int (f0_s0_61003 p0 q1))])) _
      refine XS.goto X2.here hx rfl (pc0 := 70) (pc' := 74) rfl (hb hby at_70) (by decide) (by decide) ?_
      exact kt
    · have hj : (f0_s0_74004 p0 q1) = (0 : Int32) := by unfold f0_s0_74004; rw [if_neg hc14]
      rw [hj] at kt
      refine pre13 t ?_
      show Steps p.tables e below (T2.setTop (mkF m 66 #[.val (.int p0), .val (.long q1), .second, .val (.long (f1 p0 q1)), .second, .val (.long (f2 (f1 p0 q1))), .second, .val (.int (f0_s0_24001 p0 q1)), .val (.int (f0_s0_47002 p0 q1)), .unset] [(.int (lcmpW (f1 p0 q1) (9223372032559808511 : Int64))), (.int (f0_s0_61003 p0 q1))])) _
      refine XS.ifYes X2.here hx rfl (pc0 := 66) (pc' := 73) rfl (hb hby at_66) rfl ((if0 _ _).trans (flt hc14).2.1) (by decide) (by decide) ?_
      show Steps p.tables e below (T2.setTop (mkF m 73 #[.val (.int p0), .val (.long q1), .second, .val (.long (f1 p0 q1)), .second, .val (.long (f2 (f1 p0 q1))), .second, .val (.int (f0_s0_24001 p0 q1)), .val (.int (f0_s0_47002 p0 q1)), .unset] [(.int (f0_s0_61003 p0 q1))])) _
      refine XS.iconst X2.here hx rfl (hb hby at_73) ?_
      exact kt
  have pre17 : ∀ t, Steps p.tables e below (T2.setTop (mkF m 82 #[.val (.int p0), .val (.long q1), .second, .val (.long (f1 p0 q1)), .second, .val (.long (f2 (f1 p0 q1))), .second, .val (.int (f0_s0_24001 p0 q1)), .val (.int (f0_s0_47002 p0 q1)), .unset] [(.int (f0_s0_82005 p0 q1))])) t → Steps p.tables e below (s₁.setTop (entryFrame m #[(.int p0), (.long q1)] maxLocals)) t := by
    intro t kt
    by_cases hc16 : (f0_s0_61003 p0 q1) = (f0_s0_74004 p0 q1)
    · have hj : (f0_s0_82005 p0 q1) = (1 : Int32) := by unfold f0_s0_82005; rw [if_pos hc16]
      rw [hj] at kt
      refine pre15 t ?_
      show Steps p.tables e below (T2.setTop (mkF m 74 #[.val (.int p0), .val (.long q1), .second, .val (.long (f1 p0 q1)), .second, .val (.long (f2 (f1 p0 q1))), .second, .val (.int (f0_s0_24001 p0 q1)), .val (.int (f0_s0_47002 p0 q1)), .unset] [(.int (f0_s0_74004 p0 q1)), (.int (f0_s0_61003 p0 q1))])) _
      refine XS.icmpNo X2.here hx rfl (hb hby at_74) rfl (teq hc16).2 ?_
      show Steps p.tables e below (T2.setTop (mkF m 77 #[.val (.int p0), .val (.long q1), .second, .val (.long (f1 p0 q1)), .second, .val (.long (f2 (f1 p0 q1))), .second, .val (.int (f0_s0_24001 p0 q1)), .val (.int (f0_s0_47002 p0 q1)), .unset] [])) _
      refine XS.iconst X2.here hx rfl (hb hby at_77) ?_
      show Steps p.tables e below (T2.setTop (mkF m 78 #[.val (.int p0), .val (.long q1), .second, .val (.long (f1 p0 q1)), .second, .val (.long (f2 (f1 p0 q1))), .second, .val (.int (f0_s0_24001 p0 q1)), .val (.int (f0_s0_47002 p0 q1)), .unset] [(.int (1 : Int32))])) _
      refine XS.goto X2.here hx rfl (pc0 := 78) (pc' := 82) rfl (hb hby at_78) (by decide) (by decide) ?_
      exact kt
    · have hj : (f0_s0_82005 p0 q1) = (0 : Int32) := by unfold f0_s0_82005; rw [if_neg hc16]
      rw [hj] at kt
      refine pre15 t ?_
      show Steps p.tables e below (T2.setTop (mkF m 74 #[.val (.int p0), .val (.long q1), .second, .val (.long (f1 p0 q1)), .second, .val (.long (f2 (f1 p0 q1))), .second, .val (.int (f0_s0_24001 p0 q1)), .val (.int (f0_s0_47002 p0 q1)), .unset] [(.int (f0_s0_74004 p0 q1)), (.int (f0_s0_61003 p0 q1))])) _
      refine XS.icmpYes X2.here hx rfl (pc0 := 74) (pc' := 81) rfl (hb hby at_74) rfl (feq hc16).2 (by decide) (by decide) ?_
      show Steps p.tables e below (T2.setTop (mkF m 81 #[.val (.int p0), .val (.long q1), .second, .val (.long (f1 p0 q1)), .second, .val (.long (f2 (f1 p0 q1))), .second, .val (.int (f0_s0_24001 p0 q1)), .val (.int (f0_s0_47002 p0 q1)), .unset] [])) _
      refine XS.iconst X2.here hx rfl (hb hby at_81) ?_
      exact kt
  have pre18 : ∀ t, Steps p.tables e below (T2.setTop (mkF m 86 #[.val (.int p0), .val (.long q1), .second, .val (.long (f1 p0 q1)), .second, .val (.long (f2 (f1 p0 q1))), .second, .val (.int (f0_s0_24001 p0 q1)), .val (.int (f0_s0_47002 p0 q1)), .val (.int (f0_s0_82005 p0 q1))] [(.int (f0_s0_24001 p0 q1))])) t → Steps p.tables e below (s₁.setTop (entryFrame m #[(.int p0), (.long q1)] maxLocals)) t := fun t kt => pre17 t (by
    show Steps p.tables e below (T2.setTop (mkF m 82 #[.val (.int p0), .val (.long q1), .second, .val (.long (f1 p0 q1)), .second, .val (.long (f2 (f1 p0 q1))), .second, .val (.int (f0_s0_24001 p0 q1)), .val (.int (f0_s0_47002 p0 q1)), .unset] [(.int (f0_s0_82005 p0 q1))])) _
    refine XS.istore X2.here hx rfl (hb hby at_82) rfl (l' := #[.val (.int p0), .val (.long q1), .second, .val (.long (f1 p0 q1)), .second, .val (.long (f2 (f1 p0 q1))), .second, .val (.int (f0_s0_24001 p0 q1)), .val (.int (f0_s0_47002 p0 q1)), .val (.int (f0_s0_82005 p0 q1))]) rfl ?_
    show Steps p.tables e below (T2.setTop (mkF m 84 #[.val (.int p0), .val (.long q1), .second, .val (.long (f1 p0 q1)), .second, .val (.long (f2 (f1 p0 q1))), .second, .val (.int (f0_s0_24001 p0 q1)), .val (.int (f0_s0_47002 p0 q1)), .val (.int (f0_s0_82005 p0 q1))] [])) _
    refine XS.iload X2.here hx rfl (hb hby at_84) rfl ?_
    exact kt)
  by_cases hc19 : (f0_s0_24001 p0 q1) = (0 : Int32)
  · obtain ⟨fs, hr, hrun, hended, hW, hsame⟩ := X2.leave (v := some (.int (0 : Int32))) (fun h => by rw [Bd.returns] at h; cases h) hlk
    refine ⟨_, _, pre18 _ ?_, hrun, hended, _, _, rfl, ?_, ⟨_, rfl⟩, hW, hsame.mono (by decide) (by decide)⟩
    · show Steps p.tables e below (T2.setTop (mkF m 86 #[.val (.int p0), .val (.long q1), .second, .val (.long (f1 p0 q1)), .second, .val (.long (f2 (f1 p0 q1))), .second, .val (.int (f0_s0_24001 p0 q1)), .val (.int (f0_s0_47002 p0 q1)), .val (.int (f0_s0_82005 p0 q1))] [(.int (f0_s0_24001 p0 q1))])) _
      refine XS.ifYes X2.here hx rfl (pc0 := 86) (pc' := 103) rfl (hb hby at_86) rfl ((if0 _ _).trans (teq hc19).1) (by decide) (by decide) ?_
      show Steps p.tables e below (T2.setTop (mkF m 103 #[.val (.int p0), .val (.long q1), .second, .val (.long (f1 p0 q1)), .second, .val (.long (f2 (f1 p0 q1))), .second, .val (.int (f0_s0_24001 p0 q1)), .val (.int (f0_s0_47002 p0 q1)), .val (.int (f0_s0_82005 p0 q1))] [])) _
      refine XS.iconst X2.here hx rfl (hb hby at_103) ?_
      show Steps p.tables e below (T2.setTop (mkF m 104 #[.val (.int p0), .val (.long q1), .second, .val (.long (f1 p0 q1)), .second, .val (.long (f2 (f1 p0 q1))), .second, .val (.int (f0_s0_24001 p0 q1)), .val (.int (f0_s0_47002 p0 q1)), .val (.int (f0_s0_82005 p0 q1))] [(.int (0 : Int32))])) _
      exact retN X2 hx (t := .boolean) Bd.returns (by simp) (hb hby at_104) hr
    · show Q0 Z p0 q1 h0 n0 _ T2.heap _
      rw [e2]
      exact ⟨by rw [show f0 p0 q1 = (0 : Int32) from by unfold f0; rw [if_pos hc19]], N2⟩
  · have pre20 : ∀ t, Steps p.tables e below (T2.setTop (mkF m 91 #[.val (.int p0), .val (.long q1), .second, .val (.long (f1 p0 q1)), .second, .val (.long (f2 (f1 p0 q1))), .second, .val (.int (f0_s0_24001 p0 q1)), .val (.int (f0_s0_47002 p0 q1)), .val (.int (f0_s0_82005 p0 q1))] [(.int (f0_s0_47002 p0 q1))])) t → Steps p.tables e below (s₁.setTop (entryFrame m #[(.int p0), (.long q1)] maxLocals)) t := fun t kt => pre18 t (by
      show Steps p.tables e below (T2.setTop (mkF m 86 #[.val (.int p0), .val (.long q1), .second, .val (.long (f1 p0 q1)), .second, .val (.long (f2 (f1 p0 q1))), .second, .val (.int (f0_s0_24001 p0 q1)), .val (.int (f0_s0_47002 p0 q1)), .val (.int (f0_s0_82005 p0 q1))] [(.int (f0_s0_24001 p0 q1))])) _
      refine XS.ifNo X2.here hx rfl (hb hby at_86) rfl ((if0 _ _).trans (feq hc19).1) ?_
      show Steps p.tables e below (T2.setTop (mkF m 89 #[.val (.int p0), .val (.long q1), .second, .val (.long (f1 p0 q1)), .second, .val (.long (f2 (f1 p0 q1))), .second, .val (.int (f0_s0_24001 p0 q1)), .val (.int (f0_s0_47002 p0 q1)), .val (.int (f0_s0_82005 p0 q1))] [])) _
      refine XS.iload X2.here hx rfl (hb hby at_89) rfl ?_
      exact kt)
    by_cases hc21 : (f0_s0_47002 p0 q1) = (0 : Int32)
    · obtain ⟨fs, hr, hrun, hended, hW, hsame⟩ := X2.leave (v := some (.int (0 : Int32))) (fun h => by rw [Bd.returns] at h; cases h) hlk
      refine ⟨_, _, pre20 _ ?_, hrun, hended, _, _, rfl, ?_, ⟨_, rfl⟩, hW, hsame.mono (by decide) (by decide)⟩
      · show Steps p.tables e below (T2.setTop (mkF m 91 #[.val (.int p0), .val (.long q1), .second, .val (.long (f1 p0 q1)), .second, .val (.long (f2 (f1 p0 q1))), .second, .val (.int (f0_s0_24001 p0 q1)), .val (.int (f0_s0_47002 p0 q1)), .val (.int (f0_s0_82005 p0 q1))] [(.int (f0_s0_47002 p0 q1))])) _
        refine XS.ifYes X2.here hx rfl (pc0 := 91) (pc' := 103) rfl (hb hby at_91) rfl ((if0 _ _).trans (teq hc21).1) (by decide) (by decide) ?_
        show Steps p.tables e below (T2.setTop (mkF m 103 #[.val (.int p0), .val (.long q1), .second, .val (.long (f1 p0 q1)), .second, .val (.long (f2 (f1 p0 q1))), .second, .val (.int (f0_s0_24001 p0 q1)), .val (.int (f0_s0_47002 p0 q1)), .val (.int (f0_s0_82005 p0 q1))] [])) _
        refine XS.iconst X2.here hx rfl (hb hby at_103) ?_
        show Steps p.tables e below (T2.setTop (mkF m 104 #[.val (.int p0), .val (.long q1), .second, .val (.long (f1 p0 q1)), .second, .val (.long (f2 (f1 p0 q1))), .second, .val (.int (f0_s0_24001 p0 q1)), .val (.int (f0_s0_47002 p0 q1)), .val (.int (f0_s0_82005 p0 q1))] [(.int (0 : Int32))])) _
        exact retN X2 hx (t := .boolean) Bd.returns (by simp) (hb hby at_104) hr
      · show Q0 Z p0 q1 h0 n0 _ T2.heap _
        rw [e2]
        exact ⟨by rw [show f0 p0 q1 = (0 : Int32) from by unfold f0; rw [if_neg hc19, if_pos hc21]], N2⟩
    · have pre22 : ∀ t, Steps p.tables e below (T2.setTop (mkF m 96 #[.val (.int p0), .val (.long q1), .second, .val (.long (f1 p0 q1)), .second, .val (.long (f2 (f1 p0 q1))), .second, .val (.int (f0_s0_24001 p0 q1)), .val (.int (f0_s0_47002 p0 q1)), .val (.int (f0_s0_82005 p0 q1))] [(.int (f0_s0_82005 p0 q1))])) t → Steps p.tables e below (s₁.setTop (entryFrame m #[(.int p0), (.long q1)] maxLocals)) t := fun t kt => pre20 t (by
        show Steps p.tables e below (T2.setTop (mkF m 91 #[.val (.int p0), .val (.long q1), .second, .val (.long (f1 p0 q1)), .second, .val (.long (f2 (f1 p0 q1))), .second, .val (.int (f0_s0_24001 p0 q1)), .val (.int (f0_s0_47002 p0 q1)), .val (.int (f0_s0_82005 p0 q1))] [(.int (f0_s0_47002 p0 q1))])) _
        refine XS.ifNo X2.here hx rfl (hb hby at_91) rfl ((if0 _ _).trans (feq hc21).1) ?_
        show Steps p.tables e below (T2.setTop (mkF m 94 #[.val (.int p0), .val (.long q1), .second, .val (.long (f1 p0 q1)), .second, .val (.long (f2 (f1 p0 q1))), .second, .val (.int (f0_s0_24001 p0 q1)), .val (.int (f0_s0_47002 p0 q1)), .val (.int (f0_s0_82005 p0 q1))] [])) _
        refine XS.iload X2.here hx rfl (hb hby at_94) rfl ?_
        exact kt)
      by_cases hc23 : (f0_s0_82005 p0 q1) = (0 : Int32)
      · obtain ⟨fs, hr, hrun, hended, hW, hsame⟩ := X2.leave (v := some (.int (0 : Int32))) (fun h => by rw [Bd.returns] at h; cases h) hlk
        refine ⟨_, _, pre22 _ ?_, hrun, hended, _, _, rfl, ?_, ⟨_, rfl⟩, hW, hsame.mono (by decide) (by decide)⟩
        · show Steps p.tables e below (T2.setTop (mkF m 96 #[.val (.int p0), .val (.long q1), .second, .val (.long (f1 p0 q1)), .second, .val (.long (f2 (f1 p0 q1))), .second, .val (.int (f0_s0_24001 p0 q1)), .val (.int (f0_s0_47002 p0 q1)), .val (.int (f0_s0_82005 p0 q1))] [(.int (f0_s0_82005 p0 q1))])) _
          refine XS.ifYes X2.here hx rfl (pc0 := 96) (pc' := 103) rfl (hb hby at_96) rfl ((if0 _ _).trans (teq hc23).1) (by decide) (by decide) ?_
          show Steps p.tables e below (T2.setTop (mkF m 103 #[.val (.int p0), .val (.long q1), .second, .val (.long (f1 p0 q1)), .second, .val (.long (f2 (f1 p0 q1))), .second, .val (.int (f0_s0_24001 p0 q1)), .val (.int (f0_s0_47002 p0 q1)), .val (.int (f0_s0_82005 p0 q1))] [])) _
          refine XS.iconst X2.here hx rfl (hb hby at_103) ?_
          show Steps p.tables e below (T2.setTop (mkF m 104 #[.val (.int p0), .val (.long q1), .second, .val (.long (f1 p0 q1)), .second, .val (.long (f2 (f1 p0 q1))), .second, .val (.int (f0_s0_24001 p0 q1)), .val (.int (f0_s0_47002 p0 q1)), .val (.int (f0_s0_82005 p0 q1))] [(.int (0 : Int32))])) _
          exact retN X2 hx (t := .boolean) Bd.returns (by simp) (hb hby at_104) hr
        · show Q0 Z p0 q1 h0 n0 _ T2.heap _
          rw [e2]
          exact ⟨by rw [show f0 p0 q1 = (0 : Int32) from by unfold f0; rw [if_neg hc19, if_neg hc21, if_pos hc23]], N2⟩
      · obtain ⟨fs, hr, hrun, hended, hW, hsame⟩ := X2.leave (v := some (.int (1 : Int32))) (fun h => by rw [Bd.returns] at h; cases h) hlk
        refine ⟨_, _, pre22 _ ?_, hrun, hended, _, _, rfl, ?_, ⟨_, rfl⟩, hW, hsame.mono (by decide) (by decide)⟩
        · show Steps p.tables e below (T2.setTop (mkF m 96 #[.val (.int p0), .val (.long q1), .second, .val (.long (f1 p0 q1)), .second, .val (.long (f2 (f1 p0 q1))), .second, .val (.int (f0_s0_24001 p0 q1)), .val (.int (f0_s0_47002 p0 q1)), .val (.int (f0_s0_82005 p0 q1))] [(.int (f0_s0_82005 p0 q1))])) _
          refine XS.ifNo X2.here hx rfl (hb hby at_96) rfl ((if0 _ _).trans (feq hc23).1) ?_
          show Steps p.tables e below (T2.setTop (mkF m 99 #[.val (.int p0), .val (.long q1), .second, .val (.long (f1 p0 q1)), .second, .val (.long (f2 (f1 p0 q1))), .second, .val (.int (f0_s0_24001 p0 q1)), .val (.int (f0_s0_47002 p0 q1)), .val (.int (f0_s0_82005 p0 q1))] [])) _
          refine XS.iconst X2.here hx rfl (hb hby at_99) ?_
          show Steps p.tables e below (T2.setTop (mkF m 100 #[.val (.int p0), .val (.long q1), .second, .val (.long (f1 p0 q1)), .second, .val (.long (f2 (f1 p0 q1))), .second, .val (.int (f0_s0_24001 p0 q1)), .val (.int (f0_s0_47002 p0 q1)), .val (.int (f0_s0_82005 p0 q1))] [(.int (1 : Int32))])) _
          refine XS.goto X2.here hx rfl (pc0 := 100) (pc' := 104) rfl (hb hby at_100) (by decide) (by decide) ?_
          show Steps p.tables e below (T2.setTop (mkF m 104 #[.val (.int p0), .val (.long q1), .second, .val (.long (f1 p0 q1)), .second, .val (.long (f2 (f1 p0 q1))), .second, .val (.int (f0_s0_24001 p0 q1)), .val (.int (f0_s0_47002 p0 q1)), .val (.int (f0_s0_82005 p0 q1))] [(.int (1 : Int32))])) _
          exact retN X2 hx (t := .boolean) Bd.returns (by simp) (hb hby at_104) hr
        · show Q0 Z p0 q1 h0 n0 _ T2.heap _
          rw [e2]
          exact ⟨by rw [show f0 p0 q1 = (1 : Int32) from by unfold f0; rw [if_neg hc19, if_neg hc21, if_neg hc23]], N2⟩
theorem own_law (p0 : Int32) (q1 : Int64) : f0 p0 q1 = 1 := by
  unfold f0 f0_s0_24001 f0_s0_47002 f0_s0_82005 f0_s0_61003 f0_s0_74004
  generalize f1 p0 q1 = h
  unfold f2
  simp only [lw_lt, lw_eq, lw_gt]
  have e1 : (1 : Int64).toInt = 1 := rfl
  have eM : (9223372032559808511 : Int64).toInt = 9223372032559808511 := rfl
  have r := rng64 h
  have nn : ¬ h < h := by rw [Int64.lt_iff_toInt_lt]; omega
  by_cases hM : h < 9223372032559808511
  · have hM' := Int64.lt_iff_toInt_lt.mp hM
    have a1 := c_ladd h 1
    have r1 := rng64 (h + 1)
    have a2 := c_lsub (h + 1) 1
    have r2 := rng64 (h + 1 - 1)
    have n1 : ¬ h + 1 < h := by rw [Int64.lt_iff_toInt_lt]; omega
    have n2 : ¬ h + 1 = h := fun q => by have := congrArg Int64.toInt q; omega
    have n3 : h + 1 - 1 = h := Int64.toInt_inj.mp (by omega)
    simp [hM, n1, n2, n3]
  · simp [hM, nn]
set_option maxRecDepth 65536 in
set_option maxHeartbeats 40000000 in
theorem comes_1 {Post : Tables → Env → Array Value → State → Outcome → State → Prop} (hpost : ∀ tb e args s v u, (limb_1_1.after args s (.returned v) u = true ∧ limb_1_2.after args s (.returned v) u = true ∧ True) → FrameEnd s (.returned v) u (Jvm.fieldLocs frame_1_writes args s ++ Jvm.arrayLocs frame_1_arrays args s ++ Jvm.staticLocs frame_1_statics s) 0 0 → Post tb e args s (.returned v) u) :
    ArmFor flags0 classFile x code maxLocals ret World_1 tables_1 room_1 Calls_1 rest_1 Pre_1 Post := by
  intro l hfl _ _ p e ha hc hk s m args below hf hA hF happ hP
  obtain ⟨hcalls, hrest, hpre⟩ := hP
  obtain ⟨-, -, -, hnamed, -, -, -, hat⟩ := (Spec.applies_iff hf).mp happ
  obtain ⟨hg, hn⟩ := and_e (Cond.before_iff.mp (show (Jvm.Cond.and given_1 narrow_1).before args s = true from hpre))
  obtain ⟨g1, g2⟩ := and_e hg
  obtain ⟨g3, g4⟩ := and_e g2
  obtain ⟨w0, w1, rfl⟩ : ∃ w0 w1 : Value, args = #[w0, w1] := by
    have hs : args.size = 2 := by simpa [Cond.value, given_1] using g1
    obtain ⟨L⟩ := args
    match L, hs with
    | [w0, w1], _ => exact ⟨w0, w1, rfl⟩
  have hw := fun d (hd : d ∈ tables_1) => atoms_spec (ws := Jvm.Cond.code x code maxLocals ret :: tables_1) hat d (List.mem_cons_of_mem _ hd)
  have hfit : Fit s := fun {y c} hc i hi => by
    obtain ⟨ha, rfl⟩ := Array.getElem?_eq_some_iff.mp hc
    have q := List.all_eq_true.mp ((Array.all_eq_true_iff_forall_mem.mp hF) _ (Array.getElem_mem ha)) i (List.mem_range.mpr hi)
    simpa [Array.getElem?_eq_getElem hi] using q
  obtain ⟨i0, ei0⟩ := is_v g3
  obtain rfl : w0 = (.int i0) := Option.some.inj ei0
  obtain ⟨i1, ei1⟩ := isL_v g4
  obtain rfl : w1 = (.long i1) := Option.some.inj ei1
  obtain ⟨n, o, h1, h2, h3, _, L, rfl, ⟨rfl, N⟩, hq⟩ := rm0 l s _ hw tables_1 i0 i1 s.heap s.heap.size (Nat.le_refl _) p e ha hc hk s m _ below hf ((Spec.applies_iff_loose hf).mp happ).1 ⟨rfl, State.Warmed39.refl s, rfl⟩ trivial
  refine ⟨n, _, h1, h2, h3, hpost _ _ _ _ _ _ ⟨Cond.after_iff.mpr rfl, Cond.after_iff.mpr (eq_i res_at (Term.int_eval (1)) (by rw [own_law i0 i1])), trivial⟩ ⟨hq.1, hq.2.1, (hq.2.2.sift fun y hy => Or.inr (N y hy)).mono (by decide) (by decide)⟩⟩
theorem main_1_1 : Claimed_1_1 := comes_1 fun _ _ _ _ _ _ h hF => ⟨h.1, hF⟩
theorem main_1_2 : Claimed_1_2 := comes_1 fun _ _ _ _ _ _ h hF => ⟨h.2.1, hF⟩
end Jvm.Pilot.@@N@@
namespace Jvm.Pilot.@@N@@
open Jvm Jvm.ClassFile Sem Op Lib Jvm.Free Jvm.Stand Jvm.Pilot.@@N@@.Jvm.D
/-! MADE BY PROGRAM (witnessworld.py) out of the Statement's table words and the real class files: 9 classes; the members and pool entries that the words name. The judged class is class 1, her method 2. -/
namespace start1
open Jvm.ClassFile
def u (s : String) : CpInfo := .utf8 (stringToUtf16 s)
/-- a pool by its gaps: so many unusable entries, then the entry; so many at the end -/
def gap : Nat → List CpInfo → List CpInfo
  | 0, r => r
  | n + 1, r => .unusable :: gap n r
def poolList (es : List (Nat × CpInfo)) (last : Nat) : List CpInfo := es.foldr (fun e r => gap e.1 (e.2 :: r)) (gap last [])
def pool (es : List (Nat × CpInfo)) (last : Nat) : Array CpInfo := ⟨poolList es last⟩
def fileOf (pool : Array CpInfo) (this : Nat) (attrs : Array Attribute := #[]) (ms : Array MethodInfo := #[]) (fl : Nat := 33) (sup : Nat := 0) (ifs : Array Nat := #[]) (fds : Array FieldInfo := #[]) : ClassFile where
  minorVersion := 0
  majorVersion := 65
  constantPool := pool
  accessFlags := fl
  thisClass := this
  superClass := sup
  interfaces := ifs
  fields := fds
  methods := ms
  attributes := attrs
def plain (name : String) (sup : Option ClassId) : Class where
  name := name
  kind := .ordinary
  loader := none
  accessFlags := 33
  super := sup
  interfaces := #[]
  cf := none
  fields := #[]
  methods := #[]
  instanceTypes := #[]
  staticTypes := #[]
  resolved := #[]
  callSites := []
  init := .initialized
  statics := none
  mirror := none

def pool0 : Array CpInfo := pool [(5, u "<init>"), (0, u "()V"), (1, .class_ 10), (1, u "java/lang/Object")] 113

def k0m0 : Method := { name := "<init>", desc := "()V", sig := { parameters := [], returnType := none }, accessFlags := 1, code := none }
/-- java/lang/Object -/
def k0 : Class := { plain "java/lang/Object" none with
  accessFlags := 33
  interfaces := #[]
  cf := some (fileOf pool0 8 #[] #[{ accessFlags := 1, nameIndex := 5, descriptorIndex := 6, attributes := #[] }] 33 0 #[] #[])
  fields := #[]
  methods := #[k0m0]
  instanceTypes := #[]
  staticTypes := #[]
  resolved := Array.replicate 124 none
  statics := none }

def pool1 : Array CpInfo := pool [(2, .class_ 4), (1, u "java/lang/Object"), (0, u "<init>"), (0, u "()V"), (0, .long 7), (1, .class_ 10), (0, u "com/example/moothall/moothall/model/Counters"), (0, .long 9223372032559808511), (3, .long 9223372036854775807), (1, .methodref 18 19), (0, .class_ 20), (0, .nameAndType 21 22), (0, u "com/example/moothall/moothall/model/CountersNextPinLaw"), (0, u "pick"), (0, u "(IJ)J"), (0, .methodref 9 24), (0, .nameAndType 25 26), (0, u "next"), (0, u "(J)J"), (3, u "law"), (0, u "(IJ)Z")] 2

def k1m0 : Method := { name := "<init>", desc := "()V", sig := { parameters := [], returnType := none }, accessFlags := 2, code := none }
def k1c1 : Code := { maxStack := 4, maxLocals := 6, code := method_2_code, exceptionTable := #[], attributes := #[] }
def k1m1 : Method := { name := "pick", desc := "(IJ)J", sig := { parameters := [.int, .long], returnType := some .long }, accessFlags := 10, code := some k1c1 }
def k1c2 : Code := { maxStack := 5, maxLocals := 10, code := code, exceptionTable := #[], attributes := #[] }
def k1m2 : Method := { name := "law", desc := "(IJ)Z", sig := { parameters := [.int, .long], returnType := some .boolean }, accessFlags := 9, code := some k1c2 }
/-- com/example/moothall/moothall/model/CountersNextPinLaw -/
def k1 : Class := { plain "com/example/moothall/moothall/model/CountersNextPinLaw" (some 0) with
  accessFlags := 49
  interfaces := #[]
  cf := some (fileOf pool1 18 #[] #[{ accessFlags := 2, nameIndex := 5, descriptorIndex := 6, attributes := #[] }, { accessFlags := 10, nameIndex := 21, descriptorIndex := 22, attributes := #[] }, { accessFlags := 9, nameIndex := 30, descriptorIndex := 31, attributes := #[] }] 49 2 #[] #[])
  fields := #[]
  methods := #[k1m0, k1m1, k1m2]
  instanceTypes := #[]
  staticTypes := #[]
  resolved := Array.replicate 34 none
  statics := none }

def pool2 : Array CpInfo := pool [(3, .class_ 4), (0, u "com/example/moothall/moothall/model/Counters"), (1, .class_ 8), (1, u "java/lang/Object"), (0, u "<init>"), (0, u "()V"), (4, .long 9223372032559808511), (4, u "(J)J"), (11, u "next"), (0, u "MAX_STEP"), (0, u "J"), (1, u "MAX")] 7

def k2m0 : Method := { name := "<init>", desc := "()V", sig := { parameters := [], returnType := none }, accessFlags := 2, code := none }
def k2c1 : Code := { maxStack := 4, maxLocals := 2, code := prog_24_method_5_code, exceptionTable := #[], attributes := #[] }
def k2m1 : Method := { name := "next", desc := "(J)J", sig := { parameters := [.long], returnType := some .long }, accessFlags := 9, code := some k2c1 }
/-- com/example/moothall/moothall/model/Counters -/
def k2 : Class := { plain "com/example/moothall/moothall/model/Counters" (some 0) with
  accessFlags := 49
  interfaces := #[]
  cf := some (fileOf pool2 3 #[] #[{ accessFlags := 2, nameIndex := 9, descriptorIndex := 10, attributes := #[] }, { accessFlags := 9, nameIndex := 32, descriptorIndex := 20, attributes := #[] }] 49 6 #[] #[{ accessFlags := 25, nameIndex := 33, descriptorIndex := 34, attributes := #[] }, { accessFlags := 25, nameIndex := 36, descriptorIndex := 34, attributes := #[] }])
  fields := #[{ name := "MAX_STEP", type := .long, accessFlags := 25, slot := 0, constantValue := 0 }, { name := "MAX", type := .long, accessFlags := 25, slot := 1, constantValue := 0 }]
  methods := #[k2m0, k2m1]
  instanceTypes := #[]
  staticTypes := #[.long, .long]
  resolved := Array.replicate 44 none
  statics := none }

def pool3 : Array CpInfo := pool [(1, u "java/lang/Cloneable"), (0, .class_ 1), (0, u "java/lang/Object"), (0, .class_ 3)] 3

/-- java/lang/Cloneable -/
def k3 : Class := { plain "java/lang/Cloneable" (some 0) with
  accessFlags := 1537
  interfaces := #[]
  cf := some (fileOf pool3 2 #[] #[] 1537 4 #[] #[])
  fields := #[]
  methods := #[]
  instanceTypes := #[]
  staticTypes := #[]
  resolved := Array.replicate 8 none
  statics := none }

def pool4 : Array CpInfo := pool [(1, u "java/io/Serializable"), (0, .class_ 1), (0, u "java/lang/Object"), (0, .class_ 3)] 3

/-- java/io/Serializable -/
def k4 : Class := { plain "java/io/Serializable" (some 0) with
  accessFlags := 1537
  interfaces := #[]
  cf := some (fileOf pool4 2 #[] #[] 1537 4 #[] #[])
  fields := #[]
  methods := #[]
  instanceTypes := #[]
  staticTypes := #[]
  resolved := Array.replicate 8 none
  statics := none }

/-- the primitive byte -/
def k5 : Class := { plain "byte" none with kind := .primitive 'B', accessFlags := 0x411 }
/-- [B -/
def k6 : Class := { plain "[B" (some 0) with kind := .array 5 .byte, interfaces := #[3, 4], accessFlags := 1041 }

/-- the primitive int -/
def k7 : Class := { plain "int" none with kind := .primitive 'I', accessFlags := 0x411 }
/-- [I -/
def k8 : Class := { plain "[I" (some 0) with kind := .array 7 .int, interfaces := #[3, 4], accessFlags := 1041 }

def heap : Heap := #[]
def classes : Array Class := #[k0, k1, k2, k3, k4, k5, k6, k7, k8]
def interned : List (Array UInt16 × Addr) := []
def slotsUsed : Nat := 0
def theMethod : MethodId := ⟨1, 2⟩
def args0 : Array Value := #[.int 5, .long 5]
def aboutOver (below : List Frame) : State where
  vm := { classes := classes, interned := interned.toArray }
  heap := heap
  slotsUsed := slotsUsed
  threads := #[{ frames := .invoking theMethod args0 :: below }]
def below0 : List Frame := [.native { method := ⟨0, 0⟩, args := #[] }]
def about1 : State := aboutOver below0
def p0 : Program := .bare "" "" ""
def e0 : Env := launch0.env 0 0 0
theorem w_frames : about1.frames = Frame.invoking theMethod args0 :: below0 := rfl
set_option maxRecDepth 65536 in
theorem w_args : argsFit about1.vm theMethod args0 = true := by decide +kernel
set_option maxRecDepth 65536 in
theorem w_heap : heapFits about1 = true := by decide +kernel
set_option maxRecDepth 65536 in
theorem w_runnable : about1.curStatus? = some .runnable := by decide +kernel
set_option maxRecDepth 65536 in
theorem w_alone : about1.alone = true := by decide +kernel
set_option maxRecDepth 65536 in
theorem w_named : about1.methodNamed? x = some theMethod := by decide +kernel
set_option maxRecDepth 65536 in
theorem w_hears : about1.hears theMethod below0 = true := by decide +kernel
set_option maxRecDepth 65536 in
theorem w_ripe : about1.ripe theMethod args0 below0 = true := by decide +kernel
theorem w_running : about1.status = .running := rfl
set_option maxRecDepth 65536 in
theorem w_room : about1.hasRoom e0.platform room_1 = true :=
  launch0.hasRoom_least _ room_1 (by decide +kernel) (by decide +kernel) (by decide +kernel) (by decide +kernel) (by decide +kernel) (by decide +kernel)
theorem allAtoms_all (ts : List Jvm.Cond) (a : Array Jvm.Value) (st : Jvm.State) : (allAtoms ts).before a st = ts.all (fun c => c.before a st) := by
  induction ts with
  | nil => rfl
  | cons c t ih =>
    show (Jvm.Cond.and c (allAtoms t)).before a st = _
    rw [Jvm.Cond.before_and, ih, List.all_cons]
def words1 : List Jvm.Cond := Jvm.Cond.code x code maxLocals ret :: tables_1
/-- a 'code' word, met by the world's own term for the bytes: nothing is compared byte by byte -/
theorem code_word {y : MethodName} {bytes : ByteArray} {mx : Nat} {rt : Option FieldType} {a : Array Value} {s : State} {m : MethodId} {meth : Method} {c : Code} (h1 : s.methodNamed? y = some m) (h2 : s.vm.method? m = some meth) (h3 : meth.code = some c) (h4 : c.code = bytes)
    (h5 : (c.maxLocals == mx && c.exceptionTable.isEmpty && decide (c.maxStack ≤ mostOperands) && decide (meth.sig.returnType = rt) && !meth.locks && decide (parseMethodDescriptor y.desc = some meth.sig)) = true) : (Jvm.Cond.code y bytes mx rt).before a s = true := by
  simp only [Bool.and_eq_true, beq_iff_eq, Bool.not_eq_true', decide_eq_true_eq] at h5
  obtain ⟨⟨⟨⟨⟨g1, g2⟩, g3⟩, g4⟩, g5⟩, g6⟩ := h5
  simp [Cond.before, Cond.holds, Cond.value, h1, h2, h3, h4, g1, g2, g3, g4, g5, g6]
def isCode : Jvm.Cond → Bool
  | .code _ _ _ _ => true
  | _ => false
theorem all_split {L : List Jvm.Cond} {P : Jvm.Cond → Bool} (h1 : L.all (fun c => isCode c || P c) = true) (h2 : ∀ c ∈ L.filter isCode, P c = true) : L.all P = true := by
  refine List.all_eq_true.mpr fun c hc => ?_
  have h := List.all_eq_true.mp h1 c hc
  rcases Bool.eq_false_or_eq_true (isCode c) with hi | hi
  · exact h2 c (List.mem_filter.mpr ⟨hc, hi⟩)
  · simpa [hi] using h
set_option maxRecDepth 65536 in
theorem w_c0 : (Jvm.Cond.code x code maxLocals ret).before args0 about1 = true := code_word (m := ⟨1, 2⟩) (meth := k1m2) (c := k1c2) (by decide +kernel) rfl rfl rfl (by decide +kernel)
set_option maxRecDepth 65536 in
theorem w_c1 : (Jvm.Cond.code ({ cls := "com/example/moothall/moothall/model/CountersNextPinLaw", name := "pick", desc := "(IJ)J" } : Jvm.MethodName) method_2_code (6 : Nat) (Option.some Jvm.ClassFile.FieldType.long)).before args0 about1 = true := code_word (m := ⟨1, 1⟩) (meth := k1m1) (c := k1c1) (by decide +kernel) rfl rfl rfl (by decide +kernel)
set_option maxRecDepth 65536 in
theorem w_c2 : (Jvm.Cond.code ({ cls := "com/example/moothall/moothall/model/Counters", name := "next", desc := "(J)J" } : Jvm.MethodName) prog_24_method_5_code (2 : Nat) (Option.some Jvm.ClassFile.FieldType.long)).before args0 about1 = true := code_word (m := ⟨2, 1⟩) (meth := k2m1) (c := k2c1) (by decide +kernel) rfl rfl rfl (by decide +kernel)
def codes1 : List Jvm.Cond := [Jvm.Cond.code x code maxLocals ret, Jvm.Cond.code ({ cls := "com/example/moothall/moothall/model/CountersNextPinLaw", name := "pick", desc := "(IJ)J" } : Jvm.MethodName) method_2_code (6 : Nat) (Option.some Jvm.ClassFile.FieldType.long), Jvm.Cond.code ({ cls := "com/example/moothall/moothall/model/Counters", name := "next", desc := "(J)J" } : Jvm.MethodName) prog_24_method_5_code (2 : Nat) (Option.some Jvm.ClassFile.FieldType.long)]
set_option maxRecDepth 65536 in
theorem codes_eq : words1.filter isCode = codes1 := rfl
theorem w_codes : ∀ c ∈ words1.filter isCode, c.before args0 about1 = true := by
  rw [codes_eq]
  intro c hc
  simp only [codes1, List.mem_cons, List.not_mem_nil, or_false] at hc
  rcases hc with rfl | rfl | rfl
  · exact w_c0
  · exact w_c1
  · exact w_c2
set_option maxRecDepth 65536 in
theorem w_t1 : words1.all (fun c => isCode c || c.before args0 about1) = true := by decide +kernel
theorem w_tables : (allAtoms (Jvm.Cond.code x code maxLocals ret :: tables_1)).before args0 about1 = true := by
  rw [allAtoms_all]
  show words1.all (fun c => c.before args0 about1) = true
  refine all_split ?_ w_codes
  rw [w_t1]
set_option maxRecDepth 65536 in
theorem w_case : (Jvm.Cond.and given_1 narrow_1).before args0 about1 = true := by decide +kernel
theorem w_applies : (headSpec (Jvm.Cond.code x code maxLocals ret :: tables_1) room_1).applies x e0.platform about1 = true :=
  (Spec.applies_iff w_frames).mpr ⟨w_running, w_runnable, w_alone, w_named, w_hears, w_ripe, w_room, w_tables⟩
theorem atStart : AtStart classFile x code maxLocals ret World_1 tables_1 room_1 Calls_1 rest_1 Pre_1 launch0 p0 e0 about1 theMethod args0 below0 :=
  ⟨lists_1, trivial, launch0.admits_env _ _ _, launch0.least_env, fairChoices_fair.cas, fairChoices_fair.clock, w_frames, w_args, w_heap, w_applies, trivial, trivial, w_case⟩
end start1
theorem witness_1 : WitnessClaimed_1 := ⟨start1.p0, start1.e0, start1.about1, start1.theMethod, start1.args0, start1.below0, start1.atStart⟩
end Jvm.Pilot.@@N@@

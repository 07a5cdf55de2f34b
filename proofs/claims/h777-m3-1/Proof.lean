import JvmDerived
import JvmDerived.Pilot.@@N@@Statement
import JvmDerived.Pilot.@@N@@Code
set_option linter.unusedVariables false
set_option linter.unusedSimpArgs false
namespace Jvm.RoadKit
open Sem ClassFile Op Lib Jvm.Stand Jvm.Free Jvm.LawKit
section New
variable {p : Program} {l : Launch} {e : Env} {R : Room} {s : State} {m : MethodId} {args : Array Value} {below : List Frame} {meth : Method} {c : Code} {T : State} {locs : List Loc} {cells slots : Nat}
theorem retI (X : Stand p l e R s m args below meth c T locs cells slots) (hx : p.tables.exec = Jvm.exec) {pc : Nat} {Ls : Array Slot} {z : Int32} {rest : List Value} (hret : meth.sig.returnType = some .int) (hd : decode c.code pc = .ok (.ireturn, 1)) {fs : List Frame}
    (hl : ∀ (f : JFrame) (acts : List Action), f.method = m → f.locked = none → f.entered = [] → (doReturn e (T.setTop f) acts (some (.int z))).1 = T.setFrames fs) : Steps p.tables e below (T.setTop (mkF m pc Ls (.int z :: rest))) (T.setFrames fs) := by
  have hm' : T.vm.method? m = some meth := X.method'
  have hn : narrow .int (.int z) = .int z := rfl
  show Steps p.tables e below (T.setTop { method := m, pc := pc, locals := Ls, stack := _ :: rest, locked := none }) _
  jvm_step X.here [X.here.top, hx, hd, hm', hret, hn]
  first | (intro acts; rw [hl _ acts rfl rfl rfl]) | rw [hl _ _ rfl rfl rfl]
  exact Steps.refl _
end New
end Jvm.RoadKit
namespace Jvm.Pilot.@@N@@
open Jvm Jvm.ClassFile Sem Op Lib Jvm.Free Jvm.Stand Jvm.LawKit Jvm.RoadKit Bundle Jvm.Pilot.@@N@@.Jvm.D
theorem pn_0 : plainName "com/example/libinterp/libinterp/SelectorScanReadPinLaw" = true := by first | (simp [plainName, overriddenIn]; done) | decide +kernel
theorem d1_0 : decode method_2_code 0 = .ok (.iload_n 0, 1) := by decide +kernel
theorem d1_1 : decode method_2_code 1 = .ok (.bipush 7, 2) := by decide +kernel
theorem d1_3 : decode method_2_code 3 = .ok (.iand, 1) := by decide +kernel
theorem d1_4 : decode method_2_code 4 = .ok (.istore_n 1, 1) := by decide +kernel
theorem d1_5 : decode method_2_code 5 = .ok (.iload_n 1, 1) := by decide +kernel
theorem d1_6 : decode method_2_code 6 = .ok (.ifCond .ne 9, 3) := by decide +kernel
theorem d1_9 : decode method_2_code 9 = .ok (.bipush 93, 2) := by decide +kernel
theorem d1_11 : decode method_2_code 11 = .ok (.istore_n 2, 1) := by decide +kernel
theorem d1_12 : decode method_2_code 12 = .ok (.goto 52, 3) := by decide +kernel
theorem d1_15 : decode method_2_code 15 = .ok (.iload_n 1, 1) := by decide +kernel
theorem d1_16 : decode method_2_code 16 = .ok (.iconst 1, 1) := by decide +kernel
theorem d1_17 : decode method_2_code 17 = .ok (.if_icmp .ne 9, 3) := by decide +kernel
theorem d1_20 : decode method_2_code 20 = .ok (.bipush 39, 2) := by decide +kernel
theorem d1_22 : decode method_2_code 22 = .ok (.istore_n 2, 1) := by decide +kernel
theorem d1_23 : decode method_2_code 23 = .ok (.goto 41, 3) := by decide +kernel
theorem d1_26 : decode method_2_code 26 = .ok (.iload_n 1, 1) := by decide +kernel
theorem d1_27 : decode method_2_code 27 = .ok (.iconst 2, 1) := by decide +kernel
theorem d1_28 : decode method_2_code 28 = .ok (.if_icmp .ne 9, 3) := by decide +kernel
theorem d1_31 : decode method_2_code 31 = .ok (.bipush 34, 2) := by decide +kernel
theorem d1_33 : decode method_2_code 33 = .ok (.istore_n 2, 1) := by decide +kernel
theorem d1_34 : decode method_2_code 34 = .ok (.goto 30, 3) := by decide +kernel
theorem d1_37 : decode method_2_code 37 = .ok (.iload_n 1, 1) := by decide +kernel
theorem d1_38 : decode method_2_code 38 = .ok (.iconst 3, 1) := by decide +kernel
theorem d1_39 : decode method_2_code 39 = .ok (.if_icmp .ne 9, 3) := by decide +kernel
theorem d1_42 : decode method_2_code 42 = .ok (.bipush 92, 2) := by decide +kernel
theorem d1_44 : decode method_2_code 44 = .ok (.istore_n 2, 1) := by decide +kernel
theorem d1_45 : decode method_2_code 45 = .ok (.goto 19, 3) := by decide +kernel
theorem d1_48 : decode method_2_code 48 = .ok (.iload_n 1, 1) := by decide +kernel
theorem d1_49 : decode method_2_code 49 = .ok (.iconst 4, 1) := by decide +kernel
theorem d1_50 : decode method_2_code 50 = .ok (.if_icmp .ne 9, 3) := by decide +kernel
theorem d1_53 : decode method_2_code 53 = .ok (.bipush 91, 2) := by decide +kernel
theorem d1_55 : decode method_2_code 55 = .ok (.istore_n 2, 1) := by decide +kernel
theorem d1_56 : decode method_2_code 56 = .ok (.goto 8, 3) := by decide +kernel
theorem d1_59 : decode method_2_code 59 = .ok (.iload_n 0, 1) := by decide +kernel
theorem d1_60 : decode method_2_code 60 = .ok (.iconst 3, 1) := by decide +kernel
theorem d1_61 : decode method_2_code 61 = .ok (.iushr, 1) := by decide +kernel
theorem d1_62 : decode method_2_code 62 = .ok (.i2c, 1) := by decide +kernel
theorem d1_63 : decode method_2_code 63 = .ok (.istore_n 2, 1) := by decide +kernel
theorem d1_64 : decode method_2_code 64 = .ok (.iload_n 2, 1) := by decide +kernel
theorem d1_65 : decode method_2_code 65 = .ok (.ireturn, 1) := by decide +kernel
theorem ef_1 (m : MethodId) (x0 : Int32) : entryFrame m #[(.int x0)] 3 = mkF m 0 #[.val (.int x0), .unset, .unset] [] := by first | (simp [entryFrame, mkF, argsToLocals, Value.category]; done) | rfl
def f1_e1 (p0 : Int32) : Int32 := (((p0.toUInt32 >>> ((3 : Int32) &&& 31).toUInt32).toInt32).toUInt32.toUInt16.toUInt32.toInt32)
def f1_l2_64001 (p0 : Int32) : Int32 := (if (p0 &&& (7 : Int32)) = (0 : Int32) then (93 : Int32) else (if (p0 &&& (7 : Int32)) = (1 : Int32) then (39 : Int32) else (if (p0 &&& (7 : Int32)) = (2 : Int32) then (34 : Int32) else (if (p0 &&& (7 : Int32)) = (3 : Int32) then (92 : Int32) else (if (p0 &&& (7 : Int32)) = (4 : Int32) then (91 : Int32) else (f1_e1 p0))))))
def f1 (p0 : Int32) : Int32 := ((f1_l2_64001 p0).toUInt32.toUInt16.toUInt32.toInt32)
def Q1 (Z : State) (p0 : Int32) (h0 : Heap) (n0 : Nat) (v : Option Value) (h : Heap) (L : List Loc) : Prop := v = some (.int (f1 p0)) ∧ Fr n0 L ∧ h = h0
set_option maxRecDepth 65536 in
set_option maxHeartbeats 40000000 in
theorem rm1 (l : Launch) (Z : State) (a0 : Array Value) (hw : ∀ d ∈ tables_1, d.before a0 Z = true) (ws : List Jvm.Cond) (p0 : Int32) (h0 : Heap) (n0 : Nat) (Z0 : n0 ≤ h0.size)  :
    MetFree l (⟨"com/example/libinterp/libinterp/SelectorScanReadPinLaw", "pick", "(I)C"⟩ : MethodName) (head1 (Jvm.Cond.code (⟨"com/example/libinterp/libinterp/SelectorScanReadPinLaw", "pick", "(I)C"⟩ : MethodName) method_2_code 3 (some .char) :: ws) ({ frames := 0, cells := 0, slots := 0, locals := 0 } : Room)) (fun a U => a = #[(.int p0)] ∧ Z.Warmed39 U.vm ∧ U.heap = h0) (fun _ _ _ _ _ => True) (fun _ U o U' => ∃ v L, o = .returned v ∧ Q1 Z p0 h0 n0 v U'.heap L ∧ FrameEnd U o U' L ({ frames := 0, cells := 0, slots := 0, locals := 0 } : Room).cells ({ frames := 0, cells := 0, slots := 0, locals := 0 } : Room).slots) := by
  refine MetFree.of_bodySF (plainFor_of_name pn_0) hisR ?_
  intro p e s m args below meth c s₁ Bd hml0 hP hK
  obtain ⟨rfl, hZ, hh⟩ := hP
  have hx := Bd.exec
  have hby := Bd.bytes
  have hml : c.maxLocals = 3 := hml0
  have hown : s.vm.findClass "com/example/libinterp/libinterp/SelectorScanReadPinLaw" = some m.cls := findClass_of_methodNamed Bd.named
  have hnm := (name_of_methodNamed Bd.named Bd.method).1
  have X0 : Stand p l e ({ frames := 0, cells := 0, slots := 0, locals := 0 } : Room) s m #[(.int p0)] below meth c s₁ [] 0 0 := Stand.of_body Bd
  have e0 : s₁.heap = h0 := by rw [← hh, Bd.state]; rfl
  have N0 := Fr.nil n0
  have K0 := Keep.refl h0 []
  have pre0 : ∀ t, Steps p.tables e below (s₁.setTop (mkF m 0 #[.val (.int p0), .unset, .unset] [])) t → Steps p.tables e below (s₁.setTop (entryFrame m #[(.int p0)] 3)) t := fun t k => castTop (ef_1 m p0) k
  have pre1 : ∀ t, Steps p.tables e below (s₁.setTop (mkF m 6 #[.val (.int p0), .val (.int (p0 &&& (7 : Int32))), .unset] [(.int (p0 &&& (7 : Int32)))])) t → Steps p.tables e below (s₁.setTop (entryFrame m #[(.int p0)] 3)) t := fun t kt => pre0 t (by
    show Steps p.tables e below (s₁.setTop (mkF m 0 #[.val (.int p0), .unset, .unset] [])) _
    refine XS.iloadN X0.here hx rfl (hb hby d1_0) rfl ?_
    show Steps p.tables e below (s₁.setTop (mkF m 1 #[.val (.int p0), .unset, .unset] [(.int p0)])) _
    refine XS.bipush X0.here hx rfl (hb hby d1_1) ?_
    show Steps p.tables e below (s₁.setTop (mkF m 3 #[.val (.int p0), .unset, .unset] [(.int (7 : Int32)), (.int p0)])) _
    refine XS.iand X0.here hx rfl (hb hby d1_3) rfl ?_
    show Steps p.tables e below (s₁.setTop (mkF m 4 #[.val (.int p0), .unset, .unset] [(.int (p0 &&& (7 : Int32)))])) _
    refine XS.istoreN X0.here hx rfl (hb hby d1_4) rfl (l' := #[.val (.int p0), .val (.int (p0 &&& (7 : Int32))), .unset]) rfl ?_
    show Steps p.tables e below (s₁.setTop (mkF m 5 #[.val (.int p0), .val (.int (p0 &&& (7 : Int32))), .unset] [])) _
    refine XS.iloadN X0.here hx rfl (hb hby d1_5) rfl ?_
    exact kt)
  have pre7 : ∀ t, Steps p.tables e below (s₁.setTop (mkF m 64 #[.val (.int p0), .val (.int (p0 &&& (7 : Int32))), .val (.int (f1_l2_64001 p0))] [])) t → Steps p.tables e below (s₁.setTop (entryFrame m #[(.int p0)] 3)) t := by
    intro t kt
    by_cases hc2 : (p0 &&& (7 : Int32)) = (0 : Int32)
    · have hj : (f1_l2_64001 p0) = (93 : Int32) := by unfold f1_l2_64001; rw [if_pos hc2]
      rw [hj] at kt
      refine pre1 t ?_
      show Steps p.tables e below (s₁.setTop (mkF m 6 #[.val (.int p0), .val (.int (p0 &&& (7 : Int32))), .unset] [(.int (p0 &&& (7 : Int32)))])) _
      refine XS.ifNo X0.here hx rfl (hb hby d1_6) rfl ((if0 _ _).trans (teq hc2).2) ?_
      show Steps p.tables e below (s₁.setTop (mkF m 9 #[.val (.int p0), .val (.int (p0 &&& (7 : Int32))), .unset] [])) _
      refine XS.bipush X0.here hx rfl (hb hby d1_9) ?_
      show Steps p.tables e below (s₁.setTop (mkF m 11 #[.val (.int p0), .val (.int (p0 &&& (7 : Int32))), .unset] [(.int (93 : Int32))])) _
      refine XS.istoreN X0.here hx rfl (hb hby d1_11) rfl (l' := #[.val (.int p0), .val (.int (p0 &&& (7 : Int32))), .val (.int (93 : Int32))]) rfl ?_
      show Steps p.tables e below (s₁.setTop (mkF m 12 #[.val (.int p0), .val (.int (p0 &&& (7 : Int32))), .val (.int (93 : Int32))] [])) _
      refine XS.goto X0.here hx rfl (pc0 := 12) (pc' := 64) rfl (hb hby d1_12) (by decide) (by decide) ?_
      exact kt
    · by_cases hc3 : (p0 &&& (7 : Int32)) = (1 : Int32)
      · have hj : (f1_l2_64001 p0) = (39 : Int32) := by unfold f1_l2_64001; rw [if_neg hc2, if_pos hc3]
        rw [hj] at kt
        refine pre1 t ?_
        show Steps p.tables e below (s₁.setTop (mkF m 6 #[.val (.int p0), .val (.int (p0 &&& (7 : Int32))), .unset] [(.int (p0 &&& (7 : Int32)))])) _
        refine XS.ifYes X0.here hx rfl (pc0 := 6) (pc' := 15) rfl (hb hby d1_6) rfl ((if0 _ _).trans (feq hc2).2) (by decide) (by decide) ?_
        show Steps p.tables e below (s₁.setTop (mkF m 15 #[.val (.int p0), .val (.int (p0 &&& (7 : Int32))), .unset] [])) _
        refine XS.iloadN X0.here hx rfl (hb hby d1_15) rfl ?_
        show Steps p.tables e below (s₁.setTop (mkF m 16 #[.val (.int p0), .val (.int (p0 &&& (7 : Int32))), .unset] [(.int (p0 &&& (7 : Int32)))])) _
        refine XS.iconst X0.here hx rfl (hb hby d1_16) ?_
        show Steps p.tables e below (s₁.setTop (mkF m 17 #[.val (.int p0), .val (.int (p0 &&& (7 : Int32))), .unset] [(.int (1 : Int32)), (.int (p0 &&& (7 : Int32)))])) _
        refine XS.icmpNo X0.here hx rfl (hb hby d1_17) rfl (teq hc3).2 ?_
        show Steps p.tables e below (s₁.setTop (mkF m 20 #[.val (.int p0), .val (.int (p0 &&& (7 : Int32))), .unset] [])) _
        refine XS.bipush X0.here hx rfl (hb hby d1_20) ?_
        show Steps p.tables e below (s₁.setTop (mkF m 22 #[.val (.int p0), .val (.int (p0 &&& (7 : Int32))), .unset] [(.int (39 : Int32))])) _
        refine XS.istoreN X0.here hx rfl (hb hby d1_22) rfl (l' := #[.val (.int p0), .val (.int (p0 &&& (7 : Int32))), .val (.int (39 : Int32))]) rfl ?_
        show Steps p.tables e below (s₁.setTop (mkF m 23 #[.val (.int p0), .val (.int (p0 &&& (7 : Int32))), .val (.int (39 : Int32))] [])) _
        refine XS.goto X0.here hx rfl (pc0 := 23) (pc' := 64) rfl (hb hby d1_23) (by decide) (by decide) ?_
        exact kt
      · by_cases hc4 : (p0 &&& (7 : Int32)) = (2 : Int32)
        · have hj : (f1_l2_64001 p0) = (34 : Int32) := by unfold f1_l2_64001; rw [if_neg hc2, if_neg hc3, if_pos hc4]
          rw [hj] at kt
          refine pre1 t ?_
          show Steps p.tables e below (s₁.setTop (mkF m 6 #[.val (.int p0), .val (.int (p0 &&& (7 : Int32))), .unset] [(.int (p0 &&& (7 : Int32)))])) _
          refine XS.ifYes X0.here hx rfl (pc0 := 6) (pc' := 15) rfl (hb hby d1_6) rfl ((if0 _ _).trans (feq hc2).2) (by decide) (by decide) ?_
          show Steps p.tables e below (s₁.setTop (mkF m 15 #[.val (.int p0), .val (.int (p0 &&& (7 : Int32))), .unset] [])) _
          refine XS.iloadN X0.here hx rfl (hb hby d1_15) rfl ?_
          show Steps p.tables e below (s₁.setTop (mkF m 16 #[.val (.int p0), .val (.int (p0 &&& (7 : Int32))), .unset] [(.int (p0 &&& (7 : Int32)))])) _
          refine XS.iconst X0.here hx rfl (hb hby d1_16) ?_
          show Steps p.tables e below (s₁.setTop (mkF m 17 #[.val (.int p0), .val (.int (p0 &&& (7 : Int32))), .unset] [(.int (1 : Int32)), (.int (p0 &&& (7 : Int32)))])) _
          refine XS.icmpYes X0.here hx rfl (pc0 := 17) (pc' := 26) rfl (hb hby d1_17) rfl (feq hc3).2 (by decide) (by decide) ?_
          show Steps p.tables e below (s₁.setTop (mkF m 26 #[.val (.int p0), .val (.int (p0 &&& (7 : Int32))), .unset] [])) _
          refine XS.iloadN X0.here hx rfl (hb hby d1_26) rfl ?_
          show Steps p.tables e below (s₁.setTop (mkF m 27 #[.val (.int p0), .val (.int (p0 &&& (7 : Int32))), .unset] [(.int (p0 &&& (7 : Int32)))])) _
          refine XS.iconst X0.here hx rfl (hb hby d1_27) ?_
          show Steps p.tables e below (s₁.setTop (mkF m 28 #[.val (.int p0), .val (.int (p0 &&& (7 : Int32))), .unset] [(.int (2 : Int32)), (.int (p0 &&& (7 : Int32)))])) _
          refine XS.icmpNo X0.here hx rfl (hb hby d1_28) rfl (teq hc4).2 ?_
          show Steps p.tables e below (s₁.setTop (mkF m 31 #[.val (.int p0), .val (.int (p0 &&& (7 : Int32))), .unset] [])) _
          refine XS.bipush X0.here hx rfl (hb hby d1_31) ?_
          show Steps p.tables e below (s₁.setTop (mkF m 33 #[.val (.int p0), .val (.int (p0 &&& (7 : Int32))), .unset] [(.int (34 : Int32))])) _
          refine XS.istoreN X0.here hx rfl (hb hby d1_33) rfl (l' := #[.val (.int p0), .val (.int (p0 &&& (7 : Int32))), .val (.int (34 : Int32))]) rfl ?_
          show Steps p.tables e below (s₁.setTop (mkF m 34 #[.val (.int p0), .val (.int (p0 &&& (7 : Int32))), .val (.int (34 : Int32))] [])) _
          refine XS.goto X0.here hx rfl (pc0 := 34) (pc' := 64) rfl (hb hby d1_34) (by decide) (by decide) ?_
          exact kt
        · by_cases hc5 : (p0 &&& (7 : Int32)) = (3 : Int32)
          · have hj : (f1_l2_64001 p0) = (92 : Int32) := by unfold f1_l2_64001; rw [if_neg hc2, if_neg hc3, if_neg hc4, if_pos hc5]
            rw [hj] at kt
            refine pre1 t ?_
            show Steps p.tables e below (s₁.setTop (mkF m 6 #[.val (.int p0), .val (.int (p0 &&& (7 : Int32))), .unset] [(.int (p0 &&& (7 : Int32)))])) _
            refine XS.ifYes X0.here hx rfl (pc0 := 6) (pc' := 15) rfl (hb hby d1_6) rfl ((if0 _ _).trans (feq hc2).2) (by decide) (by decide) ?_
            show Steps p.tables e below (s₁.setTop (mkF m 15 #[.val (.int p0), .val (.int (p0 &&& (7 : Int32))), .unset] [])) _
            refine XS.iloadN X0.here hx rfl (hb hby d1_15) rfl ?_
            show Steps p.tables e below (s₁.setTop (mkF m 16 #[.val (.int p0), .val (.int (p0 &&& (7 : Int32))), .unset] [(.int (p0 &&& (7 : Int32)))])) _
            refine XS.iconst X0.here hx rfl (hb hby d1_16) ?_
            show Steps p.tables e below (s₁.setTop (mkF m 17 #[.val (.int p0), .val (.int (p0 &&& (7 : Int32))), .unset] [(.int (1 : Int32)), (.int (p0 &&& (7 : Int32)))])) _
            refine XS.icmpYes X0.here hx rfl (pc0 := 17) (pc' := 26) rfl (hb hby d1_17) rfl (feq hc3).2 (by decide) (by decide) ?_
            show Steps p.tables e below (s₁.setTop (mkF m 26 #[.val (.int p0), .val (.int (p0 &&& (7 : Int32))), .unset] [])) _
            refine XS.iloadN X0.here hx rfl (hb hby d1_26) rfl ?_
            show Steps p.tables e below (s₁.setTop (mkF m 27 #[.val (.int p0), .val (.int (p0 &&& (7 : Int32))), .unset] [(.int (p0 &&& (7 : Int32)))])) _
            refine XS.iconst X0.here hx rfl (hb hby d1_27) ?_
            show Steps p.tables e below (s₁.setTop (mkF m 28 #[.val (.int p0), .val (.int (p0 &&& (7 : Int32))), .unset] [(.int (2 : Int32)), (.int (p0 &&& (7 : Int32)))])) _
            refine XS.icmpYes X0.here hx rfl (pc0 := 28) (pc' := 37) rfl (hb hby d1_28) rfl (feq hc4).2 (by decide) (by decide) ?_
            show Steps p.tables e below (s₁.setTop (mkF m 37 #[.val (.int p0), .val (.int (p0 &&& (7 : Int32))), .unset] [])) _
            refine XS.iloadN X0.here hx rfl (hb hby d1_37) rfl ?_
            show Steps p.tables e below (s₁.setTop (mkF m 38 #[.val (.int p0), .val (.int (p0 &&& (7 : Int32))), .unset] [(.int (p0 &&& (7 : Int32)))])) _
            refine XS.iconst X0.here hx rfl (hb hby d1_38) ?_
            show Steps p.tables e below (s₁.setTop (mkF m 39 #[.val (.int p0), .val (.int (p0 &&& (7 : Int32))), .unset] [(.int (3 : Int32)), (.int (p0 &&& (7 : Int32)))])) _
            refine XS.icmpNo X0.here hx rfl (hb hby d1_39) rfl (teq hc5).2 ?_
            show Steps p.tables e below (s₁.setTop (mkF m 42 #[.val (.int p0), .val (.int (p0 &&& (7 : Int32))), .unset] [])) _
            refine XS.bipush X0.here hx rfl (hb hby d1_42) ?_
            show Steps p.tables e below (s₁.setTop (mkF m 44 #[.val (.int p0), .val (.int (p0 &&& (7 : Int32))), .unset] [(.int (92 : Int32))])) _
            refine XS.istoreN X0.here hx rfl (hb hby d1_44) rfl (l' := #[.val (.int p0), .val (.int (p0 &&& (7 : Int32))), .val (.int (92 : Int32))]) rfl ?_
            show Steps p.tables e below (s₁.setTop (mkF m 45 #[.val (.int p0), .val (.int (p0 &&& (7 : Int32))), .val (.int (92 : Int32))] [])) _
            refine XS.goto X0.here hx rfl (pc0 := 45) (pc' := 64) rfl (hb hby d1_45) (by decide) (by decide) ?_
            exact kt
          · by_cases hc6 : (p0 &&& (7 : Int32)) = (4 : Int32)
            · have hj : (f1_l2_64001 p0) = (91 : Int32) := by unfold f1_l2_64001; rw [if_neg hc2, if_neg hc3, if_neg hc4, if_neg hc5, if_pos hc6]
              rw [hj] at kt
              refine pre1 t ?_
              show Steps p.tables e below (s₁.setTop (mkF m 6 #[.val (.int p0), .val (.int (p0 &&& (7 : Int32))), .unset] [(.int (p0 &&& (7 : Int32)))])) _
              refine XS.ifYes X0.here hx rfl (pc0 := 6) (pc' := 15) rfl (hb hby d1_6) rfl ((if0 _ _).trans (feq hc2).2) (by decide) (by decide) ?_
              show Steps p.tables e below (s₁.setTop (mkF m 15 #[.val (.int p0), .val (.int (p0 &&& (7 : Int32))), .unset] [])) _
              refine XS.iloadN X0.here hx rfl (hb hby d1_15) rfl ?_
              show Steps p.tables e below (s₁.setTop (mkF m 16 #[.val (.int p0), .val (.int (p0 &&& (7 : Int32))), .unset] [(.int (p0 &&& (7 : Int32)))])) _
              refine XS.iconst X0.here hx rfl (hb hby d1_16) ?_
              show Steps p.tables e below (s₁.setTop (mkF m 17 #[.val (.int p0), .val (.int (p0 &&& (7 : Int32))), .unset] [(.int (1 : Int32)), (.int (p0 &&& (7 : Int32)))])) _
              refine XS.icmpYes X0.here hx rfl (pc0 := 17) (pc' := 26) rfl (hb hby d1_17) rfl (feq hc3).2 (by decide) (by decide) ?_
              show Steps p.tables e below (s₁.setTop (mkF m 26 #[.val (.int p0), .val (.int (p0 &&& (7 : Int32))), .unset] [])) _
              refine XS.iloadN X0.here hx rfl (hb hby d1_26) rfl ?_
              show Steps p.tables e below (s₁.setTop (mkF m 27 #[.val (.int p0), .val (.int (p0 &&& (7 : Int32))), .unset] [(.int (p0 &&& (7 : Int32)))])) _
              refine XS.iconst X0.here hx rfl (hb hby d1_27) ?_
              show Steps p.tables e below (s₁.setTop (mkF m 28 #[.val (.int p0), .val (.int (p0 &&& (7 : Int32))), .unset] [(.int (2 : Int32)), (.int (p0 &&& (7 : Int32)))])) _
              refine XS.icmpYes X0.here hx rfl (pc0 := 28) (pc' := 37) rfl (hb hby d1_28) rfl (feq hc4).2 (by decide) (by decide) ?_
              show Steps p.tables e below (s₁.setTop (mkF m 37 #[.val (.int p0), .val (.int (p0 &&& (7 : Int32))), .unset] [])) _
              refine XS.iloadN X0.here hx rfl (hb hby d1_37) rfl ?_
              show Steps p.tables e below (s₁.setTop (mkF m 38 #[.val (.int p0), .val (.int (p0 &&& (7 : Int32))), .unset] [(.int (p0 &&& (7 : Int32)))])) _
              refine XS.iconst X0.here hx rfl (hb hby d1_38) ?_
              show Steps p.tables e below (s₁.setTop (mkF m 39 #[.val (.int p0), .val (.int (p0 &&& (7 : Int32))), .unset] [(.int (3 : Int32)), (.int (p0 &&& (7 : Int32)))])) _
              refine XS.icmpYes X0.here hx rfl (pc0 := 39) (pc' := 48) rfl (hb hby d1_39) rfl (feq hc5).2 (by decide) (by decide) ?_
              show Steps p.tables e below (s₁.setTop (mkF m 48 #[.val (.int p0), .val (.int (p0 &&& (7 : Int32))), .unset] [])) _
              refine XS.iloadN X0.here hx rfl (hb hby d1_48) rfl ?_
              show Steps p.tables e below (s₁.setTop (mkF m 49 #[.val (.int p0), .val (.int (p0 &&& (7 : Int32))), .unset] [(.int (p0 &&& (7 : Int32)))])) _
              refine XS.iconst X0.here hx rfl (hb hby d1_49) ?_
              show Steps p.tables e below (s₁.setTop (mkF m 50 #[.val (.int p0), .val (.int (p0 &&& (7 : Int32))), .unset] [(.int (4 : Int32)), (.int (p0 &&& (7 : Int32)))])) _
              refine XS.icmpNo X0.here hx rfl (hb hby d1_50) rfl (teq hc6).2 ?_
              show Steps p.tables e below (s₁.setTop (mkF m 53 #[.val (.int p0), .val (.int (p0 &&& (7 : Int32))), .unset] [])) _
              refine XS.bipush X0.here hx rfl (hb hby d1_53) ?_
              show Steps p.tables e below (s₁.setTop (mkF m 55 #[.val (.int p0), .val (.int (p0 &&& (7 : Int32))), .unset] [(.int (91 : Int32))])) _
              refine XS.istoreN X0.here hx rfl (hb hby d1_55) rfl (l' := #[.val (.int p0), .val (.int (p0 &&& (7 : Int32))), .val (.int (91 : Int32))]) rfl ?_
              show Steps p.tables e below (s₁.setTop (mkF m 56 #[.val (.int p0), .val (.int (p0 &&& (7 : Int32))), .val (.int (91 : Int32))] [])) _
              refine XS.goto X0.here hx rfl (pc0 := 56) (pc' := 64) rfl (hb hby d1_56) (by decide) (by decide) ?_
              exact kt
            · have hj : (f1_l2_64001 p0) = (f1_e1 p0) := by unfold f1_l2_64001; rw [if_neg hc2, if_neg hc3, if_neg hc4, if_neg hc5, if_neg hc6]
              rw [hj] at kt
              refine pre1 t ?_
              show Steps p.tables e below (s₁.setTop (mkF m 6 #[.val (.int p0), .val (.int (p0 &&& (7 : Int32))), .unset] [(.int (p0 &&& (7 : Int32)))])) _
              refine XS.ifYes X0.here hx rfl (pc0 := 6) (pc' := 15) rfl (hb hby d1_6) rfl ((if0 _ _).trans (feq hc2).2) (by decide) (by decide) ?_
              show Steps p.tables e below (s₁.setTop (mkF m 15 #[.val (.int p0), .val (.int (p0 &&& (7 : Int32))), .unset] [])) _
              refine XS.iloadN X0.here hx rfl (hb hby d1_15) rfl ?_
              show Steps p.tables e below (s₁.setTop (mkF m 16 #[.val (.int p0), .val (.int (p0 &&& (7 : Int32))), .unset] [(.int (p0 &&& (7 : Int32)))])) _
              refine XS.iconst X0.here hx rfl (hb hby d1_16) ?_
              show Steps p.tables e below (s₁.setTop (mkF m 17 #[.val (.int p0), .val (.int (p0 &&& (7 : Int32))), .unset] [(.int (1 : Int32)), (.int (p0 &&& (7 : Int32)))])) _
              refine XS.icmpYes X0.here hx rfl (pc0 := 17) (pc' := 26) rfl (hb hby d1_17) rfl (feq hc3).2 (by decide) (by decide) ?_
              show Steps p.tables e below (s₁.setTop (mkF m 26 #[.val (.int p0), .val (.int (p0 &&& (7 : Int32))), .unset] [])) _
              refine XS.iloadN X0.here hx rfl (hb hby d1_26) rfl ?_
              show Steps p.tables e below (s₁.setTop (mkF m 27 #[.val (.int p0), .val (.int (p0 &&& (7 : Int32))), .unset] [(.int (p0 &&& (7 : Int32)))])) _
              refine XS.iconst X0.here hx rfl (hb hby d1_27) ?_
              show Steps p.tables e below (s₁.setTop (mkF m 28 #[.val (.int p0), .val (.int (p0 &&& (7 : Int32))), .unset] [(.int (2 : Int32)), (.int (p0 &&& (7 : Int32)))])) _
              refine XS.icmpYes X0.here hx rfl (pc0 := 28) (pc' := 37) rfl (hb hby d1_28) rfl (feq hc4).2 (by decide) (by decide) ?_
              show Steps p.tables e below (s₁.setTop (mkF m 37 #[.val (.int p0), .val (.int (p0 &&& (7 : Int32))), .unset] [])) _
              refine XS.iloadN X0.here hx rfl (hb hby d1_37) rfl ?_
              show Steps p.tables e below (s₁.setTop (mkF m 38 #[.val (.int p0), .val (.int (p0 &&& (7 : Int32))), .unset] [(.int (p0 &&& (7 : Int32)))])) _
              refine XS.iconst X0.here hx rfl (hb hby d1_38) ?_
              show Steps p.tables e below (s₁.setTop (mkF m 39 #[.val (.int p0), .val (.int (p0 &&& (7 : Int32))), .unset] [(.int (3 : Int32)), (.int (p0 &&& (7 : Int32)))])) _
              refine XS.icmpYes X0.here hx rfl (pc0 := 39) (pc' := 48) rfl (hb hby d1_39) rfl (feq hc5).2 (by decide) (by decide) ?_
              show Steps p.tables e below (s₁.setTop (mkF m 48 #[.val (.int p0), .val (.int (p0 &&& (7 : Int32))), .unset] [])) _
              refine XS.iloadN X0.here hx rfl (hb hby d1_48) rfl ?_
              show Steps p.tables e below (s₁.setTop (mkF m 49 #[.val (.int p0), .val (.int (p0 &&& (7 : Int32))), .unset] [(.int (p0 &&& (7 : Int32)))])) _
              refine XS.iconst X0.here hx rfl (hb hby d1_49) ?_
              show Steps p.tables e below (s₁.setTop (mkF m 50 #[.val (.int p0), .val (.int (p0 &&& (7 : Int32))), .unset] [(.int (4 : Int32)), (.int (p0 &&& (7 : Int32)))])) _
              refine XS.icmpYes X0.here hx rfl (pc0 := 50) (pc' := 59) rfl (hb hby d1_50) rfl (feq hc6).2 (by decide) (by decide) ?_
              show Steps p.tables e below (s₁.setTop (mkF m 59 #[.val (.int p0), .val (.int (p0 &&& (7 : Int32))), .unset] [])) _
              refine XS.iloadN X0.here hx rfl (hb hby d1_59) rfl ?_
              show Steps p.tables e below (s₁.setTop (mkF m 60 #[.val (.int p0), .val (.int (p0 &&& (7 : Int32))), .unset] [(.int p0)])) _
              refine XS.iconst X0.here hx rfl (hb hby d1_60) ?_
              show Steps p.tables e below (s₁.setTop (mkF m 61 #[.val (.int p0), .val (.int (p0 &&& (7 : Int32))), .unset] [(.int (3 : Int32)), (.int p0)])) _
              refine XS.iushr X0.here hx rfl (hb hby d1_61) rfl ?_
              show Steps p.tables e below (s₁.setTop (mkF m 62 #[.val (.int p0), .val (.int (p0 &&& (7 : Int32))), .unset] [(.int ((p0.toUInt32 >>> ((3 : Int32) &&& 31).toUInt32).toInt32))])) _
              refine XS.i2c X0.here hx rfl (hb hby d1_62) rfl ?_
              show Steps p.tables e below (s₁.setTop (mkF m 63 #[.val (.int p0), .val (.int (p0 &&& (7 : Int32))), .unset] [(.int (f1_e1 p0))])) _
              refine XS.istoreN X0.here hx rfl (hb hby d1_63) rfl (l' := #[.val (.int p0), .val (.int (p0 &&& (7 : Int32))), .val (.int (f1_e1 p0))]) rfl ?_
              exact kt
  obtain ⟨fs, hr, hrun, hended, hW, hsame⟩ := X0.leave (v := some (.int ((f1_l2_64001 p0).toUInt32.toUInt16.toUInt32.toInt32))) (fun h => by rw [Bd.returns] at h; cases h)
  refine ⟨_, _, pre7 _ ?_, hrun, hended, _, _, rfl, ?_, ⟨_, rfl⟩, hW, hsame.mono (by decide) (by decide)⟩
  · show Steps p.tables e below (s₁.setTop (mkF m 64 #[.val (.int p0), .val (.int (p0 &&& (7 : Int32))), .val (.int (f1_l2_64001 p0))] [])) _
    refine XS.iloadN X0.here hx rfl (hb hby d1_64) rfl ?_
    show Steps p.tables e below (s₁.setTop (mkF m 65 #[.val (.int p0), .val (.int (p0 &&& (7 : Int32))), .val (.int (f1_l2_64001 p0))] [(.int (f1_l2_64001 p0))])) _
    exact retN X0 hx (t := .char) Bd.returns (by simp) (hb hby d1_65) hr
  · show Q1 Z p0 h0 n0 _ s₁.heap _
    rw [e0]
    exact ⟨by rw [show f1 p0 = ((f1_l2_64001 p0).toUInt32.toUInt16.toUInt32.toInt32) from by unfold f1; rfl], N0, rfl⟩
theorem pn_1 : plainName "com/example/libinterp/libinterp/PathParser$SelectorScan" = true := by first | (simp [plainName, overriddenIn]; done) | decide +kernel
theorem d2_0 : decode prog_39_method_1_code 0 = .ok (.aload_n 0, 1) := by decide +kernel
theorem d2_1 : decode prog_39_method_1_code 1 = .ok (.invokespecial 3, 3) := by decide +kernel
theorem d2_4 : decode prog_39_method_1_code 4 = .ok (.aload_n 0, 1) := by decide +kernel
theorem d2_5 : decode prog_39_method_1_code 5 = .ok (.iconst 0, 1) := by decide +kernel
theorem d2_6 : decode prog_39_method_1_code 6 = .ok (.putfield 11, 3) := by decide +kernel
theorem d2_9 : decode prog_39_method_1_code 9 = .ok (.return_, 1) := by decide +kernel
theorem ef_2 (m : MethodId) (x0 : Addr) : entryFrame m #[(.ref x0)] 1 = mkF m 0 #[.val (.ref x0)] [] := by first | (simp [entryFrame, mkF, argsToLocals, Value.category]; done) | rfl
def f2_quote (w_quote : Int32) (w_inSelector : Int32) (w_escaping : Int32) : Int32 := (0 : Int32)
def Q2 (Z : State) (a0t : Addr) (w_quote : Int32) (w_inSelector : Int32) (w_escaping : Int32) (h0 : Heap) (n0 : Nat) (v : Option Value) (h : Heap) (L : List Loc) : Prop := v = none ∧ Fr n0 L ∧ Keep h0 h [a0t] ∧ Exa Z h a0t "com/example/libinterp/libinterp/PathParser$SelectorScan" ∧ Fld Z h a0t "com/example/libinterp/libinterp/PathParser$SelectorScan" "quote" "C" (.int (f2_quote w_quote w_inSelector w_escaping)) ∧ Fld Z h a0t "com/example/libinterp/libinterp/PathParser$SelectorScan" "inSelector" "Z" (.int (w_inSelector)) ∧ Fld Z h a0t "com/example/libinterp/libinterp/PathParser$SelectorScan" "escaping" "Z" (.int (w_escaping))
set_option maxRecDepth 65536 in
set_option maxHeartbeats 40000000 in
theorem rm2 (l : Launch) (Z : State) (a0 : Array Value) (hw : ∀ d ∈ tables_1, d.before a0 Z = true) (ws : List Jvm.Cond) (a0t : Addr) (w_quote : Int32) (w_inSelector : Int32) (w_escaping : Int32) (h0 : Heap) (n0 : Nat) (Z0 : n0 ≤ h0.size) (E_this : Exa Z h0 a0t "com/example/libinterp/libinterp/PathParser$SelectorScan") (g_this : n0 ≤ a0t) (F_quote : Fld Z h0 a0t "com/example/libinterp/libinterp/PathParser$SelectorScan" "quote" "C" (.int w_quote)) (F_inSelector : Fld Z h0 a0t "com/example/libinterp/libinterp/PathParser$SelectorScan" "inSelector" "Z" (.int w_inSelector)) (F_escaping : Fld Z h0 a0t "com/example/libinterp/libinterp/PathParser$SelectorScan" "escaping" "Z" (.int w_escaping)) :
    MetFree l (⟨"com/example/libinterp/libinterp/PathParser$SelectorScan", "<init>", "()V"⟩ : MethodName) (head1 (Jvm.Cond.code (⟨"com/example/libinterp/libinterp/PathParser$SelectorScan", "<init>", "()V"⟩ : MethodName) prog_39_method_1_code 1 none :: ws) ({ frames := 1, cells := 0, slots := 0, locals := 12 } : Room)) (fun a U => a = #[(.ref a0t)] ∧ Z.Warmed39 U.vm ∧ U.heap = h0) (fun _ _ _ _ _ => True) (fun _ U o U' => ∃ v L, o = .returned v ∧ Q2 Z a0t w_quote w_inSelector w_escaping h0 n0 v U'.heap L ∧ FrameEnd U o U' L ({ frames := 1, cells := 0, slots := 0, locals := 12 } : Room).cells ({ frames := 1, cells := 0, slots := 0, locals := 12 } : Room).slots) := by
  refine MetFree.of_bodySF (plainFor_of_name pn_1) hisR ?_
  intro p e s m args below meth c s₁ Bd hml0 hP hK
  obtain ⟨rfl, hZ, hh⟩ := hP
  have hx := Bd.exec
  have hby := Bd.bytes
  have hml : c.maxLocals = 1 := hml0
  have hown : s.vm.findClass "com/example/libinterp/libinterp/PathParser$SelectorScan" = some m.cls := findClass_of_methodNamed Bd.named
  have hnm := (name_of_methodNamed Bd.named Bd.method).1
  have X0 : Stand p l e ({ frames := 1, cells := 0, slots := 0, locals := 12 } : Room) s m #[(.ref a0t)] below meth c s₁ [] 0 0 := Stand.of_body Bd
  have e0 : s₁.heap = h0 := by rw [← hh, Bd.state]; rfl
  have N0 := Fr.nil n0
  have K0 := Keep.refl h0 [a0t]
  have pre0 : ∀ t, Steps p.tables e below (s₁.setTop (mkF m 0 #[.val (.ref a0t)] [])) t → Steps p.tables e below (s₁.setTop (entryFrame m #[(.ref a0t)] 1)) t := fun t k => castTop (ef_2 m a0t) k
  obtain ⟨T1, X1, e1, st1⟩ := initO X0 hx hZ hown (hw _ (List.mem_of_getElem? (i := 10) rfl)) (hw _ (List.mem_of_getElem? (i := 11) rfl)) (hw _ (List.mem_of_getElem? (i := 12) rfl)) e0 (g := (mkF m 1 #[.val (.ref a0t)] [(.ref a0t)])) rfl (by rw [hml]; rfl) rfl (hb hby d2_1) (by decide) (W := 0) (by show 2 * 0 + _ ≤ _; exact Nat.le_of_eq rfl) (by decide)
  obtain ⟨T2, h2, X2, e2, W2, st2⟩ := putFN X1 hx hZ hown (hw _ (List.mem_of_getElem? (i := 13) rfl)) Via.refl e1 F_quote E_this (Or.inl (hw _ (List.mem_of_getElem? (i := 14) rfl))) (hw _ (List.mem_of_getElem? (i := 5) rfl)) (ty := .char) (v' := (.int (0 : Int32))) (by decide) rfl (by decide) (g := (mkF m 6 #[.val (.ref a0t)] [(.int (0 : Int32)), (.ref a0t)])) rfl rfl (hb hby d2_6)
  have F_quote_a0t_2 := F_quote.same W2
  have F_inSelector_a0t_2 := F_inSelector.other W2 (Or.inr (slot_ne (Or.inl (hw _ (List.mem_of_getElem? (i := 21) rfl))) (Or.inl (hw _ (List.mem_of_getElem? (i := 14) rfl))) (by decide) (t := .boolean) (t' := .char) (by decide) (by decide)))
  have F_escaping_a0t_2 := F_escaping.other W2 (Or.inr (slot_ne (Or.inl (hw _ (List.mem_of_getElem? (i := 39) rfl))) (Or.inl (hw _ (List.mem_of_getElem? (i := 14) rfl))) (by decide) (t := .boolean) (t' := .char) (by decide) (by decide)))
  have E_a0t_2 := E_this.wr W2
  have N2 := Fr.snoc X2 N0 g_this
  have Zz2 := Nat.le_trans Z0 (Keep.of_wr W2).1
  have K2 : Keep h0 h2 [a0t] := K0.wr W2 (Or.inl (by simp))
  obtain ⟨fs, hr, hrun, hended, hW, hsame⟩ := X2.leave (v := none) (fun _ => rfl)
  refine ⟨_, _, pre0 _ ?_, hrun, hended, _, _, rfl, ?_, ⟨_, rfl⟩, hW, hsame.mono (by decide) (by decide)⟩
  · show Steps p.tables e below (s₁.setTop (mkF m 0 #[.val (.ref a0t)] [])) _
    refine XS.aloadN X0.here hx rfl (hb hby d2_0) rfl rfl ?_
    show Steps p.tables e below (s₁.setTop (mkF m 1 #[.val (.ref a0t)] [(.ref a0t)])) _
    refine st1 _ ?_
    show Steps p.tables e below (T1.setTop (mkF m 4 #[.val (.ref a0t)] [])) _
    refine XS.aloadN X1.here hx rfl (hb hby d2_4) rfl rfl ?_
    show Steps p.tables e below (T1.setTop (mkF m 5 #[.val (.ref a0t)] [(.ref a0t)])) _
    refine XS.iconst X1.here hx rfl (hb hby d2_5) ?_
    show Steps p.tables e below (T1.setTop (mkF m 6 #[.val (.ref a0t)] [(.int (0 : Int32)), (.ref a0t)])) _
    refine st2 _ ?_
    show Steps p.tables e below (T2.setTop (mkF m 9 #[.val (.ref a0t)] [])) _
    exact X2.returnOut hx Bd.returns (hb hby d2_9) hr
  · show Q2 Z a0t w_quote w_inSelector w_escaping h0 n0 _ T2.heap _
    rw [e2]
    exact ⟨rfl, N2, K2, E_a0t_2, by rw [show f2_quote w_quote w_inSelector w_escaping = (0 : Int32) from by unfold f2_quote; rfl]; exact F_quote_a0t_2, F_inSelector_a0t_2, F_escaping_a0t_2⟩
theorem pn_2 : plainName "com/example/libinterp/libinterp/PathParser" = true := by first | (simp [plainName, overriddenIn]; done) | decide +kernel
theorem d5_0 : decode prog_38_method_19_code 0 = .ok (.iload_n 0, 1) := by decide +kernel
theorem d5_1 : decode prog_38_method_19_code 1 = .ok (.bipush 39, 2) := by decide +kernel
theorem d5_3 : decode prog_38_method_19_code 3 = .ok (.if_icmp .eq 9, 3) := by decide +kernel
theorem d5_6 : decode prog_38_method_19_code 6 = .ok (.iload_n 0, 1) := by decide +kernel
theorem d5_7 : decode prog_38_method_19_code 7 = .ok (.bipush 34, 2) := by decide +kernel
theorem d5_9 : decode prog_38_method_19_code 9 = .ok (.if_icmp .ne 7, 3) := by decide +kernel
theorem d5_12 : decode prog_38_method_19_code 12 = .ok (.iconst 1, 1) := by decide +kernel
theorem d5_13 : decode prog_38_method_19_code 13 = .ok (.goto 4, 3) := by decide +kernel
theorem d5_16 : decode prog_38_method_19_code 16 = .ok (.iconst 0, 1) := by decide +kernel
theorem d5_17 : decode prog_38_method_19_code 17 = .ok (.ireturn, 1) := by decide +kernel
theorem ef_5 (m : MethodId) (x0 : Int32) : entryFrame m #[(.int x0)] 1 = mkF m 0 #[.val (.int x0)] [] := by first | (simp [entryFrame, mkF, argsToLocals, Value.category]; done) | rfl
def f5 (p0 : Int32) : Int32 := (if p0 = (39 : Int32) then (1 : Int32) else (if p0 = (34 : Int32) then (1 : Int32) else (0 : Int32)))
def Q5 (Z : State) (p0 : Int32) (h0 : Heap) (n0 : Nat) (v : Option Value) (h : Heap) (L : List Loc) : Prop := v = some (.int (f5 p0)) ∧ Fr n0 L ∧ h = h0
set_option maxRecDepth 65536 in
set_option maxHeartbeats 40000000 in
theorem rm5 (l : Launch) (Z : State) (a0 : Array Value) (hw : ∀ d ∈ tables_1, d.before a0 Z = true) (ws : List Jvm.Cond) (p0 : Int32) (h0 : Heap) (n0 : Nat) (Z0 : n0 ≤ h0.size)  :
    MetFree l (⟨"com/example/libinterp/libinterp/PathParser", "isQuote", "(C)Z"⟩ : MethodName) (head1 (Jvm.Cond.code (⟨"com/example/libinterp/libinterp/PathParser", "isQuote", "(C)Z"⟩ : MethodName) prog_38_method_19_code 1 (some .boolean) :: ws) ({ frames := 0, cells := 0, slots := 0, locals := 0 } : Room)) (fun a U => a = #[(.int p0)] ∧ Z.Warmed39 U.vm ∧ U.heap = h0) (fun _ _ _ _ _ => True) (fun _ U o U' => ∃ v L, o = .returned v ∧ Q5 Z p0 h0 n0 v U'.heap L ∧ FrameEnd U o U' L ({ frames := 0, cells := 0, slots := 0, locals := 0 } : Room).cells ({ frames := 0, cells := 0, slots := 0, locals := 0 } : Room).slots) := by
  refine MetFree.of_bodySF (plainFor_of_name pn_2) hisR ?_
  intro p e s m args below meth c s₁ Bd hml0 hP hK
  obtain ⟨rfl, hZ, hh⟩ := hP
  have hx := Bd.exec
  have hby := Bd.bytes
  have hml : c.maxLocals = 1 := hml0
  have hown : s.vm.findClass "com/example/libinterp/libinterp/PathParser" = some m.cls := findClass_of_methodNamed Bd.named
  have hnm := (name_of_methodNamed Bd.named Bd.method).1
  have X0 : Stand p l e ({ frames := 0, cells := 0, slots := 0, locals := 0 } : Room) s m #[(.int p0)] below meth c s₁ [] 0 0 := Stand.of_body Bd
  have e0 : s₁.heap = h0 := by rw [← hh, Bd.state]; rfl
  have N0 := Fr.nil n0
  have K0 := Keep.refl h0 []
  have pre0 : ∀ t, Steps p.tables e below (s₁.setTop (mkF m 0 #[.val (.int p0)] [])) t → Steps p.tables e below (s₁.setTop (entryFrame m #[(.int p0)] 1)) t := fun t k => castTop (ef_5 m p0) k
  have pre1 : ∀ t, Steps p.tables e below (s₁.setTop (mkF m 3 #[.val (.int p0)] [(.int (39 : Int32)), (.int p0)])) t → Steps p.tables e below (s₁.setTop (entryFrame m #[(.int p0)] 1)) t := fun t kt => pre0 t (by
    show Steps p.tables e below (s₁.setTop (mkF m 0 #[.val (.int p0)] [])) _
    refine XS.iloadN X0.here hx rfl (hb hby d5_0) rfl ?_
    show Steps p.tables e below (s₁.setTop (mkF m 1 #[.val (.int p0)] [(.int p0)])) _
    refine XS.bipush X0.here hx rfl (hb hby d5_1) ?_
    exact kt)
  by_cases hc2 : p0 = (39 : Int32)
  · obtain ⟨fs, hr, hrun, hended, hW, hsame⟩ := X0.leave (v := some (.int (1 : Int32))) (fun h => by rw [Bd.returns] at h; cases h)
    refine ⟨_, _, pre1 _ ?_, hrun, hended, _, _, rfl, ?_, ⟨_, rfl⟩, hW, hsame.mono (by decide) (by decide)⟩
    · show Steps p.tables e below (s₁.setTop (mkF m 3 #[.val (.int p0)] [(.int (39 : Int32)), (.int p0)])) _
      refine XS.icmpYes X0.here hx rfl (pc0 := 3) (pc' := 12) rfl (hb hby d5_3) rfl (teq hc2).1 (by decide) (by decide) ?_
      show Steps p.tables e below (s₁.setTop (mkF m 12 #[.val (.int p0)] [])) _
      refine XS.iconst X0.here hx rfl (hb hby d5_12) ?_
      show Steps p.tables e below (s₁.setTop (mkF m 13 #[.val (.int p0)] [(.int (1 : Int32))])) _
      refine XS.goto X0.here hx rfl (pc0 := 13) (pc' := 17) rfl (hb hby d5_13) (by decide) (by decide) ?_
      show Steps p.tables e below (s₁.setTop (mkF m 17 #[.val (.int p0)] [(.int (1 : Int32))])) _
      exact retN X0 hx (t := .boolean) Bd.returns (by simp) (hb hby d5_17) hr
    · show Q5 Z p0 h0 n0 _ s₁.heap _
      rw [e0]
      exact ⟨by rw [show f5 p0 = (1 : Int32) from by unfold f5; rw [if_pos hc2]], N0, rfl⟩
  · have pre3 : ∀ t, Steps p.tables e below (s₁.setTop (mkF m 9 #[.val (.int p0)] [(.int (34 : Int32)), (.int p0)])) t → Steps p.tables e below (s₁.setTop (entryFrame m #[(.int p0)] 1)) t := fun t kt => pre1 t (by
      show Steps p.tables e below (s₁.setTop (mkF m 3 #[.val (.int p0)] [(.int (39 : Int32)), (.int p0)])) _
      refine XS.icmpNo X0.here hx rfl (hb hby d5_3) rfl (feq hc2).1 ?_
      show Steps p.tables e below (s₁.setTop (mkF m 6 #[.val (.int p0)] [])) _
      refine XS.iloadN X0.here hx rfl (hb hby d5_6) rfl ?_
      show Steps p.tables e below (s₁.setTop (mkF m 7 #[.val (.int p0)] [(.int p0)])) _
      refine XS.bipush X0.here hx rfl (hb hby d5_7) ?_
      exact kt)
    by_cases hc4 : p0 = (34 : Int32)
    · obtain ⟨fs, hr, hrun, hended, hW, hsame⟩ := X0.leave (v := some (.int (1 : Int32))) (fun h => by rw [Bd.returns] at h; cases h)
      refine ⟨_, _, pre3 _ ?_, hrun, hended, _, _, rfl, ?_, ⟨_, rfl⟩, hW, hsame.mono (by decide) (by decide)⟩
      · show Steps p.tables e below (s₁.setTop (mkF m 9 #[.val (.int p0)] [(.int (34 : Int32)), (.int p0)])) _
        refine XS.icmpNo X0.here hx rfl (hb hby d5_9) rfl (teq hc4).2 ?_
        show Steps p.tables e below (s₁.setTop (mkF m 12 #[.val (.int p0)] [])) _
        refine XS.iconst X0.here hx rfl (hb hby d5_12) ?_
        show Steps p.tables e below (s₁.setTop (mkF m 13 #[.val (.int p0)] [(.int (1 : Int32))])) _
        refine XS.goto X0.here hx rfl (pc0 := 13) (pc' := 17) rfl (hb hby d5_13) (by decide) (by decide) ?_
        show Steps p.tables e below (s₁.setTop (mkF m 17 #[.val (.int p0)] [(.int (1 : Int32))])) _
        exact retN X0 hx (t := .boolean) Bd.returns (by simp) (hb hby d5_17) hr
      · show Q5 Z p0 h0 n0 _ s₁.heap _
        rw [e0]
        exact ⟨by rw [show f5 p0 = (1 : Int32) from by unfold f5; rw [if_neg hc2, if_pos hc4]], N0, rfl⟩
    · obtain ⟨fs, hr, hrun, hended, hW, hsame⟩ := X0.leave (v := some (.int (0 : Int32))) (fun h => by rw [Bd.returns] at h; cases h)
      refine ⟨_, _, pre3 _ ?_, hrun, hended, _, _, rfl, ?_, ⟨_, rfl⟩, hW, hsame.mono (by decide) (by decide)⟩
      · show Steps p.tables e below (s₁.setTop (mkF m 9 #[.val (.int p0)] [(.int (34 : Int32)), (.int p0)])) _
        refine XS.icmpYes X0.here hx rfl (pc0 := 9) (pc' := 16) rfl (hb hby d5_9) rfl (feq hc4).2 (by decide) (by decide) ?_
        show Steps p.tables e below (s₁.setTop (mkF m 16 #[.val (.int p0)] [])) _
        refine XS.iconst X0.here hx rfl (hb hby d5_16) ?_
        show Steps p.tables e below (s₁.setTop (mkF m 17 #[.val (.int p0)] [(.int (0 : Int32))])) _
        exact retN X0 hx (t := .boolean) Bd.returns (by simp) (hb hby d5_17) hr
      · show Q5 Z p0 h0 n0 _ s₁.heap _
        rw [e0]
        exact ⟨by rw [show f5 p0 = (0 : Int32) from by unfold f5; rw [if_neg hc2, if_neg hc4]], N0, rfl⟩
theorem d8_0 : decode prog_39_method_3_code 0 = .ok (.aload_n 0, 1) := by decide +kernel
theorem d8_1 : decode prog_39_method_3_code 1 = .ok (.getfield 27, 3) := by decide +kernel
theorem d8_4 : decode prog_39_method_3_code 4 = .ok (.ifCond .eq 11, 3) := by decide +kernel
theorem d8_7 : decode prog_39_method_3_code 7 = .ok (.aload_n 0, 1) := by decide +kernel
theorem d8_8 : decode prog_39_method_3_code 8 = .ok (.iconst 0, 1) := by decide +kernel
theorem d8_9 : decode prog_39_method_3_code 9 = .ok (.putfield 27, 3) := by decide +kernel
theorem d8_12 : decode prog_39_method_3_code 12 = .ok (.goto 30, 3) := by decide +kernel
theorem d8_15 : decode prog_39_method_3_code 15 = .ok (.iload_n 1, 1) := by decide +kernel
theorem d8_16 : decode prog_39_method_3_code 16 = .ok (.bipush 92, 2) := by decide +kernel
theorem d8_18 : decode prog_39_method_3_code 18 = .ok (.if_icmp .ne 11, 3) := by decide +kernel
theorem d8_21 : decode prog_39_method_3_code 21 = .ok (.aload_n 0, 1) := by decide +kernel
theorem d8_22 : decode prog_39_method_3_code 22 = .ok (.iconst 1, 1) := by decide +kernel
theorem d8_23 : decode prog_39_method_3_code 23 = .ok (.putfield 27, 3) := by decide +kernel
theorem d8_26 : decode prog_39_method_3_code 26 = .ok (.goto 16, 3) := by decide +kernel
theorem d8_29 : decode prog_39_method_3_code 29 = .ok (.iload_n 1, 1) := by decide +kernel
theorem d8_30 : decode prog_39_method_3_code 30 = .ok (.aload_n 0, 1) := by decide +kernel
theorem d8_31 : decode prog_39_method_3_code 31 = .ok (.getfield 11, 3) := by decide +kernel
theorem d8_34 : decode prog_39_method_3_code 34 = .ok (.if_icmp .ne 8, 3) := by decide +kernel
theorem d8_37 : decode prog_39_method_3_code 37 = .ok (.aload_n 0, 1) := by decide +kernel
theorem d8_38 : decode prog_39_method_3_code 38 = .ok (.iconst 0, 1) := by decide +kernel
theorem d8_39 : decode prog_39_method_3_code 39 = .ok (.putfield 11, 3) := by decide +kernel
theorem d8_42 : decode prog_39_method_3_code 42 = .ok (.return_, 1) := by decide +kernel
theorem ef_8 (m : MethodId) (x0 : Addr) (x1 : Int32) : entryFrame m #[(.ref x0), (.int x1)] 2 = mkF m 0 #[.val (.ref x0), .val (.int x1)] [] := by first | (simp [entryFrame, mkF, argsToLocals, Value.category]; done) | rfl
def f8_quote (p0 : Int32) (w_quote : Int32) (w_inSelector : Int32) (w_escaping : Int32) : Int32 := (if w_escaping = (0 : Int32) then (if p0 = (92 : Int32) then w_quote else (if p0 = w_quote then (0 : Int32) else w_quote)) else w_quote)
def f8_escaping (p0 : Int32) (w_quote : Int32) (w_inSelector : Int32) (w_escaping : Int32) : Int32 := (if w_escaping = (0 : Int32) then (if p0 = (92 : Int32) then (1 : Int32) else (if p0 = w_quote then w_escaping else w_escaping)) else (0 : Int32))
def Q8 (Z : State) (a0t : Addr) (p0 : Int32) (w_quote : Int32) (w_inSelector : Int32) (w_escaping : Int32) (h0 : Heap) (n0 : Nat) (v : Option Value) (h : Heap) (L : List Loc) : Prop := v = none ∧ Fr n0 L ∧ Keep h0 h [a0t] ∧ Exa Z h a0t "com/example/libinterp/libinterp/PathParser$SelectorScan" ∧ Fld Z h a0t "com/example/libinterp/libinterp/PathParser$SelectorScan" "quote" "C" (.int (f8_quote p0 w_quote w_inSelector w_escaping)) ∧ Fld Z h a0t "com/example/libinterp/libinterp/PathParser$SelectorScan" "inSelector" "Z" (.int (w_inSelector)) ∧ Fld Z h a0t "com/example/libinterp/libinterp/PathParser$SelectorScan" "escaping" "Z" (.int (f8_escaping p0 w_quote w_inSelector w_escaping))
set_option maxRecDepth 65536 in
set_option maxHeartbeats 40000000 in
theorem rm8 (l : Launch) (Z : State) (a0 : Array Value) (hw : ∀ d ∈ tables_1, d.before a0 Z = true) (ws : List Jvm.Cond) (a0t : Addr) (p0 : Int32) (w_quote : Int32) (w_inSelector : Int32) (w_escaping : Int32) (h0 : Heap) (n0 : Nat) (Z0 : n0 ≤ h0.size) (E_this : Exa Z h0 a0t "com/example/libinterp/libinterp/PathParser$SelectorScan") (g_this : n0 ≤ a0t) (F_quote : Fld Z h0 a0t "com/example/libinterp/libinterp/PathParser$SelectorScan" "quote" "C" (.int w_quote)) (F_inSelector : Fld Z h0 a0t "com/example/libinterp/libinterp/PathParser$SelectorScan" "inSelector" "Z" (.int w_inSelector)) (F_escaping : Fld Z h0 a0t "com/example/libinterp/libinterp/PathParser$SelectorScan" "escaping" "Z" (.int w_escaping)) :
    MetFree l (⟨"com/example/libinterp/libinterp/PathParser$SelectorScan", "readQuoted", "(C)V"⟩ : MethodName) (head1 (Jvm.Cond.code (⟨"com/example/libinterp/libinterp/PathParser$SelectorScan", "readQuoted", "(C)V"⟩ : MethodName) prog_39_method_3_code 2 none :: ws) ({ frames := 0, cells := 0, slots := 0, locals := 0 } : Room)) (fun a U => a = #[(.ref a0t), (.int p0)] ∧ Z.Warmed39 U.vm ∧ U.heap = h0) (fun _ _ _ _ _ => True) (fun _ U o U' => ∃ v L, o = .returned v ∧ Q8 Z a0t p0 w_quote w_inSelector w_escaping h0 n0 v U'.heap L ∧ FrameEnd U o U' L ({ frames := 0, cells := 0, slots := 0, locals := 0 } : Room).cells ({ frames := 0, cells := 0, slots := 0, locals := 0 } : Room).slots) := by
  refine MetFree.of_bodySF (plainFor_of_name pn_1) hisR ?_
  intro p e s m args below meth c s₁ Bd hml0 hP hK
  obtain ⟨rfl, hZ, hh⟩ := hP
  have hx := Bd.exec
  have hby := Bd.bytes
  have hml : c.maxLocals = 2 := hml0
  have hown : s.vm.findClass "com/example/libinterp/libinterp/PathParser$SelectorScan" = some m.cls := findClass_of_methodNamed Bd.named
  have hnm := (name_of_methodNamed Bd.named Bd.method).1
  have X0 : Stand p l e ({ frames := 0, cells := 0, slots := 0, locals := 0 } : Room) s m #[(.ref a0t), (.int p0)] below meth c s₁ [] 0 0 := Stand.of_body Bd
  have e0 : s₁.heap = h0 := by rw [← hh, Bd.state]; rfl
  have N0 := Fr.nil n0
  have K0 := Keep.refl h0 [a0t]
  have pre0 : ∀ t, Steps p.tables e below (s₁.setTop (mkF m 0 #[.val (.ref a0t), .val (.int p0)] [])) t → Steps p.tables e below (s₁.setTop (entryFrame m #[(.ref a0t), (.int p0)] 2)) t := fun t k => castTop (ef_8 m a0t p0) k
  obtain ⟨T1, X1, e1, st1⟩ := getF X0 hx hZ hown (host := "") (Or.inl (hw _ (List.mem_of_getElem? (i := 38) rfl))) Via.refl e0 F_escaping (g := (mkF m 1 #[.val (.ref a0t), .val (.int p0)] [(.ref a0t)])) rfl rfl (hb hby d8_1)
  have pre2 : ∀ t, Steps p.tables e below (T1.setTop (mkF m 4 #[.val (.ref a0t), .val (.int p0)] [(.int w_escaping)])) t → Steps p.tables e below (s₁.setTop (entryFrame m #[(.ref a0t), (.int p0)] 2)) t := fun t kt => pre0 t (by
    show Steps p.tables e below (s₁.setTop (mkF m 0 #[.val (.ref a0t), .val (.int p0)] [])) _
    refine XS.aloadN X0.here hx rfl (hb hby d8_0) rfl rfl ?_
    show Steps p.tables e below (s₁.setTop (mkF m 1 #[.val (.ref a0t), .val (.int p0)] [(.ref a0t)])) _
    refine st1 _ ?_
    exact kt)
  by_cases hc3 : w_escaping = (0 : Int32)
  · have pre4 : ∀ t, Steps p.tables e below (T1.setTop (mkF m 18 #[.val (.ref a0t), .val (.int p0)] [(.int (92 : Int32)), (.int p0)])) t → Steps p.tables e below (s₁.setTop (entryFrame m #[(.ref a0t), (.int p0)] 2)) t := fun t kt => pre2 t (by
      show Steps p.tables e below (T1.setTop (mkF m 4 #[.val (.ref a0t), .val (.int p0)] [(.int w_escaping)])) _
      refine XS.ifYes X1.here hx rfl (pc0 := 4) (pc' := 15) rfl (hb hby d8_4) rfl ((if0 _ _).trans (teq hc3).1) (by decide) (by decide) ?_
      show Steps p.tables e below (T1.setTop (mkF m 15 #[.val (.ref a0t), .val (.int p0)] [])) _
      refine XS.iloadN X1.here hx rfl (hb hby d8_15) rfl ?_
      show Steps p.tables e below (T1.setTop (mkF m 16 #[.val (.ref a0t), .val (.int p0)] [(.int p0)])) _
      refine XS.bipush X1.here hx rfl (hb hby d8_16) ?_
      exact kt)
    by_cases hc5 : p0 = (92 : Int32)
    · obtain ⟨T6, h6, X6, e6, W6, st6⟩ := putFN X1 hx hZ hown (hw _ (List.mem_of_getElem? (i := 38) rfl)) Via.refl e1 F_escaping E_this (Or.inl (hw _ (List.mem_of_getElem? (i := 39) rfl))) (hw _ (List.mem_of_getElem? (i := 5) rfl)) (ty := .boolean) (v' := (.int (1 : Int32))) (by decide) rfl (by decide) (g := (mkF m 23 #[.val (.ref a0t), .val (.int p0)] [(.int (1 : Int32)), (.ref a0t)])) rfl rfl (hb hby d8_23)
      have F_quote_a0t_6 := F_quote.other W6 (Or.inr (slot_ne (Or.inl (hw _ (List.mem_of_getElem? (i := 14) rfl))) (Or.inl (hw _ (List.mem_of_getElem? (i := 39) rfl))) (by decide) (t := .char) (t' := .boolean) (by decide) (by decide)))
      have F_inSelector_a0t_6 := F_inSelector.other W6 (Or.inr (slot_ne (Or.inl (hw _ (List.mem_of_getElem? (i := 21) rfl))) (Or.inl (hw _ (List.mem_of_getElem? (i := 39) rfl))) (by decide) (t := .boolean) (t' := .boolean) (by decide) (by decide)))
      have F_escaping_a0t_6 := F_escaping.same W6
      have E_a0t_6 := E_this.wr W6
      have N6 := Fr.snoc X6 N0 g_this
      have Zz6 := Nat.le_trans Z0 (Keep.of_wr W6).1
      have K6 : Keep h0 h6 [a0t] := K0.wr W6 (Or.inl (by simp))
      obtain ⟨fs, hr, hrun, hended, hW, hsame⟩ := X6.leave (v := none) (fun _ => rfl)
      refine ⟨_, _, pre4 _ ?_, hrun, hended, _, _, rfl, ?_, ⟨_, rfl⟩, hW, hsame.mono (by decide) (by decide)⟩
      · show Steps p.tables e below (T1.setTop (mkF m 18 #[.val (.ref a0t), .val (.int p0)] [(.int (92 : Int32)), (.int p0)])) _
        refine XS.icmpNo X1.here hx rfl (hb hby d8_18) rfl (teq hc5).2 ?_
        show Steps p.tables e below (T1.setTop (mkF m 21 #[.val (.ref a0t), .val (.int p0)] [])) _
        refine XS.aloadN X1.here hx rfl (hb hby d8_21) rfl rfl ?_
        show Steps p.tables e below (T1.setTop (mkF m 22 #[.val (.ref a0t), .val (.int p0)] [(.ref a0t)])) _
        refine XS.iconst X1.here hx rfl (hb hby d8_22) ?_
        show Steps p.tables e below (T1.setTop (mkF m 23 #[.val (.ref a0t), .val (.int p0)] [(.int (1 : Int32)), (.ref a0t)])) _
        refine st6 _ ?_
        show Steps p.tables e below (T6.setTop (mkF m 26 #[.val (.ref a0t), .val (.int p0)] [])) _
        refine XS.goto X6.here hx rfl (pc0 := 26) (pc' := 42) rfl (hb hby d8_26) (by decide) (by decide) ?_
        show Steps p.tables e below (T6.setTop (mkF m 42 #[.val (.ref a0t), .val (.int p0)] [])) _
        exact X6.returnOut hx Bd.returns (hb hby d8_42) hr
      · show Q8 Z a0t p0 w_quote w_inSelector w_escaping h0 n0 _ T6.heap _
        rw [e6]
        exact ⟨rfl, N6, K6, E_a0t_6, by rw [show f8_quote p0 w_quote w_inSelector w_escaping = w_quote from by unfold f8_quote; rw [if_pos hc3, if_pos hc5]]; exact F_quote_a0t_6, F_inSelector_a0t_6, by rw [show f8_escaping p0 w_quote w_inSelector w_escaping = (1 : Int32) from by unfold f8_escaping; rw [if_pos hc3, if_pos hc5]]; exact F_escaping_a0t_6⟩
    · obtain ⟨T7, X7, e7, st7⟩ := getF X1 hx hZ hown (host := "") (Or.inl (hw _ (List.mem_of_getElem? (i := 13) rfl))) Via.refl e1 F_quote (g := (mkF m 31 #[.val (.ref a0t), .val (.int p0)] [(.ref a0t), (.int p0)])) rfl rfl (hb hby d8_31)
      have pre8 : ∀ t, Steps p.tables e below (T7.setTop (mkF m 34 #[.val (.ref a0t), .val (.int p0)] [(.int w_quote), (.int p0)])) t → Steps p.tables e below (s₁.setTop (entryFrame m #[(.ref a0t), (.int p0)] 2)) t := fun t kt => pre4 t (by
        show Steps p.tables e below (T1.setTop (mkF m 18 #[.val (.ref a0t), .val (.int p0)] [(.int (92 : Int32)), (.int p0)])) _
        refine XS.icmpYes X1.here hx rfl (pc0 := 18) (pc' := 29) rfl (hb hby d8_18) rfl (feq hc5).2 (by decide) (by decide) ?_
        show Steps p.tables e below (T1.setTop (mkF m 29 #[.val (.ref a0t), .val (.int p0)] [])) _
        refine XS.iloadN X1.here hx rfl (hb hby d8_29) rfl ?_
        show Steps p.tables e below (T1.setTop (mkF m 30 #[.val (.ref a0t), .val (.int p0)] [(.int p0)])) _
        refine XS.aloadN X1.here hx rfl (hb hby d8_30) rfl rfl ?_
        show Steps p.tables e below (T1.setTop (mkF m 31 #[.val (.ref a0t), .val (.int p0)] [(.ref a0t), (.int p0)])) _
        refine st7 _ ?_
        exact kt)
      by_cases hc9 : p0 = w_quote
      · obtain ⟨T10, h10, X10, e10, W10, st10⟩ := putFN X7 hx hZ hown (hw _ (List.mem_of_getElem? (i := 13) rfl)) Via.refl e7 F_quote E_this (Or.inl (hw _ (List.mem_of_getElem? (i := 14) rfl))) (hw _ (List.mem_of_getElem? (i := 5) rfl)) (ty := .char) (v' := (.int (0 : Int32))) (by decide) rfl (by decide) (g := (mkF m 39 #[.val (.ref a0t), .val (.int p0)] [(.int (0 : Int32)), (.ref a0t)])) rfl rfl (hb hby d8_39)
        have F_quote_a0t_10 := F_quote.same W10
        have F_inSelector_a0t_10 := F_inSelector.other W10 (Or.inr (slot_ne (Or.inl (hw _ (List.mem_of_getElem? (i := 21) rfl))) (Or.inl (hw _ (List.mem_of_getElem? (i := 14) rfl))) (by decide) (t := .boolean) (t' := .char) (by decide) (by decide)))
        have F_escaping_a0t_10 := F_escaping.other W10 (Or.inr (slot_ne (Or.inl (hw _ (List.mem_of_getElem? (i := 39) rfl))) (Or.inl (hw _ (List.mem_of_getElem? (i := 14) rfl))) (by decide) (t := .boolean) (t' := .char) (by decide) (by decide)))
        have E_a0t_10 := E_this.wr W10
        have N10 := Fr.snoc X10 N0 g_this
        have Zz10 := Nat.le_trans Z0 (Keep.of_wr W10).1
        have K10 : Keep h0 h10 [a0t] := K0.wr W10 (Or.inl (by simp))
        obtain ⟨fs, hr, hrun, hended, hW, hsame⟩ := X10.leave (v := none) (fun _ => rfl)
        refine ⟨_, _, pre8 _ ?_, hrun, hended, _, _, rfl, ?_, ⟨_, rfl⟩, hW, hsame.mono (by decide) (by decide)⟩
        · show Steps p.tables e below (T7.setTop (mkF m 34 #[.val (.ref a0t), .val (.int p0)] [(.int w_quote), (.int p0)])) _
          refine XS.icmpNo X7.here hx rfl (hb hby d8_34) rfl (teq hc9).2 ?_
          show Steps p.tables e below (T7.setTop (mkF m 37 #[.val (.ref a0t), .val (.int p0)] [])) _
          refine XS.aloadN X7.here hx rfl (hb hby d8_37) rfl rfl ?_
          show Steps p.tables e below (T7.setTop (mkF m 38 #[.val (.ref a0t), .val (.int p0)] [(.ref a0t)])) _
          refine XS.iconst X7.here hx rfl (hb hby d8_38) ?_
          show Steps p.tables e below (T7.setTop (mkF m 39 #[.val (.ref a0t), .val (.int p0)] [(.int (0 : Int32)), (.ref a0t)])) _
          refine st10 _ ?_
          show Steps p.tables e below (T10.setTop (mkF m 42 #[.val (.ref a0t), .val (.int p0)] [])) _
          exact X10.returnOut hx Bd.returns (hb hby d8_42) hr
        · show Q8 Z a0t p0 w_quote w_inSelector w_escaping h0 n0 _ T10.heap _
          rw [e10]
          exact ⟨rfl, N10, K10, E_a0t_10, by rw [show f8_quote p0 w_quote w_inSelector w_escaping = (0 : Int32) from by unfold f8_quote; rw [if_pos hc3, if_neg hc5, if_pos hc9]]; exact F_quote_a0t_10, F_inSelector_a0t_10, by rw [show f8_escaping p0 w_quote w_inSelector w_escaping = w_escaping from by unfold f8_escaping; rw [if_pos hc3, if_neg hc5, if_pos hc9]]; exact F_escaping_a0t_10⟩
      · obtain ⟨fs, hr, hrun, hended, hW, hsame⟩ := X7.leave (v := none) (fun _ => rfl)
        refine ⟨_, _, pre8 _ ?_, hrun, hended, _, _, rfl, ?_, ⟨_, rfl⟩, hW, hsame.mono (by decide) (by decide)⟩
        · show Steps p.tables e below (T7.setTop (mkF m 34 #[.val (.ref a0t), .val (.int p0)] [(.int w_quote), (.int p0)])) _
          refine XS.icmpYes X7.here hx rfl (pc0 := 34) (pc' := 42) rfl (hb hby d8_34) rfl (feq hc9).2 (by decide) (by decide) ?_
          show Steps p.tables e below (T7.setTop (mkF m 42 #[.val (.ref a0t), .val (.int p0)] [])) _
          exact X7.returnOut hx Bd.returns (hb hby d8_42) hr
        · show Q8 Z a0t p0 w_quote w_inSelector w_escaping h0 n0 _ T7.heap _
          rw [e7]
          exact ⟨rfl, N0, K0, E_this, by rw [show f8_quote p0 w_quote w_inSelector w_escaping = w_quote from by unfold f8_quote; rw [if_pos hc3, if_neg hc5, if_neg hc9]]; exact F_quote, F_inSelector, by rw [show f8_escaping p0 w_quote w_inSelector w_escaping = w_escaping from by unfold f8_escaping; rw [if_pos hc3, if_neg hc5, if_neg hc9]]; exact F_escaping⟩
  · obtain ⟨T11, h11, X11, e11, W11, st11⟩ := putFN X1 hx hZ hown (hw _ (List.mem_of_getElem? (i := 38) rfl)) Via.refl e1 F_escaping E_this (Or.inl (hw _ (List.mem_of_getElem? (i := 39) rfl))) (hw _ (List.mem_of_getElem? (i := 5) rfl)) (ty := .boolean) (v' := (.int (0 : Int32))) (by decide) rfl (by decide) (g := (mkF m 9 #[.val (.ref a0t), .val (.int p0)] [(.int (0 : Int32)), (.ref a0t)])) rfl rfl (hb hby d8_9)
    have F_quote_a0t_11 := F_quote.other W11 (Or.inr (slot_ne (Or.inl (hw _ (List.mem_of_getElem? (i := 14) rfl))) (Or.inl (hw _ (List.mem_of_getElem? (i := 39) rfl))) (by decide) (t := .char) (t' := .boolean) (by decide) (by decide)))
    have F_inSelector_a0t_11 := F_inSelector.other W11 (Or.inr (slot_ne (Or.inl (hw _ (List.mem_of_getElem? (i := 21) rfl))) (Or.inl (hw _ (List.mem_of_getElem? (i := 39) rfl))) (by decide) (t := .boolean) (t' := .boolean) (by decide) (by decide)))
    have F_escaping_a0t_11 := F_escaping.same W11
    have E_a0t_11 := E_this.wr W11
    have N11 := Fr.snoc X11 N0 g_this
    have Zz11 := Nat.le_trans Z0 (Keep.of_wr W11).1
    have K11 : Keep h0 h11 [a0t] := K0.wr W11 (Or.inl (by simp))
    obtain ⟨fs, hr, hrun, hended, hW, hsame⟩ := X11.leave (v := none) (fun _ => rfl)
    refine ⟨_, _, pre2 _ ?_, hrun, hended, _, _, rfl, ?_, ⟨_, rfl⟩, hW, hsame.mono (by decide) (by decide)⟩
    · show Steps p.tables e below (T1.setTop (mkF m 4 #[.val (.ref a0t), .val (.int p0)] [(.int w_escaping)])) _
      refine XS.ifNo X1.here hx rfl (hb hby d8_4) rfl ((if0 _ _).trans (feq hc3).1) ?_
      show Steps p.tables e below (T1.setTop (mkF m 7 #[.val (.ref a0t), .val (.int p0)] [])) _
      refine XS.aloadN X1.here hx rfl (hb hby d8_7) rfl rfl ?_
      show Steps p.tables e below (T1.setTop (mkF m 8 #[.val (.ref a0t), .val (.int p0)] [(.ref a0t)])) _
      refine XS.iconst X1.here hx rfl (hb hby d8_8) ?_
      show Steps p.tables e below (T1.setTop (mkF m 9 #[.val (.ref a0t), .val (.int p0)] [(.int (0 : Int32)), (.ref a0t)])) _
      refine st11 _ ?_
      show Steps p.tables e below (T11.setTop (mkF m 12 #[.val (.ref a0t), .val (.int p0)] [])) _
      refine XS.goto X11.here hx rfl (pc0 := 12) (pc' := 42) rfl (hb hby d8_12) (by decide) (by decide) ?_
      show Steps p.tables e below (T11.setTop (mkF m 42 #[.val (.ref a0t), .val (.int p0)] [])) _
      exact X11.returnOut hx Bd.returns (hb hby d8_42) hr
    · show Q8 Z a0t p0 w_quote w_inSelector w_escaping h0 n0 _ T11.heap _
      rw [e11]
      exact ⟨rfl, N11, K11, E_a0t_11, by rw [show f8_quote p0 w_quote w_inSelector w_escaping = w_quote from by unfold f8_quote; rw [if_neg hc3]]; exact F_quote_a0t_11, F_inSelector_a0t_11, by rw [show f8_escaping p0 w_quote w_inSelector w_escaping = (0 : Int32) from by unfold f8_escaping; rw [if_neg hc3]]; exact F_escaping_a0t_11⟩
theorem pd_0 : parseMethodDescriptor "(C)Z" = some ⟨[.char], some .boolean⟩ := by decide +kernel
theorem pd_1 : parseMethodDescriptor "(C)V" = some ⟨[.char], none⟩ := by decide +kernel
theorem own_sel {s : State} {args : Array Value} {y y' : MethodName} (hc : y.cls = y'.cls) (h : NotFace s y') (hi' : (Jvm.Cond.instanceMethod y').before args s = true) (hp : s.PrivateAt y) (hi : (Jvm.Cond.instanceMethod y).before args s = true) (hy : y.cls ≠ "java/lang/invoke/MethodHandle" ∧ y.cls ≠ "java/lang/invoke/VarHandle") : (Jvm.Cond.selects y.cls y y).before args s = true := by
  obtain ⟨mk, methM, hnamed, -⟩ := Cond.instanceMethod_spec hi'
  obtain ⟨k, hk, hki⟩ := h mk hnamed
  exact selects_self_of_private (by rw [hc]; exact findClass_of_methodNamed hnamed) hk hki hp hi hy
theorem d4_0 : decode prog_39_method_2_code 0 = .ok (.aload_n 0, 1) := by decide +kernel
theorem d4_1 : decode prog_39_method_2_code 1 = .ok (.getfield 11, 3) := by decide +kernel
theorem d4_4 : decode prog_39_method_2_code 4 = .ok (.ifCond .eq 11, 3) := by decide +kernel
theorem d4_7 : decode prog_39_method_2_code 7 = .ok (.aload_n 0, 1) := by decide +kernel
theorem d4_8 : decode prog_39_method_2_code 8 = .ok (.iload_n 1, 1) := by decide +kernel
theorem d4_9 : decode prog_39_method_2_code 9 = .ok (.invokevirtual 15, 3) := by decide +kernel
theorem d4_12 : decode prog_39_method_2_code 12 = .ok (.goto 54, 3) := by decide +kernel
theorem d4_15 : decode prog_39_method_2_code 15 = .ok (.aload_n 0, 1) := by decide +kernel
theorem d4_16 : decode prog_39_method_2_code 16 = .ok (.getfield 19, 3) := by decide +kernel
theorem d4_19 : decode prog_39_method_2_code 19 = .ok (.ifCond .ne 21, 3) := by decide +kernel
theorem d4_22 : decode prog_39_method_2_code 22 = .ok (.aload_n 0, 1) := by decide +kernel
theorem d4_23 : decode prog_39_method_2_code 23 = .ok (.iload_n 1, 1) := by decide +kernel
theorem d4_24 : decode prog_39_method_2_code 24 = .ok (.bipush 91, 2) := by decide +kernel
theorem d4_26 : decode prog_39_method_2_code 26 = .ok (.if_icmp .ne 7, 3) := by decide +kernel
theorem d4_29 : decode prog_39_method_2_code 29 = .ok (.iconst 1, 1) := by decide +kernel
theorem d4_30 : decode prog_39_method_2_code 30 = .ok (.goto 4, 3) := by decide +kernel
theorem d4_33 : decode prog_39_method_2_code 33 = .ok (.iconst 0, 1) := by decide +kernel
theorem d4_34 : decode prog_39_method_2_code 34 = .ok (.putfield 19, 3) := by decide +kernel
theorem d4_37 : decode prog_39_method_2_code 37 = .ok (.goto 29, 3) := by decide +kernel
theorem d4_40 : decode prog_39_method_2_code 40 = .ok (.iload_n 1, 1) := by decide +kernel
theorem d4_41 : decode prog_39_method_2_code 41 = .ok (.invokestatic 23, 3) := by decide +kernel
theorem d4_44 : decode prog_39_method_2_code 44 = .ok (.ifCond .eq 11, 3) := by decide +kernel
theorem d4_47 : decode prog_39_method_2_code 47 = .ok (.aload_n 0, 1) := by decide +kernel
theorem d4_48 : decode prog_39_method_2_code 48 = .ok (.iload_n 1, 1) := by decide +kernel
theorem d4_49 : decode prog_39_method_2_code 49 = .ok (.putfield 11, 3) := by decide +kernel
theorem d4_52 : decode prog_39_method_2_code 52 = .ok (.goto 14, 3) := by decide +kernel
theorem d4_55 : decode prog_39_method_2_code 55 = .ok (.iload_n 1, 1) := by decide +kernel
theorem d4_56 : decode prog_39_method_2_code 56 = .ok (.bipush 93, 2) := by decide +kernel
theorem d4_58 : decode prog_39_method_2_code 58 = .ok (.if_icmp .ne 8, 3) := by decide +kernel
theorem d4_61 : decode prog_39_method_2_code 61 = .ok (.aload_n 0, 1) := by decide +kernel
theorem d4_62 : decode prog_39_method_2_code 62 = .ok (.iconst 0, 1) := by decide +kernel
theorem d4_63 : decode prog_39_method_2_code 63 = .ok (.putfield 19, 3) := by decide +kernel
theorem d4_66 : decode prog_39_method_2_code 66 = .ok (.return_, 1) := by decide +kernel
theorem ef_4 (m : MethodId) (x0 : Addr) (x1 : Int32) : entryFrame m #[(.ref x0), (.int x1)] 2 = mkF m 0 #[.val (.ref x0), .val (.int x1)] [] := by first | (simp [entryFrame, mkF, argsToLocals, Value.category]; done) | rfl
def f4_s0_34001 (p0 : Int32) : Int32 := (if p0 = (91 : Int32) then (1 : Int32) else (0 : Int32))
def f4_quote (p0 : Int32) (w_quote : Int32) (w_inSelector : Int32) (w_escaping : Int32) : Int32 := (if w_quote = (0 : Int32) then (if w_inSelector = (0 : Int32) then w_quote else (if (f5 p0) = (0 : Int32) then (if p0 = (93 : Int32) then w_quote else w_quote) else (p0.toUInt32.toUInt16.toUInt32.toInt32))) else (f8_quote p0 w_quote w_inSelector w_escaping))
def f4_inSelector (p0 : Int32) (w_quote : Int32) (w_inSelector : Int32) (w_escaping : Int32) : Int32 := (if w_quote = (0 : Int32) then (if w_inSelector = (0 : Int32) then ((f4_s0_34001 p0) &&& 1) else (if (f5 p0) = (0 : Int32) then (if p0 = (93 : Int32) then (0 : Int32) else w_inSelector) else w_inSelector)) else w_inSelector)
def f4_escaping (p0 : Int32) (w_quote : Int32) (w_inSelector : Int32) (w_escaping : Int32) : Int32 := (if w_quote = (0 : Int32) then (if w_inSelector = (0 : Int32) then w_escaping else (if (f5 p0) = (0 : Int32) then (if p0 = (93 : Int32) then w_escaping else w_escaping) else w_escaping)) else (f8_escaping p0 w_quote w_inSelector w_escaping))
def Q4 (Z : State) (a0t : Addr) (p0 : Int32) (w_quote : Int32) (w_inSelector : Int32) (w_escaping : Int32) (h0 : Heap) (n0 : Nat) (v : Option Value) (h : Heap) (L : List Loc) : Prop := v = none ∧ Fr n0 L ∧ Keep h0 h [a0t] ∧ Exa Z h a0t "com/example/libinterp/libinterp/PathParser$SelectorScan" ∧ Fld Z h a0t "com/example/libinterp/libinterp/PathParser$SelectorScan" "quote" "C" (.int (f4_quote p0 w_quote w_inSelector w_escaping)) ∧ Fld Z h a0t "com/example/libinterp/libinterp/PathParser$SelectorScan" "inSelector" "Z" (.int (f4_inSelector p0 w_quote w_inSelector w_escaping)) ∧ Fld Z h a0t "com/example/libinterp/libinterp/PathParser$SelectorScan" "escaping" "Z" (.int (f4_escaping p0 w_quote w_inSelector w_escaping))
set_option maxRecDepth 65536 in
set_option maxHeartbeats 40000000 in
theorem rm4 (l : Launch) (Z : State) (a0 : Array Value) (hw : ∀ d ∈ tables_1, d.before a0 Z = true) (ws : List Jvm.Cond) (a0t : Addr) (p0 : Int32) (w_quote : Int32) (w_inSelector : Int32) (w_escaping : Int32) (h0 : Heap) (n0 : Nat) (Z0 : n0 ≤ h0.size) (E_this : Exa Z h0 a0t "com/example/libinterp/libinterp/PathParser$SelectorScan") (g_this : n0 ≤ a0t) (F_quote : Fld Z h0 a0t "com/example/libinterp/libinterp/PathParser$SelectorScan" "quote" "C" (.int w_quote)) (F_inSelector : Fld Z h0 a0t "com/example/libinterp/libinterp/PathParser$SelectorScan" "inSelector" "Z" (.int w_inSelector)) (F_escaping : Fld Z h0 a0t "com/example/libinterp/libinterp/PathParser$SelectorScan" "escaping" "Z" (.int w_escaping)) :
    MetFree l (⟨"com/example/libinterp/libinterp/PathParser$SelectorScan", "read", "(C)V"⟩ : MethodName) (head1 (Jvm.Cond.code (⟨"com/example/libinterp/libinterp/PathParser$SelectorScan", "read", "(C)V"⟩ : MethodName) prog_39_method_2_code 2 none :: ws) ({ frames := 1, cells := 0, slots := 0, locals := 13 } : Room)) (fun a U => a = #[(.ref a0t), (.int p0)] ∧ Z.Warmed39 U.vm ∧ U.heap = h0) (fun _ _ _ _ _ => True) (fun _ U o U' => ∃ v L, o = .returned v ∧ Q4 Z a0t p0 w_quote w_inSelector w_escaping h0 n0 v U'.heap L ∧ FrameEnd U o U' L ({ frames := 1, cells := 0, slots := 0, locals := 13 } : Room).cells ({ frames := 1, cells := 0, slots := 0, locals := 13 } : Room).slots) := by
  refine MetFree.of_bodySF (plainFor_of_name pn_1) hisR ?_
  intro p e s m args below meth c s₁ Bd hml0 hP hK
  obtain ⟨rfl, hZ, hh⟩ := hP
  have hx := Bd.exec
  have hby := Bd.bytes
  have hml : c.maxLocals = 2 := hml0
  have hown : s.vm.findClass "com/example/libinterp/libinterp/PathParser$SelectorScan" = some m.cls := findClass_of_methodNamed Bd.named
  have hnm := (name_of_methodNamed Bd.named Bd.method).1
  have X0 : Stand p l e ({ frames := 1, cells := 0, slots := 0, locals := 13 } : Room) s m #[(.ref a0t), (.int p0)] below meth c s₁ [] 0 0 := Stand.of_body Bd
  have e0 : s₁.heap = h0 := by rw [← hh, Bd.state]; rfl
  have N0 := Fr.nil n0
  have K0 := Keep.refl h0 [a0t]
  have pre0 : ∀ t, Steps p.tables e below (s₁.setTop (mkF m 0 #[.val (.ref a0t), .val (.int p0)] [])) t → Steps p.tables e below (s₁.setTop (entryFrame m #[(.ref a0t), (.int p0)] 2)) t := fun t k => castTop (ef_4 m a0t p0) k
  obtain ⟨T1, X1, e1, st1⟩ := getF X0 hx hZ hown (host := "") (Or.inl (hw _ (List.mem_of_getElem? (i := 13) rfl))) Via.refl e0 F_quote (g := (mkF m 1 #[.val (.ref a0t), .val (.int p0)] [(.ref a0t)])) rfl rfl (hb hby d4_1)
  have pre2 : ∀ t, Steps p.tables e below (T1.setTop (mkF m 4 #[.val (.ref a0t), .val (.int p0)] [(.int w_quote)])) t → Steps p.tables e below (s₁.setTop (entryFrame m #[(.ref a0t), (.int p0)] 2)) t := fun t kt => pre0 t (by
    show Steps p.tables e below (s₁.setTop (mkF m 0 #[.val (.ref a0t), .val (.int p0)] [])) _
    refine XS.aloadN X0.here hx rfl (hb hby d4_0) rfl rfl ?_
    show Steps p.tables e below (s₁.setTop (mkF m 1 #[.val (.ref a0t), .val (.int p0)] [(.ref a0t)])) _
    refine st1 _ ?_
    exact kt)
  by_cases hc3 : w_quote = (0 : Int32)
  · obtain ⟨T4, X4, e4, st4⟩ := getF X1 hx hZ hown (host := "") (Or.inl (hw _ (List.mem_of_getElem? (i := 20) rfl))) Via.refl e1 F_inSelector (g := (mkF m 16 #[.val (.ref a0t), .val (.int p0)] [(.ref a0t)])) rfl rfl (hb hby d4_16)
    have pre5 : ∀ t, Steps p.tables e below (T4.setTop (mkF m 19 #[.val (.ref a0t), .val (.int p0)] [(.int w_inSelector)])) t → Steps p.tables e below (s₁.setTop (entryFrame m #[(.ref a0t), (.int p0)] 2)) t := fun t kt => pre2 t (by
      show Steps p.tables e below (T1.setTop (mkF m 4 #[.val (.ref a0t), .val (.int p0)] [(.int w_quote)])) _
      refine XS.ifYes X1.here hx rfl (pc0 := 4) (pc' := 15) rfl (hb hby d4_4) rfl ((if0 _ _).trans (teq hc3).1) (by decide) (by decide) ?_
      show Steps p.tables e below (T1.setTop (mkF m 15 #[.val (.ref a0t), .val (.int p0)] [])) _
      refine XS.aloadN X1.here hx rfl (hb hby d4_15) rfl rfl ?_
      show Steps p.tables e below (T1.setTop (mkF m 16 #[.val (.ref a0t), .val (.int p0)] [(.ref a0t)])) _
      refine st4 _ ?_
      exact kt)
    by_cases hc6 : w_inSelector = (0 : Int32)
    · have pre7 : ∀ t, Steps p.tables e below (T4.setTop (mkF m 26 #[.val (.ref a0t), .val (.int p0)] [(.int (91 : Int32)), (.int p0), (.ref a0t)])) t → Steps p.tables e below (s₁.setTop (entryFrame m #[(.ref a0t), (.int p0)] 2)) t := fun t kt => pre5 t (by
        show Steps p.tables e below (T4.setTop (mkF m 19 #[.val (.ref a0t), .val (.int p0)] [(.int w_inSelector)])) _
        refine XS.ifNo X4.here hx rfl (hb hby d4_19) rfl ((if0 _ _).trans (teq hc6).2) ?_
        show Steps p.tables e below (T4.setTop (mkF m 22 #[.val (.ref a0t), .val (.int p0)] [])) _
        refine XS.aloadN X4.here hx rfl (hb hby d4_22) rfl rfl ?_
        show Steps p.tables e below (T4.setTop (mkF m 23 #[.val (.ref a0t), .val (.int p0)] [(.ref a0t)])) _
        refine XS.iloadN X4.here hx rfl (hb hby d4_23) rfl ?_
        show Steps p.tables e below (T4.setTop (mkF m 24 #[.val (.ref a0t), .val (.int p0)] [(.int p0), (.ref a0t)])) _
        refine XS.bipush X4.here hx rfl (hb hby d4_24) ?_
        exact kt)
      have pre9 : ∀ t, Steps p.tables e below (T4.setTop (mkF m 34 #[.val (.ref a0t), .val (.int p0)] [(.int (f4_s0_34001 p0)), (.ref a0t)])) t → Steps p.tables e below (s₁.setTop (entryFrame m #[(.ref a0t), (.int p0)] 2)) t := by
        intro t kt
        by_cases hc8 : p0 = (91 : Int32)
        · have hj : (f4_s0_34001 p0) = (1 : Int32) := by unfold f4_s0_34001; rw [if_pos hc8]
          rw [hj] at kt
          refine pre7 t ?_
          show Steps p.tables e below (T4.setTop (mkF m 26 #[.val (.ref a0t), .val (.int p0)] [(.int (91 : Int32)), (.int p0), (.ref a0t)])) _
          refine XS.icmpNo X4.here hx rfl (hb hby d4_26) rfl (teq hc8).2 ?_
          show Steps p.tables e below (T4.setTop (mkF m 29 #[.val (.ref a0t), .val (.int p0)] [(.ref a0t)])) _
          refine XS.iconst X4.here hx rfl (hb hby d4_29) ?_
          show Steps p.tables e below (T4.setTop (mkF m 30 #[.val (.ref a0t), .val (.int p0)] [(.int (1 : Int32)), (.ref a0t)])) _
          refine XS.goto X4.here hx rfl (pc0 := 30) (pc' := 34) rfl (hb hby d4_30) (by decide) (by decide) ?_
          exact kt
        · have hj : (f4_s0_34001 p0) = (0 : Int32) := by unfold f4_s0_34001; rw [if_neg hc8]
          rw [hj] at kt
          refine pre7 t ?_
          show Steps p.tables e below (T4.setTop (mkF m 26 #[.val (.ref a0t), .val (.int p0)] [(.int (91 : Int32)), (.int p0), (.ref a0t)])) _
          refine XS.icmpYes X4.here hx rfl (pc0 := 26) (pc' := 33) rfl (hb hby d4_26) rfl (feq hc8).2 (by decide) (by decide) ?_
          show Steps p.tables e below (T4.setTop (mkF m 33 #[.val (.ref a0t), .val (.int p0)] [(.ref a0t)])) _
          refine XS.iconst X4.here hx rfl (hb hby d4_33) ?_
          exact kt
      obtain ⟨T10, h10, X10, e10, W10, st10⟩ := putFN X4 hx hZ hown (hw _ (List.mem_of_getElem? (i := 20) rfl)) Via.refl e4 F_inSelector E_this (Or.inl (hw _ (List.mem_of_getElem? (i := 21) rfl))) (hw _ (List.mem_of_getElem? (i := 5) rfl)) (ty := .boolean) (v' := (.int ((f4_s0_34001 p0) &&& 1))) (by decide) rfl (fits_nar_bool _) (g := (mkF m 34 #[.val (.ref a0t), .val (.int p0)] [(.int (f4_s0_34001 p0)), (.ref a0t)])) rfl rfl (hb hby d4_34)
      have F_quote_a0t_10 := F_quote.other W10 (Or.inr (slot_ne (Or.inl (hw _ (List.mem_of_getElem? (i := 14) rfl))) (Or.inl (hw _ (List.mem_of_getElem? (i := 21) rfl))) (by decide) (t := .char) (t' := .boolean) (by decide) (by decide)))
      have F_inSelector_a0t_10 := F_inSelector.same W10
      have F_escaping_a0t_10 := F_escaping.other W10 (Or.inr (slot_ne (Or.inl (hw _ (List.mem_of_getElem? (i := 39) rfl))) (Or.inl (hw _ (List.mem_of_getElem? (i := 21) rfl))) (by decide) (t := .boolean) (t' := .boolean) (by decide) (by decide)))
      have E_a0t_10 := E_this.wr W10
      have N10 := Fr.snoc X10 N0 g_this
      have Zz10 := Nat.le_trans Z0 (Keep.of_wr W10).1
      have K10 : Keep h0 h10 [a0t] := K0.wr W10 (Or.inl (by simp))
      obtain ⟨fs, hr, hrun, hended, hW, hsame⟩ := X10.leave (v := none) (fun _ => rfl)
      refine ⟨_, _, pre9 _ ?_, hrun, hended, _, _, rfl, ?_, ⟨_, rfl⟩, hW, hsame.mono (by decide) (by decide)⟩
      · show Steps p.tables e below (T4.setTop (mkF m 34 #[.val (.ref a0t), .val (.int p0)] [(.int (f4_s0_34001 p0)), (.ref a0t)])) _
        refine st10 _ ?_
        show Steps p.tables e below (T10.setTop (mkF m 37 #[.val (.ref a0t), .val (.int p0)] [])) _
        refine XS.goto X10.here hx rfl (pc0 := 37) (pc' := 66) rfl (hb hby d4_37) (by decide) (by decide) ?_
        show Steps p.tables e below (T10.setTop (mkF m 66 #[.val (.ref a0t), .val (.int p0)] [])) _
        exact X10.returnOut hx Bd.returns (hb hby d4_66) hr
      · show Q4 Z a0t p0 w_quote w_inSelector w_escaping h0 n0 _ T10.heap _
        rw [e10]
        exact ⟨rfl, N10, K10, E_a0t_10, by rw [show f4_quote p0 w_quote w_inSelector w_escaping = w_quote from by unfold f4_quote; rw [if_pos hc3, if_pos hc6]]; exact F_quote_a0t_10, by rw [show f4_inSelector p0 w_quote w_inSelector w_escaping = ((f4_s0_34001 p0) &&& 1) from by unfold f4_inSelector; rw [if_pos hc3, if_pos hc6]]; exact F_inSelector_a0t_10, by rw [show f4_escaping p0 w_quote w_inSelector w_escaping = w_escaping from by unfold f4_escaping; rw [if_pos hc3, if_pos hc6]]; exact F_escaping_a0t_10⟩
    · obtain ⟨_, _, ⟨T11, L11, k11, n11⟩, -, X11, ⟨Lc11, hQ11, l11, y11, z11⟩, st11⟩ := Jvm.LawKit.callS X4 hx (y := (⟨"com/example/libinterp/libinterp/PathParser", "isQuote", "(C)Z"⟩ : MethodName)) hown (mvT hZ (hw _ (List.mem_of_getElem? (i := 22) rfl))) (mvT hZ (hw _ (List.mem_of_getElem? (i := 23) rfl))) (mvT hZ (hw _ (List.mem_of_getElem? (i := 24) rfl))) (mvT hZ (hw _ (List.mem_of_getElem? (i := 25) rfl))) (by decide) (backOf (W := 0) (rm5 l Z a0 hw [] p0 h0 n0 Z0) hZ (hw _ (List.mem_of_getElem? (i := 25) rfl)) (hw _ (List.mem_of_getElem? (i := 24) rfl)) (by decide) (by decide)) (g := (mkF m 41 #[.val (.ref a0t), .val (.int p0)] [(.int p0)])) rfl (by rw [hml]; rfl) (argsL := [(.int p0)]) (rest := []) (lenOf pd_0 rfl) rfl (by show 2 * 0 + _ ≤ _; exact Nat.le_of_eq rfl) (hb hby d4_41) (fun _ _ => ⟨rfl, e4, (by decide : 0 + 0 ≤ _), (by decide : 0 + 0 ≤ _)⟩)
      dsimp only [Pt.U, Pt.locs, Pt.cells, Pt.slots] at X11 l11 y11 z11 st11 hQ11
      subst l11 y11 z11
      obtain ⟨rfl, N11q, e11⟩ := hQ11
      have N11 := Fr.app N0 N11q
      have pre12 : ∀ t, Steps p.tables e below (T11.setTop (mkF m 44 #[.val (.ref a0t), .val (.int p0)] [(.int (f5 p0))])) t → Steps p.tables e below (s₁.setTop (entryFrame m #[(.ref a0t), (.int p0)] 2)) t := fun t kt => pre5 t (by
        show Steps p.tables e below (T4.setTop (mkF m 19 #[.val (.ref a0t), .val (.int p0)] [(.int w_inSelector)])) _
        refine XS.ifYes X4.here hx rfl (pc0 := 19) (pc' := 40) rfl (hb hby d4_19) rfl ((if0 _ _).trans (feq hc6).2) (by decide) (by decide) ?_
        show Steps p.tables e below (T4.setTop (mkF m 40 #[.val (.ref a0t), .val (.int p0)] [])) _
        refine XS.iloadN X4.here hx rfl (hb hby d4_40) rfl ?_
        show Steps p.tables e below (T4.setTop (mkF m 41 #[.val (.ref a0t), .val (.int p0)] [(.int p0)])) _
        refine st11 _ ?_
        exact kt)
      by_cases hc13 : (f5 p0) = (0 : Int32)
      · have pre14 : ∀ t, Steps p.tables e below (T11.setTop (mkF m 58 #[.val (.ref a0t), .val (.int p0)] [(.int (93 : Int32)), (.int p0)])) t → Steps p.tables e below (s₁.setTop (entryFrame m #[(.ref a0t), (.int p0)] 2)) t := fun t kt => pre12 t (by
          show Steps p.tables e below (T11.setTop (mkF m 44 #[.val (.ref a0t), .val (.int p0)] [(.int (f5 p0))])) _
          refine XS.ifYes X11.here hx rfl (pc0 := 44) (pc' := 55) rfl (hb hby d4_44) rfl ((if0 _ _).trans (teq hc13).1) (by decide) (by decide) ?_
          show Steps p.tables e below (T11.setTop (mkF m 55 #[.val (.ref a0t), .val (.int p0)] [])) _
          refine XS.iloadN X11.here hx rfl (hb hby d4_55) rfl ?_
          show Steps p.tables e below (T11.setTop (mkF m 56 #[.val (.ref a0t), .val (.int p0)] [(.int p0)])) _
          refine XS.bipush X11.here hx rfl (hb hby d4_56) ?_
          exact kt)
        by_cases hc15 : p0 = (93 : Int32)
        · obtain ⟨T16, h16, X16, e16, W16, st16⟩ := putFN X11 hx hZ hown (hw _ (List.mem_of_getElem? (i := 20) rfl)) Via.refl e11 F_inSelector E_this (Or.inl (hw _ (List.mem_of_getElem? (i := 21) rfl))) (hw _ (List.mem_of_getElem? (i := 5) rfl)) (ty := .boolean) (v' := (.int (0 : Int32))) (by decide) rfl (by decide) (g := (mkF m 63 #[.val (.ref a0t), .val (.int p0)] [(.int (0 : Int32)), (.ref a0t)])) rfl rfl (hb hby d4_63)
          have F_quote_a0t_16 := F_quote.other W16 (Or.inr (slot_ne (Or.inl (hw _ (List.mem_of_getElem? (i := 14) rfl))) (Or.inl (hw _ (List.mem_of_getElem? (i := 21) rfl))) (by decide) (t := .char) (t' := .boolean) (by decide) (by decide)))
          have F_inSelector_a0t_16 := F_inSelector.same W16
          have F_escaping_a0t_16 := F_escaping.other W16 (Or.inr (slot_ne (Or.inl (hw _ (List.mem_of_getElem? (i := 39) rfl))) (Or.inl (hw _ (List.mem_of_getElem? (i := 21) rfl))) (by decide) (t := .boolean) (t' := .boolean) (by decide) (by decide)))
          have E_a0t_16 := E_this.wr W16
          have N16 := Fr.snoc X16 N11 g_this
          have Zz16 := Nat.le_trans Z0 (Keep.of_wr W16).1
          have K16 : Keep h0 h16 [a0t] := K0.wr W16 (Or.inl (by simp))
          obtain ⟨fs, hr, hrun, hended, hW, hsame⟩ := X16.leave (v := none) (fun _ => rfl)
          refine ⟨_, _, pre14 _ ?_, hrun, hended, _, _, rfl, ?_, ⟨_, rfl⟩, hW, hsame.mono (by decide) (by decide)⟩
          · show Steps p.tables e below (T11.setTop (mkF m 58 #[.val (.ref a0t), .val (.int p0)] [(.int (93 : Int32)), (.int p0)])) _
            refine XS.icmpNo X11.here hx rfl (hb hby d4_58) rfl (teq hc15).2 ?_
            show Steps p.tables e below (T11.setTop (mkF m 61 #[.val (.ref a0t), .val (.int p0)] [])) _
            refine XS.aloadN X11.here hx rfl (hb hby d4_61) rfl rfl ?_
            show Steps p.tables e below (T11.setTop (mkF m 62 #[.val (.ref a0t), .val (.int p0)] [(.ref a0t)])) _
            refine XS.iconst X11.here hx rfl (hb hby d4_62) ?_
            show Steps p.tables e below (T11.setTop (mkF m 63 #[.val (.ref a0t), .val (.int p0)] [(.int (0 : Int32)), (.ref a0t)])) _
            refine st16 _ ?_
            show Steps p.tables e below (T16.setTop (mkF m 66 #[.val (.ref a0t), .val (.int p0)] [])) _
            exact X16.returnOut hx Bd.returns (hb hby d4_66) hr
          · show Q4 Z a0t p0 w_quote w_inSelector w_escaping h0 n0 _ T16.heap _
            rw [e16]
            exact ⟨rfl, N16, K16, E_a0t_16, by rw [show f4_quote p0 w_quote w_inSelector w_escaping = w_quote from by unfold f4_quote; rw [if_pos hc3, if_neg hc6, if_pos hc13, if_pos hc15]]; exact F_quote_a0t_16, by rw [show f4_inSelector p0 w_quote w_inSelector w_escaping = (0 : Int32) from by unfold f4_inSelector; rw [if_pos hc3, if_neg hc6, if_pos hc13, if_pos hc15]]; exact F_inSelector_a0t_16, by rw [show f4_escaping p0 w_quote w_inSelector w_escaping = w_escaping from by unfold f4_escaping; rw [if_pos hc3, if_neg hc6, if_pos hc13, if_pos hc15]]; exact F_escaping_a0t_16⟩
        · obtain ⟨fs, hr, hrun, hended, hW, hsame⟩ := X11.leave (v := none) (fun _ => rfl)
          refine ⟨_, _, pre14 _ ?_, hrun, hended, _, _, rfl, ?_, ⟨_, rfl⟩, hW, hsame.mono (by decide) (by decide)⟩
          · show Steps p.tables e below (T11.setTop (mkF m 58 #[.val (.ref a0t), .val (.int p0)] [(.int (93 : Int32)), (.int p0)])) _
            refine XS.icmpYes X11.here hx rfl (pc0 := 58) (pc' := 66) rfl (hb hby d4_58) rfl (feq hc15).2 (by decide) (by decide) ?_
            show Steps p.tables e below (T11.setTop (mkF m 66 #[.val (.ref a0t), .val (.int p0)] [])) _
            exact X11.returnOut hx Bd.returns (hb hby d4_66) hr
          · show Q4 Z a0t p0 w_quote w_inSelector w_escaping h0 n0 _ T11.heap _
            rw [e11]
            exact ⟨rfl, N11, K0, E_this, by rw [show f4_quote p0 w_quote w_inSelector w_escaping = w_quote from by unfold f4_quote; rw [if_pos hc3, if_neg hc6, if_pos hc13, if_neg hc15]]; exact F_quote, by rw [show f4_inSelector p0 w_quote w_inSelector w_escaping = w_inSelector from by unfold f4_inSelector; rw [if_pos hc3, if_neg hc6, if_pos hc13, if_neg hc15]]; exact F_inSelector, by rw [show f4_escaping p0 w_quote w_inSelector w_escaping = w_escaping from by unfold f4_escaping; rw [if_pos hc3, if_neg hc6, if_pos hc13, if_neg hc15]]; exact F_escaping⟩
      · obtain ⟨T17, h17, X17, e17, W17, st17⟩ := putFN X11 hx hZ hown (hw _ (List.mem_of_getElem? (i := 13) rfl)) Via.refl e11 F_quote E_this (Or.inl (hw _ (List.mem_of_getElem? (i := 14) rfl))) (hw _ (List.mem_of_getElem? (i := 5) rfl)) (ty := .char) (v' := (.int (p0.toUInt32.toUInt16.toUInt32.toInt32))) (by decide) rfl (fits_nar_char _) (g := (mkF m 49 #[.val (.ref a0t), .val (.int p0)] [(.int p0), (.ref a0t)])) rfl rfl (hb hby d4_49)
        have F_quote_a0t_17 := F_quote.same W17
        have F_inSelector_a0t_17 := F_inSelector.other W17 (Or.inr (slot_ne (Or.inl (hw _ (List.mem_of_getElem? (i := 21) rfl))) (Or.inl (hw _ (List.mem_of_getElem? (i := 14) rfl))) (by decide) (t := .boolean) (t' := .char) (by decide) (by decide)))
        have F_escaping_a0t_17 := F_escaping.other W17 (Or.inr (slot_ne (Or.inl (hw _ (List.mem_of_getElem? (i := 39) rfl))) (Or.inl (hw _ (List.mem_of_getElem? (i := 14) rfl))) (by decide) (t := .boolean) (t' := .char) (by decide) (by decide)))
        have E_a0t_17 := E_this.wr W17
        have N17 := Fr.snoc X17 N11 g_this
        have Zz17 := Nat.le_trans Z0 (Keep.of_wr W17).1
        have K17 : Keep h0 h17 [a0t] := K0.wr W17 (Or.inl (by simp))
        obtain ⟨fs, hr, hrun, hended, hW, hsame⟩ := X17.leave (v := none) (fun _ => rfl)
        refine ⟨_, _, pre12 _ ?_, hrun, hended, _, _, rfl, ?_, ⟨_, rfl⟩, hW, hsame.mono (by decide) (by decide)⟩
        · show Steps p.tables e below (T11.setTop (mkF m 44 #[.val (.ref a0t), .val (.int p0)] [(.int (f5 p0))])) _
          refine XS.ifNo X11.here hx rfl (hb hby d4_44) rfl ((if0 _ _).trans (feq hc13).1) ?_
          show Steps p.tables e below (T11.setTop (mkF m 47 #[.val (.ref a0t), .val (.int p0)] [])) _
          refine XS.aloadN X11.here hx rfl (hb hby d4_47) rfl rfl ?_
          show Steps p.tables e below (T11.setTop (mkF m 48 #[.val (.ref a0t), .val (.int p0)] [(.ref a0t)])) _
          refine XS.iloadN X11.here hx rfl (hb hby d4_48) rfl ?_
          show Steps p.tables e below (T11.setTop (mkF m 49 #[.val (.ref a0t), .val (.int p0)] [(.int p0), (.ref a0t)])) _
          refine st17 _ ?_
          show Steps p.tables e below (T17.setTop (mkF m 52 #[.val (.ref a0t), .val (.int p0)] [])) _
          refine XS.goto X17.here hx rfl (pc0 := 52) (pc' := 66) rfl (hb hby d4_52) (by decide) (by decide) ?_
          show Steps p.tables e below (T17.setTop (mkF m 66 #[.val (.ref a0t), .val (.int p0)] [])) _
          exact X17.returnOut hx Bd.returns (hb hby d4_66) hr
        · show Q4 Z a0t p0 w_quote w_inSelector w_escaping h0 n0 _ T17.heap _
          rw [e17]
          exact ⟨rfl, N17, K17, E_a0t_17, by rw [show f4_quote p0 w_quote w_inSelector w_escaping = (p0.toUInt32.toUInt16.toUInt32.toInt32) from by unfold f4_quote; rw [if_pos hc3, if_neg hc6, if_neg hc13]]; exact F_quote_a0t_17, by rw [show f4_inSelector p0 w_quote w_inSelector w_escaping = w_inSelector from by unfold f4_inSelector; rw [if_pos hc3, if_neg hc6, if_neg hc13]]; exact F_inSelector_a0t_17, by rw [show f4_escaping p0 w_quote w_inSelector w_escaping = w_escaping from by unfold f4_escaping; rw [if_pos hc3, if_neg hc6, if_neg hc13]]; exact F_escaping_a0t_17⟩
  · obtain ⟨cq18, q18, q18'⟩ := E_this.cell
    obtain ⟨_, _, ⟨T18, L18, k18, n18⟩, -, X18, ⟨Lc18, hQ18, l18, y18, z18⟩, st18⟩ := X1.privateBack hx (y := (⟨"com/example/libinterp/libinterp/PathParser$SelectorScan", "readQuoted", "(C)V"⟩ : MethodName)) hown (mvT hZ (hw _ (List.mem_of_getElem? (i := 34) rfl))) (mvT hZ (hw _ (List.mem_of_getElem? (i := 35) rfl))) (own_sel (y' := (⟨"com/example/libinterp/libinterp/PathParser$SelectorScan", "read", "(C)V"⟩ : MethodName)) rfl (notFace_of_selects (args := #[]) (mvT hZ (hw _ (List.mem_of_getElem? (i := 18) rfl)))) (mvT hZ (hw _ (List.mem_of_getElem? (i := 17) rfl))) (Cond.privateMethod_at (mvP hZ (hw _ (List.mem_of_getElem? (i := 36) rfl)) (args := #[]))) (mvT hZ (hw _ (List.mem_of_getElem? (i := 35) rfl))) (by decide)) (Cond.privateMethod_at (mvP hZ (hw _ (List.mem_of_getElem? (i := 36) rfl)) (args := #[]))) (mvT hZ (hw _ (List.mem_of_getElem? (i := 37) rfl))) (by decide) (backOf (W := 0) (rm8 l Z a0 hw [] a0t p0 w_quote w_inSelector w_escaping h0 n0 Z0 E_this g_this F_quote F_inSelector F_escaping) hZ (hw _ (List.mem_of_getElem? (i := 37) rfl)) (hw _ (List.mem_of_getElem? (i := 6) rfl)) (by decide) (by decide)) (g := (mkF m 9 #[.val (.ref a0t), .val (.int p0)] [(.int p0), (.ref a0t)])) rfl (by rw [hml]; rfl) (Steps.refl _) (a := a0t) (by rw [e1]; exact q18) q18' (argsL := [(.int p0)]) (rest := []) (lenOf pd_1 rfl) rfl (by show 2 * 0 + _ ≤ _; exact Nat.le_of_eq rfl) (hb hby d4_9) (fun _ _ => ⟨rfl, e1, (by decide : 0 + 0 ≤ _), (by decide : 0 + 0 ≤ _)⟩)
    dsimp only [Pt.U, Pt.locs, Pt.cells, Pt.slots] at X18 l18 y18 z18 st18 hQ18
    subst l18 y18 z18
    obtain ⟨rfl, N18q, K18q, E18q, F18q_quote, F18q_inSelector, F18q_escaping⟩ := hQ18
    have Zz18 := Nat.le_trans Z0 K18q.1
    have K18 : Keep h0 T18.heap [a0t] := K0.trans K18q (allS (Or.inl (by simp)) all0)
    have N18 := Fr.app N0 N18q
    obtain ⟨fs, hr, hrun, hended, hW, hsame⟩ := X18.leave (v := none) (fun _ => rfl)
    refine ⟨_, _, pre2 _ ?_, hrun, hended, _, _, rfl, ?_, ⟨_, rfl⟩, hW, hsame.mono (by decide) (by decide)⟩
    · show Steps p.tables e below (T1.setTop (mkF m 4 #[.val (.ref a0t), .val (.int p0)] [(.int w_quote)])) _
      refine XS.ifNo X1.here hx rfl (hb hby d4_4) rfl ((if0 _ _).trans (feq hc3).1) ?_
      show Steps p.tables e below (T1.setTop (mkF m 7 #[.val (.ref a0t), .val (.int p0)] [])) _
      refine XS.aloadN X1.here hx rfl (hb hby d4_7) rfl rfl ?_
      show Steps p.tables e below (T1.setTop (mkF m 8 #[.val (.ref a0t), .val (.int p0)] [(.ref a0t)])) _
      refine XS.iloadN X1.here hx rfl (hb hby d4_8) rfl ?_
      show Steps p.tables e below (T1.setTop (mkF m 9 #[.val (.ref a0t), .val (.int p0)] [(.int p0), (.ref a0t)])) _
      refine st18.trans ?_
      show Steps p.tables e below (T18.setTop (mkF m 12 #[.val (.ref a0t), .val (.int p0)] [])) _
      refine XS.goto X18.here hx rfl (pc0 := 12) (pc' := 66) rfl (hb hby d4_12) (by decide) (by decide) ?_
      show Steps p.tables e below (T18.setTop (mkF m 66 #[.val (.ref a0t), .val (.int p0)] [])) _
      exact X18.returnOut hx Bd.returns (hb hby d4_66) hr
    · show Q4 Z a0t p0 w_quote w_inSelector w_escaping h0 n0 _ T18.heap _
      exact ⟨rfl, N18, K18, E18q, by rw [show f4_quote p0 w_quote w_inSelector w_escaping = (f8_quote p0 w_quote w_inSelector w_escaping) from by unfold f4_quote; rw [if_neg hc3]]; exact F18q_quote, by rw [show f4_inSelector p0 w_quote w_inSelector w_escaping = w_inSelector from by unfold f4_inSelector; rw [if_neg hc3]]; exact F18q_inSelector, by rw [show f4_escaping p0 w_quote w_inSelector w_escaping = (f8_escaping p0 w_quote w_inSelector w_escaping) from by unfold f4_escaping; rw [if_neg hc3]]; exact F18q_escaping⟩
theorem d6_0 : decode prog_39_method_4_code 0 = .ok (.aload_n 0, 1) := by decide +kernel
theorem d6_1 : decode prog_39_method_4_code 1 = .ok (.getfield 19, 3) := by decide +kernel
theorem d6_4 : decode prog_39_method_4_code 4 = .ok (.ifCond .ne 7, 3) := by decide +kernel
theorem d6_7 : decode prog_39_method_4_code 7 = .ok (.iconst 1, 1) := by decide +kernel
theorem d6_8 : decode prog_39_method_4_code 8 = .ok (.goto 4, 3) := by decide +kernel
theorem d6_11 : decode prog_39_method_4_code 11 = .ok (.iconst 0, 1) := by decide +kernel
theorem d6_12 : decode prog_39_method_4_code 12 = .ok (.ireturn, 1) := by decide +kernel
theorem ef_6 (m : MethodId) (x0 : Addr) : entryFrame m #[(.ref x0)] 1 = mkF m 0 #[.val (.ref x0)] [] := by first | (simp [entryFrame, mkF, argsToLocals, Value.category]; done) | rfl
def f6 (w_quote : Int32) (w_inSelector : Int32) (w_escaping : Int32) : Int32 := (if w_inSelector = (0 : Int32) then (1 : Int32) else (0 : Int32))
def Q6 (Z : State) (a0t : Addr) (w_quote : Int32) (w_inSelector : Int32) (w_escaping : Int32) (h0 : Heap) (n0 : Nat) (v : Option Value) (h : Heap) (L : List Loc) : Prop := v = some (.int (f6 w_quote w_inSelector w_escaping)) ∧ Fr n0 L ∧ h = h0
set_option maxRecDepth 65536 in
set_option maxHeartbeats 40000000 in
theorem rm6 (l : Launch) (Z : State) (a0 : Array Value) (hw : ∀ d ∈ tables_1, d.before a0 Z = true) (ws : List Jvm.Cond) (a0t : Addr) (w_quote : Int32) (w_inSelector : Int32) (w_escaping : Int32) (h0 : Heap) (n0 : Nat) (Z0 : n0 ≤ h0.size) (E_this : Exa Z h0 a0t "com/example/libinterp/libinterp/PathParser$SelectorScan") (g_this : n0 ≤ a0t) (F_quote : Fld Z h0 a0t "com/example/libinterp/libinterp/PathParser$SelectorScan" "quote" "C" (.int w_quote)) (F_inSelector : Fld Z h0 a0t "com/example/libinterp/libinterp/PathParser$SelectorScan" "inSelector" "Z" (.int w_inSelector)) (F_escaping : Fld Z h0 a0t "com/example/libinterp/libinterp/PathParser$SelectorScan" "escaping" "Z" (.int w_escaping)) :
    MetFree l (⟨"com/example/libinterp/libinterp/PathParser$SelectorScan", "isOutside", "()Z"⟩ : MethodName) (head1 (Jvm.Cond.code (⟨"com/example/libinterp/libinterp/PathParser$SelectorScan", "isOutside", "()Z"⟩ : MethodName) prog_39_method_4_code 1 (some .boolean) :: ws) ({ frames := 0, cells := 0, slots := 0, locals := 0 } : Room)) (fun a U => a = #[(.ref a0t)] ∧ Z.Warmed39 U.vm ∧ U.heap = h0) (fun _ _ _ _ _ => True) (fun _ U o U' => ∃ v L, o = .returned v ∧ Q6 Z a0t w_quote w_inSelector w_escaping h0 n0 v U'.heap L ∧ FrameEnd U o U' L ({ frames := 0, cells := 0, slots := 0, locals := 0 } : Room).cells ({ frames := 0, cells := 0, slots := 0, locals := 0 } : Room).slots) := by
  refine MetFree.of_bodySF (plainFor_of_name pn_1) hisR ?_
  intro p e s m args below meth c s₁ Bd hml0 hP hK
  obtain ⟨rfl, hZ, hh⟩ := hP
  have hx := Bd.exec
  have hby := Bd.bytes
  have hml : c.maxLocals = 1 := hml0
  have hown : s.vm.findClass "com/example/libinterp/libinterp/PathParser$SelectorScan" = some m.cls := findClass_of_methodNamed Bd.named
  have hnm := (name_of_methodNamed Bd.named Bd.method).1
  have X0 : Stand p l e ({ frames := 0, cells := 0, slots := 0, locals := 0 } : Room) s m #[(.ref a0t)] below meth c s₁ [] 0 0 := Stand.of_body Bd
  have e0 : s₁.heap = h0 := by rw [← hh, Bd.state]; rfl
  have N0 := Fr.nil n0
  have K0 := Keep.refl h0 [a0t]
  have pre0 : ∀ t, Steps p.tables e below (s₁.setTop (mkF m 0 #[.val (.ref a0t)] [])) t → Steps p.tables e below (s₁.setTop (entryFrame m #[(.ref a0t)] 1)) t := fun t k => castTop (ef_6 m a0t) k
  obtain ⟨T1, X1, e1, st1⟩ := getF X0 hx hZ hown (host := "") (Or.inl (hw _ (List.mem_of_getElem? (i := 20) rfl))) Via.refl e0 F_inSelector (g := (mkF m 1 #[.val (.ref a0t)] [(.ref a0t)])) rfl rfl (hb hby d6_1)
  have pre2 : ∀ t, Steps p.tables e below (T1.setTop (mkF m 4 #[.val (.ref a0t)] [(.int w_inSelector)])) t → Steps p.tables e below (s₁.setTop (entryFrame m #[(.ref a0t)] 1)) t := fun t kt => pre0 t (by
    show Steps p.tables e below (s₁.setTop (mkF m 0 #[.val (.ref a0t)] [])) _
    refine XS.aloadN X0.here hx rfl (hb hby d6_0) rfl rfl ?_
    show Steps p.tables e below (s₁.setTop (mkF m 1 #[.val (.ref a0t)] [(.ref a0t)])) _
    refine st1 _ ?_
    exact kt)
  by_cases hc3 : w_inSelector = (0 : Int32)
  · obtain ⟨fs, hr, hrun, hended, hW, hsame⟩ := X1.leave (v := some (.int (1 : Int32))) (fun h => by rw [Bd.returns] at h; cases h)
    refine ⟨_, _, pre2 _ ?_, hrun, hended, _, _, rfl, ?_, ⟨_, rfl⟩, hW, hsame.mono (by decide) (by decide)⟩
    · show Steps p.tables e below (T1.setTop (mkF m 4 #[.val (.ref a0t)] [(.int w_inSelector)])) _
      refine XS.ifNo X1.here hx rfl (hb hby d6_4) rfl ((if0 _ _).trans (teq hc3).2) ?_
      show Steps p.tables e below (T1.setTop (mkF m 7 #[.val (.ref a0t)] [])) _
      refine XS.iconst X1.here hx rfl (hb hby d6_7) ?_
      show Steps p.tables e below (T1.setTop (mkF m 8 #[.val (.ref a0t)] [(.int (1 : Int32))])) _
      refine XS.goto X1.here hx rfl (pc0 := 8) (pc' := 12) rfl (hb hby d6_8) (by decide) (by decide) ?_
      show Steps p.tables e below (T1.setTop (mkF m 12 #[.val (.ref a0t)] [(.int (1 : Int32))])) _
      exact retN X1 hx (t := .boolean) Bd.returns (by simp) (hb hby d6_12) hr
    · show Q6 Z a0t w_quote w_inSelector w_escaping h0 n0 _ T1.heap _
      rw [e1]
      exact ⟨by rw [show f6 w_quote w_inSelector w_escaping = (1 : Int32) from by unfold f6; rw [if_pos hc3]], N0, rfl⟩
  · obtain ⟨fs, hr, hrun, hended, hW, hsame⟩ := X1.leave (v := some (.int (0 : Int32))) (fun h => by rw [Bd.returns] at h; cases h)
    refine ⟨_, _, pre2 _ ?_, hrun, hended, _, _, rfl, ?_, ⟨_, rfl⟩, hW, hsame.mono (by decide) (by decide)⟩
    · show Steps p.tables e below (T1.setTop (mkF m 4 #[.val (.ref a0t)] [(.int w_inSelector)])) _
      refine XS.ifYes X1.here hx rfl (pc0 := 4) (pc' := 11) rfl (hb hby d6_4) rfl ((if0 _ _).trans (feq hc3).2) (by decide) (by decide) ?_
      show Steps p.tables e below (T1.setTop (mkF m 11 #[.val (.ref a0t)] [])) _
      refine XS.iconst X1.here hx rfl (hb hby d6_11) ?_
      show Steps p.tables e below (T1.setTop (mkF m 12 #[.val (.ref a0t)] [(.int (0 : Int32))])) _
      exact retN X1 hx (t := .boolean) Bd.returns (by simp) (hb hby d6_12) hr
    · show Q6 Z a0t w_quote w_inSelector w_escaping h0 n0 _ T1.heap _
      rw [e1]
      exact ⟨by rw [show f6 w_quote w_inSelector w_escaping = (0 : Int32) from by unfold f6; rw [if_neg hc3]], N0, rfl⟩
theorem d7_0 : decode method_3_code 0 = .ok (.iload_n 0, 1) := by decide +kernel
theorem d7_1 : decode method_3_code 1 = .ok (.bipush 39, 2) := by decide +kernel
theorem d7_3 : decode method_3_code 3 = .ok (.if_icmp .eq 9, 3) := by decide +kernel
theorem d7_6 : decode method_3_code 6 = .ok (.iload_n 0, 1) := by decide +kernel
theorem d7_7 : decode method_3_code 7 = .ok (.bipush 34, 2) := by decide +kernel
theorem d7_9 : decode method_3_code 9 = .ok (.if_icmp .ne 7, 3) := by decide +kernel
theorem d7_12 : decode method_3_code 12 = .ok (.iconst 1, 1) := by decide +kernel
theorem d7_13 : decode method_3_code 13 = .ok (.goto 4, 3) := by decide +kernel
theorem d7_16 : decode method_3_code 16 = .ok (.iconst 0, 1) := by decide +kernel
theorem d7_17 : decode method_3_code 17 = .ok (.ireturn, 1) := by decide +kernel
theorem ef_7 (m : MethodId) (x0 : Int32) : entryFrame m #[(.int x0)] 1 = mkF m 0 #[.val (.int x0)] [] := by first | (simp [entryFrame, mkF, argsToLocals, Value.category]; done) | rfl
def f7 (p0 : Int32) : Int32 := (if p0 = (39 : Int32) then (1 : Int32) else (if p0 = (34 : Int32) then (1 : Int32) else (0 : Int32)))
def Q7 (Z : State) (p0 : Int32) (h0 : Heap) (n0 : Nat) (v : Option Value) (h : Heap) (L : List Loc) : Prop := v = some (.int (f7 p0)) ∧ Fr n0 L ∧ h = h0
set_option maxRecDepth 65536 in
set_option maxHeartbeats 40000000 in
theorem rm7 (l : Launch) (Z : State) (a0 : Array Value) (hw : ∀ d ∈ tables_1, d.before a0 Z = true) (ws : List Jvm.Cond) (p0 : Int32) (h0 : Heap) (n0 : Nat) (Z0 : n0 ≤ h0.size)  :
    MetFree l (⟨"com/example/libinterp/libinterp/SelectorScanReadPinLaw", "isQuote", "(C)Z"⟩ : MethodName) (head1 (Jvm.Cond.code (⟨"com/example/libinterp/libinterp/SelectorScanReadPinLaw", "isQuote", "(C)Z"⟩ : MethodName) method_3_code 1 (some .boolean) :: ws) ({ frames := 0, cells := 0, slots := 0, locals := 0 } : Room)) (fun a U => a = #[(.int p0)] ∧ Z.Warmed39 U.vm ∧ U.heap = h0) (fun _ _ _ _ _ => True) (fun _ U o U' => ∃ v L, o = .returned v ∧ Q7 Z p0 h0 n0 v U'.heap L ∧ FrameEnd U o U' L ({ frames := 0, cells := 0, slots := 0, locals := 0 } : Room).cells ({ frames := 0, cells := 0, slots := 0, locals := 0 } : Room).slots) := by
  refine MetFree.of_bodySF (plainFor_of_name pn_0) hisR ?_
  intro p e s m args below meth c s₁ Bd hml0 hP hK
  obtain ⟨rfl, hZ, hh⟩ := hP
  have hx := Bd.exec
  have hby := Bd.bytes
  have hml : c.maxLocals = 1 := hml0
  have hown : s.vm.findClass "com/example/libinterp/libinterp/SelectorScanReadPinLaw" = some m.cls := findClass_of_methodNamed Bd.named
  have hnm := (name_of_methodNamed Bd.named Bd.method).1
  have X0 : Stand p l e ({ frames := 0, cells := 0, slots := 0, locals := 0 } : Room) s m #[(.int p0)] below meth c s₁ [] 0 0 := Stand.of_body Bd
  have e0 : s₁.heap = h0 := by rw [← hh, Bd.state]; rfl
  have N0 := Fr.nil n0
  have K0 := Keep.refl h0 []
  have pre0 : ∀ t, Steps p.tables e below (s₁.setTop (mkF m 0 #[.val (.int p0)] [])) t → Steps p.tables e below (s₁.setTop (entryFrame m #[(.int p0)] 1)) t := fun t k => castTop (ef_7 m p0) k
  have pre1 : ∀ t, Steps p.tables e below (s₁.setTop (mkF m 3 #[.val (.int p0)] [(.int (39 : Int32)), (.int p0)])) t → Steps p.tables e below (s₁.setTop (entryFrame m #[(.int p0)] 1)) t := fun t kt => pre0 t (by
    show Steps p.tables e below (s₁.setTop (mkF m 0 #[.val (.int p0)] [])) _
    refine XS.iloadN X0.here hx rfl (hb hby d7_0) rfl ?_
    show Steps p.tables e below (s₁.setTop (mkF m 1 #[.val (.int p0)] [(.int p0)])) _
    refine XS.bipush X0.here hx rfl (hb hby d7_1) ?_
    exact kt)
  by_cases hc2 : p0 = (39 : Int32)
  · obtain ⟨fs, hr, hrun, hended, hW, hsame⟩ := X0.leave (v := some (.int (1 : Int32))) (fun h => by rw [Bd.returns] at h; cases h)
    refine ⟨_, _, pre1 _ ?_, hrun, hended, _, _, rfl, ?_, ⟨_, rfl⟩, hW, hsame.mono (by decide) (by decide)⟩
    · show Steps p.tables e below (s₁.setTop (mkF m 3 #[.val (.int p0)] [(.int (39 : Int32)), (.int p0)])) _
      refine XS.icmpYes X0.here hx rfl (pc0 := 3) (pc' := 12) rfl (hb hby d7_3) rfl (teq hc2).1 (by decide) (by decide) ?_
      show Steps p.tables e below (s₁.setTop (mkF m 12 #[.val (.int p0)] [])) _
      refine XS.iconst X0.here hx rfl (hb hby d7_12) ?_
      show Steps p.tables e below (s₁.setTop (mkF m 13 #[.val (.int p0)] [(.int (1 : Int32))])) _
      refine XS.goto X0.here hx rfl (pc0 := 13) (pc' := 17) rfl (hb hby d7_13) (by decide) (by decide) ?_
      show Steps p.tables e below (s₁.setTop (mkF m 17 #[.val (.int p0)] [(.int (1 : Int32))])) _
      exact retN X0 hx (t := .boolean) Bd.returns (by simp) (hb hby d7_17) hr
    · show Q7 Z p0 h0 n0 _ s₁.heap _
      rw [e0]
      exact ⟨by rw [show f7 p0 = (1 : Int32) from by unfold f7; rw [if_pos hc2]], N0, rfl⟩
  · have pre3 : ∀ t, Steps p.tables e below (s₁.setTop (mkF m 9 #[.val (.int p0)] [(.int (34 : Int32)), (.int p0)])) t → Steps p.tables e below (s₁.setTop (entryFrame m #[(.int p0)] 1)) t := fun t kt => pre1 t (by
      show Steps p.tables e below (s₁.setTop (mkF m 3 #[.val (.int p0)] [(.int (39 : Int32)), (.int p0)])) _
      refine XS.icmpNo X0.here hx rfl (hb hby d7_3) rfl (feq hc2).1 ?_
      show Steps p.tables e below (s₁.setTop (mkF m 6 #[.val (.int p0)] [])) _
      refine XS.iloadN X0.here hx rfl (hb hby d7_6) rfl ?_
      show Steps p.tables e below (s₁.setTop (mkF m 7 #[.val (.int p0)] [(.int p0)])) _
      refine XS.bipush X0.here hx rfl (hb hby d7_7) ?_
      exact kt)
    by_cases hc4 : p0 = (34 : Int32)
    · obtain ⟨fs, hr, hrun, hended, hW, hsame⟩ := X0.leave (v := some (.int (1 : Int32))) (fun h => by rw [Bd.returns] at h; cases h)
      refine ⟨_, _, pre3 _ ?_, hrun, hended, _, _, rfl, ?_, ⟨_, rfl⟩, hW, hsame.mono (by decide) (by decide)⟩
      · show Steps p.tables e below (s₁.setTop (mkF m 9 #[.val (.int p0)] [(.int (34 : Int32)), (.int p0)])) _
        refine XS.icmpNo X0.here hx rfl (hb hby d7_9) rfl (teq hc4).2 ?_
        show Steps p.tables e below (s₁.setTop (mkF m 12 #[.val (.int p0)] [])) _
        refine XS.iconst X0.here hx rfl (hb hby d7_12) ?_
        show Steps p.tables e below (s₁.setTop (mkF m 13 #[.val (.int p0)] [(.int (1 : Int32))])) _
        refine XS.goto X0.here hx rfl (pc0 := 13) (pc' := 17) rfl (hb hby d7_13) (by decide) (by decide) ?_
        show Steps p.tables e below (s₁.setTop (mkF m 17 #[.val (.int p0)] [(.int (1 : Int32))])) _
        exact retN X0 hx (t := .boolean) Bd.returns (by simp) (hb hby d7_17) hr
      · show Q7 Z p0 h0 n0 _ s₁.heap _
        rw [e0]
        exact ⟨by rw [show f7 p0 = (1 : Int32) from by unfold f7; rw [if_neg hc2, if_pos hc4]], N0, rfl⟩
    · obtain ⟨fs, hr, hrun, hended, hW, hsame⟩ := X0.leave (v := some (.int (0 : Int32))) (fun h => by rw [Bd.returns] at h; cases h)
      refine ⟨_, _, pre3 _ ?_, hrun, hended, _, _, rfl, ?_, ⟨_, rfl⟩, hW, hsame.mono (by decide) (by decide)⟩
      · show Steps p.tables e below (s₁.setTop (mkF m 9 #[.val (.int p0)] [(.int (34 : Int32)), (.int p0)])) _
        refine XS.icmpYes X0.here hx rfl (pc0 := 9) (pc' := 16) rfl (hb hby d7_9) rfl (feq hc4).2 (by decide) (by decide) ?_
        show Steps p.tables e below (s₁.setTop (mkF m 16 #[.val (.int p0)] [])) _
        refine XS.iconst X0.here hx rfl (hb hby d7_16) ?_
        show Steps p.tables e below (s₁.setTop (mkF m 17 #[.val (.int p0)] [(.int (0 : Int32))])) _
        exact retN X0 hx (t := .boolean) Bd.returns (by simp) (hb hby d7_17) hr
      · show Q7 Z p0 h0 n0 _ s₁.heap _
        rw [e0]
        exact ⟨by rw [show f7 p0 = (0 : Int32) from by unfold f7; rw [if_neg hc2, if_neg hc4]], N0, rfl⟩
theorem pd_2 : parseMethodDescriptor "(I)C" = some ⟨[.int], some .char⟩ := by decide +kernel
theorem pd_3 : parseMethodDescriptor "()V" = some ⟨[], none⟩ := by decide +kernel
theorem pd_4 : parseMethodDescriptor "()Z" = some ⟨[], some .boolean⟩ := by decide +kernel
theorem ef_0 (m : MethodId) (x0 : Int32) (x1 : Int32) (x2 : Int32) (x3 : Int32) : entryFrame m #[(.int x0), (.int x1), (.int x2), (.int x3)] maxLocals = mkF m 0 #[.val (.int x0), .val (.int x1), .val (.int x2), .val (.int x3), .unset, .unset, .unset, .unset, .unset, .unset, .unset, .unset, .unset, .unset, .unset, .unset] [] := by first | (simp [entryFrame, mkF, argsToLocals, Value.category, maxLocals]; done) | rfl
def f0_s0_29001 (p3 : Int32) : Int32 := (if (p3 &&& (1 : Int32)) = (0 : Int32) then (1 : Int32) else (0 : Int32))
def f0_s0_44002 (p3 : Int32) : Int32 := (if (p3 &&& (2 : Int32)) = (0 : Int32) then (34 : Int32) else (39 : Int32))
def f0_e1  : Int32 := (f4_quote (91 : Int32) (f2_quote (0 : Int32) (0 : Int32) (0 : Int32)) (0 : Int32) (0 : Int32))
def f0_e2  : Int32 := (f4_inSelector (91 : Int32) (f2_quote (0 : Int32) (0 : Int32) (0 : Int32)) (0 : Int32) (0 : Int32))
def f0_e3  : Int32 := (f4_escaping (91 : Int32) (f2_quote (0 : Int32) (0 : Int32) (0 : Int32)) (0 : Int32) (0 : Int32))
def f0_e4 (p0 : Int32) (p1 : Int32) : Int32 := (f4_quote (f1 p1) (f4_quote (f1 p0) f0_e1 f0_e2 f0_e3) (f4_inSelector (f1 p0) f0_e1 f0_e2 f0_e3) (f4_escaping (f1 p0) f0_e1 f0_e2 f0_e3))
def f0_e5 (p0 : Int32) (p1 : Int32) : Int32 := (f4_inSelector (f1 p1) (f4_quote (f1 p0) f0_e1 f0_e2 f0_e3) (f4_inSelector (f1 p0) f0_e1 f0_e2 f0_e3) (f4_escaping (f1 p0) f0_e1 f0_e2 f0_e3))
def f0_e6 (p0 : Int32) (p1 : Int32) : Int32 := (f4_escaping (f1 p1) (f4_quote (f1 p0) f0_e1 f0_e2 f0_e3) (f4_inSelector (f1 p0) f0_e1 f0_e2 f0_e3) (f4_escaping (f1 p0) f0_e1 f0_e2 f0_e3))
def f0_e7 (p0 : Int32) (p1 : Int32) (p2 : Int32) : Int32 := (f6 (f4_quote (f1 p2) (f0_e4 p0 p1) (f0_e5 p0 p1) (f0_e6 p0 p1)) (f4_inSelector (f1 p2) (f0_e4 p0 p1) (f0_e5 p0 p1) (f0_e6 p0 p1)) (f4_escaping (f1 p2) (f0_e4 p0 p1) (f0_e5 p0 p1) (f0_e6 p0 p1)))
def f0_e8 (p0 : Int32) (p1 : Int32) (p2 : Int32) (p3 : Int32) : Int32 := (f4_quote (f0_s0_44002 p3) (f4_quote (f1 p2) (f0_e4 p0 p1) (f0_e5 p0 p1) (f0_e6 p0 p1)) (f4_inSelector (f1 p2) (f0_e4 p0 p1) (f0_e5 p0 p1) (f0_e6 p0 p1)) (f4_escaping (f1 p2) (f0_e4 p0 p1) (f0_e5 p0 p1) (f0_e6 p0 p1)))
def f0_e9 (p0 : Int32) (p1 : Int32) (p2 : Int32) (p3 : Int32) : Int32 := (f4_inSelector (f0_s0_44002 p3) (f4_quote (f1 p2) (f0_e4 p0 p1) (f0_e5 p0 p1) (f0_e6 p0 p1)) (f4_inSelector (f1 p2) (f0_e4 p0 p1) (f0_e5 p0 p1) (f0_e6 p0 p1)) (f4_escaping (f1 p2) (f0_e4 p0 p1) (f0_e5 p0 p1) (f0_e6 p0 p1)))
def f0_e10 (p0 : Int32) (p1 : Int32) (p2 : Int32) (p3 : Int32) : Int32 := (f4_escaping (f0_s0_44002 p3) (f4_quote (f1 p2) (f0_e4 p0 p1) (f0_e5 p0 p1) (f0_e6 p0 p1)) (f4_inSelector (f1 p2) (f0_e4 p0 p1) (f0_e5 p0 p1) (f0_e6 p0 p1)) (f4_escaping (f1 p2) (f0_e4 p0 p1) (f0_e5 p0 p1) (f0_e6 p0 p1)))
def f0_e11 (p0 : Int32) (p1 : Int32) (p2 : Int32) (p3 : Int32) : Int32 := (f4_quote (93 : Int32) (f0_e8 p0 p1 p2 p3) (f0_e9 p0 p1 p2 p3) (f0_e10 p0 p1 p2 p3))
def f0_e12 (p0 : Int32) (p1 : Int32) (p2 : Int32) (p3 : Int32) : Int32 := (f4_inSelector (93 : Int32) (f0_e8 p0 p1 p2 p3) (f0_e9 p0 p1 p2 p3) (f0_e10 p0 p1 p2 p3))
def f0_e13 (p0 : Int32) (p1 : Int32) (p2 : Int32) (p3 : Int32) : Int32 := (f4_escaping (93 : Int32) (f0_e8 p0 p1 p2 p3) (f0_e9 p0 p1 p2 p3) (f0_e10 p0 p1 p2 p3))
def f0_l12_395003 (p2 : Int32) : Int32 := (if (f7 (f1 p2)) = (0 : Int32) then (1 : Int32) else (2 : Int32))
def f0_l13_395004 (p2 : Int32) : Int32 := (if (f7 (f1 p2)) = (0 : Int32) then (32 : Int32) else (f1 p2))
def f0_s0_183005 (p2 : Int32) : Int32 := (if (f1 p2) = (91 : Int32) then (1 : Int32) else (0 : Int32))
def f0_s0_312006 (p2 : Int32) : Int32 := (if (f1 p2) = (91 : Int32) then (1 : Int32) else (0 : Int32))
def f0_l12_395007 (p2 : Int32) : Int32 := (if (f7 (f1 p2)) = (0 : Int32) then (1 : Int32) else (2 : Int32))
def f0_l13_395008 (p2 : Int32) : Int32 := (if (f7 (f1 p2)) = (0 : Int32) then (32 : Int32) else (f1 p2))
def f0_l12_395009 (p1 : Int32) (p2 : Int32) : Int32 := (if (f1 p2) = (92 : Int32) then (3 : Int32) else (if (f1 p2) = (f1 p1) then (1 : Int32) else (2 : Int32)))
def f0_l12_395010 (p2 : Int32) : Int32 := (if (f7 (f1 p2)) = (0 : Int32) then (1 : Int32) else (2 : Int32))
def f0_l13_395011 (p2 : Int32) : Int32 := (if (f7 (f1 p2)) = (0 : Int32) then (32 : Int32) else (f1 p2))
def f0_l12_395012 (p0 : Int32) (p2 : Int32) : Int32 := (if (f1 p2) = (92 : Int32) then (3 : Int32) else (if (f1 p2) = (f1 p0) then (1 : Int32) else (2 : Int32)))
def f0_l12_395013 (p0 : Int32) (p1 : Int32) (p2 : Int32) : Int32 := (if (f1 p0) = (93 : Int32) then (if (f1 p1) = (91 : Int32) then (if (f1 p2) = (93 : Int32) then (0 : Int32) else (f0_l12_395003 p2)) else (f0_s0_183005 p2)) else (if (f7 (f1 p0)) = (0 : Int32) then (if (f1 p1) = (93 : Int32) then (f0_s0_312006 p2) else (if (f7 (f1 p1)) = (0 : Int32) then (if (f1 p2) = (93 : Int32) then (0 : Int32) else (f0_l12_395007 p2)) else (f0_l12_395009 p1 p2))) else (if (f1 p1) = (92 : Int32) then (2 : Int32) else (if (f1 p1) = (f1 p0) then (if (f1 p2) = (93 : Int32) then (0 : Int32) else (f0_l12_395010 p2)) else (f0_l12_395012 p0 p2)))))
def f0_l13_395014 (p0 : Int32) (p1 : Int32) (p2 : Int32) : Int32 := (if (f1 p0) = (93 : Int32) then (if (f1 p1) = (91 : Int32) then (if (f1 p2) = (93 : Int32) then (32 : Int32) else (f0_l13_395004 p2)) else (32 : Int32)) else (if (f7 (f1 p0)) = (0 : Int32) then (if (f1 p1) = (93 : Int32) then (32 : Int32) else (if (f7 (f1 p1)) = (0 : Int32) then (if (f1 p2) = (93 : Int32) then (32 : Int32) else (f0_l13_395008 p2)) else (f1 p1))) else (if (f1 p1) = (92 : Int32) then (f1 p0) else (if (f1 p1) = (f1 p0) then (if (f1 p2) = (93 : Int32) then (32 : Int32) else (f0_l13_395011 p2)) else (f1 p0)))))
def f0_s0_405015 (p0 : Int32) (p1 : Int32) (p2 : Int32) : Int32 := (if (f0_l12_395013 p0 p1 p2) = (0 : Int32) then (1 : Int32) else (0 : Int32))
def f0_s0_451016 (p0 : Int32) (p1 : Int32) (p2 : Int32) (p3 : Int32) : Int32 := (if (f0_l12_395013 p0 p1 p2) = (0 : Int32) then (1 : Int32) else (if (f0_l12_395013 p0 p1 p2) = (2 : Int32) then (if (f0_l13_395014 p0 p1 p2) = (f0_s0_44002 p3) then (1 : Int32) else (0 : Int32)) else (0 : Int32)))
def f0_s0_472017 (p0 : Int32) (p1 : Int32) (p2 : Int32) (p3 : Int32) : Int32 := (if (f0_e7 p0 p1 p2) = (f0_s0_405015 p0 p1 p2) then (if (f6 (f0_e11 p0 p1 p2 p3) (f0_e12 p0 p1 p2 p3) (f0_e13 p0 p1 p2 p3)) = (f0_s0_451016 p0 p1 p2 p3) then (1 : Int32) else (0 : Int32)) else (0 : Int32))
def f0_e14 (p0 : Int32) (p1 : Int32) (p2 : Int32) : Int32 := (f4_quote (93 : Int32) (f4_quote (f1 p2) (f0_e4 p0 p1) (f0_e5 p0 p1) (f0_e6 p0 p1)) (f4_inSelector (f1 p2) (f0_e4 p0 p1) (f0_e5 p0 p1) (f0_e6 p0 p1)) (f4_escaping (f1 p2) (f0_e4 p0 p1) (f0_e5 p0 p1) (f0_e6 p0 p1)))
def f0_e15 (p0 : Int32) (p1 : Int32) (p2 : Int32) : Int32 := (f4_inSelector (93 : Int32) (f4_quote (f1 p2) (f0_e4 p0 p1) (f0_e5 p0 p1) (f0_e6 p0 p1)) (f4_inSelector (f1 p2) (f0_e4 p0 p1) (f0_e5 p0 p1) (f0_e6 p0 p1)) (f4_escaping (f1 p2) (f0_e4 p0 p1) (f0_e5 p0 p1) (f0_e6 p0 p1)))
def f0_e16 (p0 : Int32) (p1 : Int32) (p2 : Int32) : Int32 := (f4_escaping (93 : Int32) (f4_quote (f1 p2) (f0_e4 p0 p1) (f0_e5 p0 p1) (f0_e6 p0 p1)) (f4_inSelector (f1 p2) (f0_e4 p0 p1) (f0_e5 p0 p1) (f0_e6 p0 p1)) (f4_escaping (f1 p2) (f0_e4 p0 p1) (f0_e5 p0 p1) (f0_e6 p0 p1)))
def f0_l12_395018 (p2 : Int32) : Int32 := (if (f7 (f1 p2)) = (0 : Int32) then (1 : Int32) else (2 : Int32))
def f0_l13_395019 (p2 : Int32) : Int32 := (if (f7 (f1 p2)) = (0 : Int32) then (32 : Int32) else (f1 p2))
def f0_s0_183020 (p2 : Int32) : Int32 := (if (f1 p2) = (91 : Int32) then (1 : Int32) else (0 : Int32))
def f0_s0_312021 (p2 : Int32) : Int32 := (if (f1 p2) = (91 : Int32) then (1 : Int32) else (0 : Int32))
def f0_l12_395022 (p2 : Int32) : Int32 := (if (f7 (f1 p2)) = (0 : Int32) then (1 : Int32) else (2 : Int32))
def f0_l13_395023 (p2 : Int32) : Int32 := (if (f7 (f1 p2)) = (0 : Int32) then (32 : Int32) else (f1 p2))
def f0_l12_395024 (p1 : Int32) (p2 : Int32) : Int32 := (if (f1 p2) = (92 : Int32) then (3 : Int32) else (if (f1 p2) = (f1 p1) then (1 : Int32) else (2 : Int32)))
def f0_l12_395025 (p2 : Int32) : Int32 := (if (f7 (f1 p2)) = (0 : Int32) then (1 : Int32) else (2 : Int32))
def f0_l13_395026 (p2 : Int32) : Int32 := (if (f7 (f1 p2)) = (0 : Int32) then (32 : Int32) else (f1 p2))
def f0_l12_395027 (p0 : Int32) (p2 : Int32) : Int32 := (if (f1 p2) = (92 : Int32) then (3 : Int32) else (if (f1 p2) = (f1 p0) then (1 : Int32) else (2 : Int32)))
def f0_l12_395028 (p0 : Int32) (p1 : Int32) (p2 : Int32) : Int32 := (if (f1 p0) = (93 : Int32) then (if (f1 p1) = (91 : Int32) then (if (f1 p2) = (93 : Int32) then (0 : Int32) else (f0_l12_395018 p2)) else (f0_s0_183020 p2)) else (if (f7 (f1 p0)) = (0 : Int32) then (if (f1 p1) = (93 : Int32) then (f0_s0_312021 p2) else (if (f7 (f1 p1)) = (0 : Int32) then (if (f1 p2) = (93 : Int32) then (0 : Int32) else (f0_l12_395022 p2)) else (f0_l12_395024 p1 p2))) else (if (f1 p1) = (92 : Int32) then (2 : Int32) else (if (f1 p1) = (f1 p0) then (if (f1 p2) = (93 : Int32) then (0 : Int32) else (f0_l12_395025 p2)) else (f0_l12_395027 p0 p2)))))
def f0_l13_395029 (p0 : Int32) (p1 : Int32) (p2 : Int32) : Int32 := (if (f1 p0) = (93 : Int32) then (if (f1 p1) = (91 : Int32) then (if (f1 p2) = (93 : Int32) then (32 : Int32) else (f0_l13_395019 p2)) else (32 : Int32)) else (if (f7 (f1 p0)) = (0 : Int32) then (if (f1 p1) = (93 : Int32) then (32 : Int32) else (if (f7 (f1 p1)) = (0 : Int32) then (if (f1 p2) = (93 : Int32) then (32 : Int32) else (f0_l13_395023 p2)) else (f1 p1))) else (if (f1 p1) = (92 : Int32) then (f1 p0) else (if (f1 p1) = (f1 p0) then (if (f1 p2) = (93 : Int32) then (32 : Int32) else (f0_l13_395026 p2)) else (f1 p0)))))
def f0_s0_405030 (p0 : Int32) (p1 : Int32) (p2 : Int32) : Int32 := (if (f0_l12_395028 p0 p1 p2) = (0 : Int32) then (1 : Int32) else (0 : Int32))
def f0_s0_423031 (p0 : Int32) (p1 : Int32) (p2 : Int32) : Int32 := (if (1 : Int32) < (f0_l12_395028 p0 p1 p2) then (0 : Int32) else (1 : Int32))
def f0_s0_472032 (p0 : Int32) (p1 : Int32) (p2 : Int32) : Int32 := (if (f0_e7 p0 p1 p2) = (f0_s0_405030 p0 p1 p2) then (if (f6 (f0_e14 p0 p1 p2) (f0_e15 p0 p1 p2) (f0_e16 p0 p1 p2)) = (f0_s0_423031 p0 p1 p2) then (1 : Int32) else (0 : Int32)) else (0 : Int32))
def f0 (p0 : Int32) (p1 : Int32) (p2 : Int32) (p3 : Int32) : Int32 := (if (f0_s0_29001 p3) = (0 : Int32) then ((f0_s0_472017 p0 p1 p2 p3) &&& 1) else ((f0_s0_472032 p0 p1 p2) &&& 1))
def Q0 (Z : State) (p0 : Int32) (p1 : Int32) (p2 : Int32) (p3 : Int32) (h0 : Heap) (n0 : Nat) (v : Option Value) (h : Heap) (L : List Loc) : Prop := v = some (.int (f0 p0 p1 p2 p3)) ∧ Fr n0 L
set_option maxRecDepth 65536 in
set_option maxHeartbeats 40000000 in
theorem rm0 (l : Launch) (Z : State) (a0 : Array Value) (hw : ∀ d ∈ tables_1, d.before a0 Z = true) (ws : List Jvm.Cond) (p0 : Int32) (p1 : Int32) (p2 : Int32) (p3 : Int32) (h0 : Heap) (n0 : Nat) (Z0 : n0 ≤ h0.size)  :
    MetFree l x (head1 (Jvm.Cond.code x code maxLocals ret :: ws) room_1) (fun a U => a = #[(.int p0), (.int p1), (.int p2), (.int p3)] ∧ Z.Warmed39 U.vm ∧ U.heap = h0) (fun _ _ _ _ _ => True) (fun _ U o U' => ∃ v L, o = .returned v ∧ Q0 Z p0 p1 p2 p3 h0 n0 v U'.heap L ∧ FrameEnd U o U' L room_1.cells room_1.slots) := by
  refine MetFree.of_bodySF (plainFor_of_name pn_0) hisR ?_
  intro p e s m args below meth c s₁ Bd hml0 hP hK
  obtain ⟨rfl, hZ, hh⟩ := hP
  have hx := Bd.exec
  have hby := Bd.bytes
  have hml : c.maxLocals = 16 := hml0
  have hown : s.vm.findClass "com/example/libinterp/libinterp/SelectorScanReadPinLaw" = some m.cls := findClass_of_methodNamed Bd.named
  have hnm := (name_of_methodNamed Bd.named Bd.method).1
  have X0 : Stand p l e room_1 s m #[(.int p0), (.int p1), (.int p2), (.int p3)] below meth c s₁ [] 0 0 := Stand.of_body Bd
  have e0 : s₁.heap = h0 := by rw [← hh, Bd.state]; rfl
  have N0 := Fr.nil n0
  have K0 := Keep.refl h0 []
  have pre0 : ∀ t, Steps p.tables e below (s₁.setTop (mkF m 0 #[.val (.int p0), .val (.int p1), .val (.int p2), .val (.int p3), .unset, .unset, .unset, .unset, .unset, .unset, .unset, .unset, .unset, .unset, .unset, .unset] [])) t → Steps p.tables e below (s₁.setTop (entryFrame m #[(.int p0), (.int p1), (.int p2), (.int p3)] maxLocals)) t := fun t k => castTop (ef_0 m p0 p1 p2 p3) k
  obtain ⟨_, _, ⟨T1, L1, k1, n1⟩, -, X1, ⟨Lc1, hQ1, l1, y1, z1⟩, st1⟩ := Jvm.LawKit.callS X0 hx (y := (⟨"com/example/libinterp/libinterp/SelectorScanReadPinLaw", "pick", "(I)C"⟩ : MethodName)) hown (mvT hZ (hw _ (List.mem_of_getElem? (i := 0) rfl))) (mvT hZ (hw _ (List.mem_of_getElem? (i := 1) rfl))) (mvT hZ (hw _ (List.mem_of_getElem? (i := 2) rfl))) (mvT hZ (hw _ (List.mem_of_getElem? (i := 3) rfl))) (by decide) (backOf (W := 0) (rm1 l Z a0 hw [] p0 h0 n0 Z0) hZ (hw _ (List.mem_of_getElem? (i := 3) rfl)) (hw _ (List.mem_of_getElem? (i := 2) rfl)) (by decide) (by decide)) (g := (mkF m 1 #[.val (.int p0), .val (.int p1), .val (.int p2), .val (.int p3), .unset, .unset, .unset, .unset, .unset, .unset, .unset, .unset, .unset, .unset, .unset, .unset] [(.int p0)])) rfl (by rw [hml]; rfl) (argsL := [(.int p0)]) (rest := []) (lenOf pd_2 rfl) rfl (by show 2 * 0 + _ ≤ _; exact Nat.le_of_eq rfl) (hb hby at_1) (fun _ _ => ⟨rfl, e0, (by decide : 0 + 0 ≤ _), (by decide : 0 + 0 ≤ _)⟩)
  dsimp only [Pt.U, Pt.locs, Pt.cells, Pt.slots] at X1 l1 y1 z1 st1 hQ1
  subst l1 y1 z1
  obtain ⟨rfl, N1q, e1⟩ := hQ1
  have N1 := Fr.app N0 N1q
  obtain ⟨_, _, ⟨T2, L2, k2, n2⟩, -, X2, ⟨Lc2, hQ2, l2, y2, z2⟩, st2⟩ := Jvm.LawKit.callS X1 hx (y := (⟨"com/example/libinterp/libinterp/SelectorScanReadPinLaw", "pick", "(I)C"⟩ : MethodName)) hown (mvT hZ (hw _ (List.mem_of_getElem? (i := 0) rfl))) (mvT hZ (hw _ (List.mem_of_getElem? (i := 1) rfl))) (mvT hZ (hw _ (List.mem_of_getElem? (i := 2) rfl))) (mvT hZ (hw _ (List.mem_of_getElem? (i := 3) rfl))) (by decide) (backOf (W := 0) (rm1 l Z a0 hw [] p1 h0 n0 Z0) hZ (hw _ (List.mem_of_getElem? (i := 3) rfl)) (hw _ (List.mem_of_getElem? (i := 2) rfl)) (by decide) (by decide)) (g := (mkF m 7 #[.val (.int p0), .val (.int p1), .val (.int p2), .val (.int p3), .val (.int (f1 p0)), .unset, .unset, .unset, .unset, .unset, .unset, .unset, .unset, .unset, .unset, .unset] [(.int p1)])) rfl (by rw [hml]; rfl) (argsL := [(.int p1)]) (rest := []) (lenOf pd_2 rfl) rfl (by show 2 * 0 + _ ≤ _; exact Nat.le_of_eq rfl) (hb hby at_7) (fun _ _ => ⟨rfl, e1, (by decide : 0 + 0 ≤ _), (by decide : 0 + 0 ≤ _)⟩)
  dsimp only [Pt.U, Pt.locs, Pt.cells, Pt.slots] at X2 l2 y2 z2 st2 hQ2
  subst l2 y2 z2
  obtain ⟨rfl, N2q, e2⟩ := hQ2
  have N2 := Fr.app N1 N2q
  obtain ⟨_, _, ⟨T3, L3, k3, n3⟩, -, X3, ⟨Lc3, hQ3, l3, y3, z3⟩, st3⟩ := Jvm.LawKit.callS X2 hx (y := (⟨"com/example/libinterp/libinterp/SelectorScanReadPinLaw", "pick", "(I)C"⟩ : MethodName)) hown (mvT hZ (hw _ (List.mem_of_getElem? (i := 0) rfl))) (mvT hZ (hw _ (List.mem_of_getElem? (i := 1) rfl))) (mvT hZ (hw _ (List.mem_of_getElem? (i := 2) rfl))) (mvT hZ (hw _ (List.mem_of_getElem? (i := 3) rfl))) (by decide) (backOf (W := 0) (rm1 l Z a0 hw [] p2 h0 n0 Z0) hZ (hw _ (List.mem_of_getElem? (i := 3) rfl)) (hw _ (List.mem_of_getElem? (i := 2) rfl)) (by decide) (by decide)) (g := (mkF m 13 #[.val (.int p0), .val (.int p1), .val (.int p2), .val (.int p3), .val (.int (f1 p0)), .val (.int (f1 p1)), .unset, .unset, .unset, .unset, .unset, .unset, .unset, .unset, .unset, .unset] [(.int p2)])) rfl (by rw [hml]; rfl) (argsL := [(.int p2)]) (rest := []) (lenOf pd_2 rfl) rfl (by show 2 * 0 + _ ≤ _; exact Nat.le_of_eq rfl) (hb hby at_13) (fun _ _ => ⟨rfl, e2, (by decide : 0 + 0 ≤ _), (by decide : 0 + 0 ≤ _)⟩)
  dsimp only [Pt.U, Pt.locs, Pt.cells, Pt.slots] at X3 l3 y3 z3 st3 hQ3
  subst l3 y3 z3
  obtain ⟨rfl, N3q, e3⟩ := hQ3
  have N3 := Fr.app N2 N3q
  have pre4 : ∀ t, Steps p.tables e below (T3.setTop (mkF m 21 #[.val (.int p0), .val (.int p1), .val (.int p2), .val (.int p3), .val (.int (f1 p0)), .val (.int (f1 p1)), .val (.int (f1 p2)), .unset, .unset, .unset, .unset, .unset, .unset, .unset, .unset, .unset] [(.int (p3 &&& (1 : Int32)))])) t → Steps p.tables e below (s₁.setTop (entryFrame m #[(.int p0), (.int p1), (.int p2), (.int p3)] maxLocals)) t := fun t kt => pre0 t (by
    show Steps p.tables e below (s₁.setTop (mkF m 0 #[.val (.int p0), .val (.int p1), .val (.int p2), .val (.int p3), .unset, .unset, .unset, .unset, .unset, .unset, .unset, .unset, .unset, .unset, .unset, .unset] [])) _
    refine XS.iloadN X0.here hx rfl (hb hby at_0) rfl ?_
    show Steps p.tables e below (s₁.setTop (mkF m 1 #[.val (.int p0), .val (.int p1), .val (.int p2), .val (.int p3), .unset, .unset, .unset, .unset, .unset, .unset, .unset, .unset, .unset, .unset, .unset, .unset] [(.int p0)])) _
    refine st1 _ ?_
    show Steps p.tables e below (T1.setTop (mkF m 4 #[.val (.int p0), .val (.int p1), .val (.int p2), .val (.int p3), .unset, .unset, .unset, .unset, .unset, .unset, .unset, .unset, .unset, .unset, .unset, .unset] [(.int (f1 p0))])) _
    refine XS.istore X1.here hx rfl (hb hby at_4) rfl (l' := #[.val (.int p0), .val (.int p1), .val (.int p2), .val (.int p3), .val (.int (f1 p0)), .unset, .unset, .unset, .unset, .unset, .unset, .unset, .unset, .unset, .unset, .unset]) rfl ?_
    show Steps p.tables e below (T1.setTop (mkF m 6 #[.val (.int p0), .val (.int p1), .val (.int p2), .val (.int p3), .val (.int (f1 p0)), .unset, .unset, .unset, .unset, .unset, .unset, .unset, .unset, .unset, .unset, .unset] [])) _
    refine XS.iloadN X1.here hx rfl (hb hby at_6) rfl ?_
    show Steps p.tables e below (T1.setTop (mkF m 7 #[.val (.int p0), .val (.int p1), .val (.int p2), .val (.int p3), .val (.int (f1 p0)), .unset, .unset, .unset, .unset, .unset, .unset, .unset, .unset, .unset, .unset, .unset] [(.int p1)])) _
    refine st2 _ ?_
    show Steps p.tables e below (T2.setTop (mkF m 10 #[.val (.int p0), .val (.int p1), .val (.int p2), .val (.int p3), .val (.int (f1 p0)), .unset, .unset, .unset, .unset, .unset, .unset, .unset, .unset, .unset, .unset, .unset] [(.int (f1 p1))])) _
    refine XS.istore X2.here hx rfl (hb hby at_10) rfl (l' := #[.val (.int p0), .val (.int p1), .val (.int p2), .val (.int p3), .val (.int (f1 p0)), .val (.int (f1 p1)), .unset, .unset, .unset, .unset, .unset, .unset, .unset, .unset, .unset, .unset]) rfl ?_
    show Steps p.tables e below (T2.setTop (mkF m 12 #[.val (.int p0), .val (.int p1), .val (.int p2), .val (.int p3), .val (.int (f1 p0)), .val (.int (f1 p1)), .unset, .unset, .unset, .unset, .unset, .unset, .unset, .unset, .unset, .unset] [])) _
    refine XS.iloadN X2.here hx rfl (hb hby at_12) rfl ?_
    show Steps p.tables e below (T2.setTop (mkF m 13 #[.val (.int p0), .val (.int p1), .val (.int p2), .val (.int p3), .val (.int (f1 p0)), .val (.int (f1 p1)), .unset, .unset, .unset, .unset, .unset, .unset, .unset, .unset, .unset, .unset] [(.int p2)])) _
    refine st3 _ ?_
    show Steps p.tables e below (T3.setTop (mkF m 16 #[.val (.int p0), .val (.int p1), .val (.int p2), .val (.int p3), .val (.int (f1 p0)), .val (.int (f1 p1)), .unset, .unset, .unset, .unset, .unset, .unset, .unset, .unset, .unset, .unset] [(.int (f1 p2))])) _
    refine XS.istore X3.here hx rfl (hb hby at_16) rfl (l' := #[.val (.int p0), .val (.int p1), .val (.int p2), .val (.int p3), .val (.int (f1 p0)), .val (.int (f1 p1)), .val (.int (f1 p2)), .unset, .unset, .unset, .unset, .unset, .unset, .unset, .unset, .unset]) rfl ?_
    show Steps p.tables e below (T3.setTop (mkF m 18 #[.val (.int p0), .val (.int p1), .val (.int p2), .val (.int p3), .val (.int (f1 p0)), .val (.int (f1 p1)), .val (.int (f1 p2)), .unset, .unset, .unset, .unset, .unset, .unset, .unset, .unset, .unset] [])) _
    refine XS.iloadN X3.here hx rfl (hb hby at_18) rfl ?_
    show Steps p.tables e below (T3.setTop (mkF m 19 #[.val (.int p0), .val (.int p1), .val (.int p2), .val (.int p3), .val (.int (f1 p0)), .val (.int (f1 p1)), .val (.int (f1 p2)), .unset, .unset, .unset, .unset, .unset, .unset, .unset, .unset, .unset] [(.int p3)])) _
    refine XS.iconst X3.here hx rfl (hb hby at_19) ?_
    show Steps p.tables e below (T3.setTop (mkF m 20 #[.val (.int p0), .val (.int p1), .val (.int p2), .val (.int p3), .val (.int (f1 p0)), .val (.int (f1 p1)), .val (.int (f1 p2)), .unset, .unset, .unset, .unset, .unset, .unset, .unset, .unset, .unset] [(.int (1 : Int32)), (.int p3)])) _
    refine XS.iand X3.here hx rfl (hb hby at_20) rfl ?_
    exact kt)
  have pre6 : ∀ t, Steps p.tables e below (T3.setTop (mkF m 29 #[.val (.int p0), .val (.int p1), .val (.int p2), .val (.int p3), .val (.int (f1 p0)), .val (.int (f1 p1)), .val (.int (f1 p2)), .unset, .unset, .unset, .unset, .unset, .unset, .unset, .unset, .unset] [(.int (f0_s0_29001 p3))])) t → Steps p.tables e below (s₁.setTop (entryFrame m #[(.int p0), (.int p1), (.int p2), (.int p3)] maxLocals)) t := by
    intro t kt
    by_cases hc5 : (p3 &&& (1 : Int32)) = (0 : Int32)
    · have hj : (f0_s0_29001 p3) = (1 : Int32) := by unfold f0_s0_29001; rw [if_pos hc5]
      rw [hj] at kt
      refine pre4 t ?_
      show Steps p.tables e below (T3.setTop (mkF m 21 #[.val (.int p0), .val (.int p1), .val (.int p2), .val (.int p3), .val (.int (f1 p0)), .val (.int (f1 p1)), .val (.int (f1 p2)), .unset, .unset, .unset, .unset, .unset, .unset, .unset, .unset, .unset] [(.int (p3 &&& (1 : Int32)))])) _
      refine XS.ifNo X3.here hx rfl (hb hby at_21) rfl ((if0 _ _).trans (teq hc5).2) ?_
      show Steps p.tables e below (T3.setTop (mkF m 24 #[.val (.int p0), .val (.int p1), .val (.int p2), .val (.int p3), .val (.int (f1 p0)), .val (.int (f1 p1)), .val (.int (f1 p2)), .unset, .unset, .unset, .unset, .unset, .unset, .unset, .unset, .unset] [])) _
      refine XS.iconst X3.here hx rfl (hb hby at_24) ?_
      show Steps p.tables e below (T3.setTop (mkF m 25 #[.val (.int p0), .val (.int p1), .val (.int p2), .val (.int p3), .val (.int (f1 p0)), .val (.int (f1 p1)), .val (.int (f1 p2)), .unset, .unset, .unset, .unset, .unset, .unset, .unset, .unset, .unset] [(.int (1 : Int32))])) _
      refine XS.goto X3.here hx rfl (pc0 := 25) (pc' := 29) rfl (hb hby at_25) (by decide) (by decide) ?_
      exact kt
    · have hj : (f0_s0_29001 p3) = (0 : Int32) := by unfold f0_s0_29001; rw [if_neg hc5]
      rw [hj] at kt
      refine pre4 t ?_
      show Steps p.tables e below (T3.setTop (mkF m 21 #[.val (.int p0), .val (.int p1), .val (.int p2), .val (.int p3), .val (.int (f1 p0)), .val (.int (f1 p1)), .val (.int (f1 p2)), .unset, .unset, .unset, .unset, .unset, .unset, .unset, .unset, .unset] [(.int (p3 &&& (1 : Int32)))])) _
      refine XS.ifYes X3.here hx rfl (pc0 := 21) (pc' := 28) rfl (hb hby at_21) rfl ((if0 _ _).trans (feq hc5).2) (by decide) (by decide) ?_
      show Steps p.tables e below (T3.setTop (mkF m 28 #[.val (.int p0), .val (.int p1), .val (.int p2), .val (.int p3), .val (.int (f1 p0)), .val (.int (f1 p1)), .val (.int (f1 p2)), .unset, .unset, .unset, .unset, .unset, .unset, .unset, .unset, .unset] [])) _
      refine XS.iconst X3.here hx rfl (hb hby at_28) ?_
      exact kt
  have pre7 : ∀ t, Steps p.tables e below (T3.setTop (mkF m 34 #[.val (.int p0), .val (.int p1), .val (.int p2), .val (.int p3), .val (.int (f1 p0)), .val (.int (f1 p1)), .val (.int (f1 p2)), .val (.int (f0_s0_29001 p3)), .unset, .unset, .unset, .unset, .unset, .unset, .unset, .unset] [(.int (p3 &&& (2 : Int32)))])) t → Steps p.tables e below (s₁.setTop (entryFrame m #[(.int p0), (.int p1), (.int p2), (.int p3)] maxLocals)) t := fun t kt => pre6 t (by
    show Steps p.tables e below (T3.setTop (mkF m 29 #[.val (.int p0), .val (.int p1), .val (.int p2), .val (.int p3), .val (.int (f1 p0)), .val (.int (f1 p1)), .val (.int (f1 p2)), .unset, .unset, .unset, .unset, .unset, .unset, .unset, .unset, .unset] [(.int (f0_s0_29001 p3))])) _
    refine XS.istore X3.here hx rfl (hb hby at_29) rfl (l' := #[.val (.int p0), .val (.int p1), .val (.int p2), .val (.int p3), .val (.int (f1 p0)), .val (.int (f1 p1)), .val (.int (f1 p2)), .val (.int (f0_s0_29001 p3)), .unset, .unset, .unset, .unset, .unset, .unset, .unset, .unset]) rfl ?_
    show Steps p.tables e below (T3.setTop (mkF m 31 #[.val (.int p0), .val (.int p1), .val (.int p2), .val (.int p3), .val (.int (f1 p0)), .val (.int (f1 p1)), .val (.int (f1 p2)), .val (.int (f0_s0_29001 p3)), .unset, .unset, .unset, .unset, .unset, .unset, .unset, .unset] [])) _
    refine XS.iloadN X3.here hx rfl (hb hby at_31) rfl ?_
    show Steps p.tables e below (T3.setTop (mkF m 32 #[.val (.int p0), .val (.int p1), .val (.int p2), .val (.int p3), .val (.int (f1 p0)), .val (.int (f1 p1)), .val (.int (f1 p2)), .val (.int (f0_s0_29001 p3)), .unset, .unset, .unset, .unset, .unset, .unset, .unset, .unset] [(.int p3)])) _
    refine XS.iconst X3.here hx rfl (hb hby at_32) ?_
    show Steps p.tables e below (T3.setTop (mkF m 33 #[.val (.int p0), .val (.int p1), .val (.int p2), .val (.int p3), .val (.int (f1 p0)), .val (.int (f1 p1)), .val (.int (f1 p2)), .val (.int (f0_s0_29001 p3)), .unset, .unset, .unset, .unset, .unset, .unset, .unset, .unset] [(.int (2 : Int32)), (.int p3)])) _
    refine XS.iand X3.here hx rfl (hb hby at_33) rfl ?_
    exact kt)
  have pre9 : ∀ t, Steps p.tables e below (T3.setTop (mkF m 44 #[.val (.int p0), .val (.int p1), .val (.int p2), .val (.int p3), .val (.int (f1 p0)), .val (.int (f1 p1)), .val (.int (f1 p2)), .val (.int (f0_s0_29001 p3)), .unset, .unset, .unset, .unset, .unset, .unset, .unset, .unset] [(.int (f0_s0_44002 p3))])) t → Steps p.tables e below (s₁.setTop (entryFrame m #[(.int p0), (.int p1), (.int p2), (.int p3)] maxLocals)) t := by
    intro t kt
    by_cases hc8 : (p3 &&& (2 : Int32)) = (0 : Int32)
    · have hj : (f0_s0_44002 p3) = (34 : Int32) := by unfold f0_s0_44002; rw [if_pos hc8]
      rw [hj] at kt
      refine pre7 t ?_
      show Steps p.tables e below (T3.setTop (mkF m 34 #[.val (.int p0), .val (.int p1), .val (.int p2), .val (.int p3), .val (.int (f1 p0)), .val (.int (f1 p1)), .val (.int (f1 p2)), .val (.int (f0_s0_29001 p3)), .unset, .unset, .unset, .unset, .unset, .unset, .unset, .unset] [(.int (p3 &&& (2 : Int32)))])) _
      refine XS.ifYes X3.here hx rfl (pc0 := 34) (pc' := 42) rfl (hb hby at_34) rfl ((if0 _ _).trans (teq hc8).1) (by decide) (by decide) ?_
      show Steps p.tables e below (T3.setTop (mkF m 42 #[.val (.int p0), .val (.int p1), .val (.int p2), .val (.int p3), .val (.int (f1 p0)), .val (.int (f1 p1)), .val (.int (f1 p2)), .val (.int (f0_s0_29001 p3)), .unset, .unset, .unset, .unset, .unset, .unset, .unset, .unset] [])) _
      refine XS.bipush X3.here hx rfl (hb hby at_42) ?_
      exact kt
    · have hj : (f0_s0_44002 p3) = (39 : Int32) := by unfold f0_s0_44002; rw [if_neg hc8]
      rw [hj] at kt
      refine pre7 t ?_
      show Steps p.tables e below (T3.setTop (mkF m 34 #[.val (.int p0), .val (.int p1), .val (.int p2), .val (.int p3), .val (.int (f1 p0)), .val (.int (f1 p1)), .val (.int (f1 p2)), .val (.int (f0_s0_29001 p3)), .unset, .unset, .unset, .unset, .unset, .unset, .unset, .unset] [(.int (p3 &&& (2 : Int32)))])) _
      refine XS.ifNo X3.here hx rfl (hb hby at_34) rfl ((if0 _ _).trans (feq hc8).1) ?_
      show Steps p.tables e below (T3.setTop (mkF m 37 #[.val (.int p0), .val (.int p1), .val (.int p2), .val (.int p3), .val (.int (f1 p0)), .val (.int (f1 p1)), .val (.int (f1 p2)), .val (.int (f0_s0_29001 p3)), .unset, .unset, .unset, .unset, .unset, .unset, .unset, .unset] [])) _
      refine XS.bipush X3.here hx rfl (hb hby at_37) ?_
      show Steps p.tables e below (T3.setTop (mkF m 39 #[.val (.int p0), .val (.int p1), .val (.int p2), .val (.int p3), .val (.int (f1 p0)), .val (.int (f1 p1)), .val (.int (f1 p2)), .val (.int (f0_s0_29001 p3)), .unset, .unset, .unset, .unset, .unset, .unset, .unset, .unset] [(.int (39 : Int32))])) _
      refine XS.goto X3.here hx rfl (pc0 := 39) (pc' := 44) rfl (hb hby at_39) (by decide) (by decide) ?_
      exact kt
  obtain ⟨T10, h10, X10, e10, E10, A10, D10, -, st10⟩ := newO X3 hx hZ hown (hw _ (List.mem_of_getElem? (i := 4) rfl)) (hw _ (List.mem_of_getElem? (i := 5) rfl)) (hw _ (List.mem_of_getElem? (i := 6) rfl)) e3 (g := (mkF m 46 #[.val (.int p0), .val (.int p1), .val (.int p2), .val (.int p3), .val (.int (f1 p0)), .val (.int (f1 p1)), .val (.int (f1 p2)), .val (.int (f0_s0_29001 p3)), .val (.int (f0_s0_44002 p3)), .unset, .unset, .unset, .unset, .unset, .unset, .unset] [])) rfl (hb hby at_46) (by decide) (by decide)
  obtain ⟨b10, g10⟩ : ∃ z, z = h0.size := ⟨_, rfl⟩
  rw [← g10] at A10 D10 st10
  have gn_b10 : n0 ≤ b10 := Nat.le_trans Z0 (Nat.le_of_eq g10.symm)
  have sz_b10 : h0.size ≤ b10 := Nat.le_trans K0.1 (Nat.le_of_eq g10.symm)
  have Zz10 := Nat.le_trans Z0 E10.1
  have K10 := K0.ext E10
  have F_quote_b10 : Fld Z h10 b10 "com/example/libinterp/libinterp/PathParser$SelectorScan" "quote" "C" (.int (0 : Int32)) := D10 (Or.inl (hw _ (List.mem_of_getElem? (i := 14) rfl))) (ty := .char) (by decide)
  have F_inSelector_b10 : Fld Z h10 b10 "com/example/libinterp/libinterp/PathParser$SelectorScan" "inSelector" "Z" (.int (0 : Int32)) := D10 (Or.inl (hw _ (List.mem_of_getElem? (i := 21) rfl))) (ty := .boolean) (by decide)
  have F_escaping_b10 : Fld Z h10 b10 "com/example/libinterp/libinterp/PathParser$SelectorScan" "escaping" "Z" (.int (0 : Int32)) := D10 (Or.inl (hw _ (List.mem_of_getElem? (i := 39) rfl))) (ty := .boolean) (by decide)
  obtain ⟨_, _, ⟨T11, L11, k11, n11⟩, -, X11, ⟨Lc11, hQ11, l11, y11, z11⟩, st11⟩ := X10.specialBack hx (y := (⟨"com/example/libinterp/libinterp/PathParser$SelectorScan", "<init>", "()V"⟩ : MethodName)) rfl hown (mvT hZ (hw _ (List.mem_of_getElem? (i := 7) rfl))) (mvT hZ (hw _ (List.mem_of_getElem? (i := 8) rfl))) (mvT hZ (hw _ (List.mem_of_getElem? (i := 9) rfl))) (by decide) (backOf (W := 1) (rm2 l Z a0 hw [] b10 (0 : Int32) (0 : Int32) (0 : Int32) h10 n0 Zz10 A10 gn_b10 F_quote_b10 F_inSelector_b10 F_escaping_b10) hZ (hw _ (List.mem_of_getElem? (i := 9) rfl)) (hw _ (List.mem_of_getElem? (i := 6) rfl)) (by decide) (by decide)) (g := (mkF m 50 #[.val (.int p0), .val (.int p1), .val (.int p2), .val (.int p3), .val (.int (f1 p0)), .val (.int (f1 p1)), .val (.int (f1 p2)), .val (.int (f0_s0_29001 p3)), .val (.int (f0_s0_44002 p3)), .unset, .unset, .unset, .unset, .unset, .unset, .unset] [(.ref b10), (.ref b10)])) rfl (by rw [hml]; rfl) (Steps.refl _) (a := b10) (argsL := []) (rest := [(.ref b10)]) (lenOf pd_3 rfl) rfl (by show 2 * 0 + _ ≤ _; exact Nat.le_of_eq rfl) (hb hby at_50) (fun _ _ => ⟨rfl, e10, (by decide : 1 + 0 ≤ _), (by decide : 3 + 0 ≤ _)⟩)
  dsimp only [Pt.U, Pt.locs, Pt.cells, Pt.slots] at X11 l11 y11 z11 st11 hQ11
  subst l11 y11 z11
  obtain ⟨rfl, N11q, K11q, E11q, F11q_quote, F11q_inSelector, F11q_escaping⟩ := hQ11
  have Zz11 := Nat.le_trans Zz10 K11q.1
  have K11 : Keep h0 T11.heap [] := K10.trans K11q (allS (Or.inr sz_b10) all0)
  have N11 := Fr.app N3 N11q
  obtain ⟨cq12, kq12, q12a, q12b, q12c⟩ := isOf hZ rfl E11q
  obtain ⟨_, _, ⟨T12, L12, k12, n12⟩, -, X12, ⟨Lc12, hQ12, l12, y12, z12⟩, st12⟩ := X11.virtualBack hx (y := (⟨"com/example/libinterp/libinterp/PathParser$SelectorScan", "read", "(C)V"⟩ : MethodName)) (z := (⟨"com/example/libinterp/libinterp/PathParser$SelectorScan", "read", "(C)V"⟩ : MethodName)) hown (mvT hZ (hw _ (List.mem_of_getElem? (i := 15) rfl))) (mvT hZ (hw _ (List.mem_of_getElem? (i := 16) rfl))) (notFace_of_selects (args := #[]) (mvT hZ (hw _ (List.mem_of_getElem? (i := 18) rfl)))) (mvT hZ (hw _ (List.mem_of_getElem? (i := 18) rfl))) (mvT hZ (hw _ (List.mem_of_getElem? (i := 17) rfl))) (by decide) (backOf (W := 0) (rm4 l Z a0 hw [] b10 (91 : Int32) (f2_quote (0 : Int32) (0 : Int32) (0 : Int32)) (0 : Int32) (0 : Int32) T11.heap n0 Zz11 E11q gn_b10 F11q_quote F11q_inSelector F11q_escaping) hZ (hw _ (List.mem_of_getElem? (i := 19) rfl)) (hw _ (List.mem_of_getElem? (i := 6) rfl)) (by decide) (by decide)) q12a q12c (g := (mkF m 59 #[.val (.int p0), .val (.int p1), .val (.int p2), .val (.int p3), .val (.int (f1 p0)), .val (.int (f1 p1)), .val (.int (f1 p2)), .val (.int (f0_s0_29001 p3)), .val (.int (f0_s0_44002 p3)), .val (.ref b10), .unset, .unset, .unset, .unset, .unset, .unset] [(.int (91 : Int32)), (.ref b10)])) rfl (by rw [hml]; rfl) (Steps.refl _) (argsL := [(.int (91 : Int32))]) (rest := []) (lenOf pd_1 rfl) rfl (by show 2 * 0 + _ ≤ _; exact Nat.le_of_eq rfl) (hb hby at_59) (fun _ _ => ⟨rfl, rfl, (by decide : 1 + 0 ≤ _), (by decide : 3 + 0 ≤ _)⟩)
  dsimp only [Pt.U, Pt.locs, Pt.cells, Pt.slots] at X12 l12 y12 z12 st12 hQ12
  subst l12 y12 z12
  obtain ⟨rfl, N12q, K12q, E12q, F12q_quote, F12q_inSelector, F12q_escaping⟩ := hQ12
  have F12n_quote : Fld Z T12.heap b10 "com/example/libinterp/libinterp/PathParser$SelectorScan" "quote" "C" (.int f0_e1) := F12q_quote
  have F12n_inSelector : Fld Z T12.heap b10 "com/example/libinterp/libinterp/PathParser$SelectorScan" "inSelector" "Z" (.int f0_e2) := F12q_inSelector
  have F12n_escaping : Fld Z T12.heap b10 "com/example/libinterp/libinterp/PathParser$SelectorScan" "escaping" "Z" (.int f0_e3) := F12q_escaping
  have Zz12 := Nat.le_trans Zz11 K12q.1
  have K12 : Keep h0 T12.heap [] := K11.trans K12q (allS (Or.inr sz_b10) all0)
  have N12 := Fr.app N11 N12q
  obtain ⟨cq13, kq13, q13a, q13b, q13c⟩ := isOf hZ rfl E12q
  obtain ⟨_, _, ⟨T13, L13, k13, n13⟩, -, X13, ⟨Lc13, hQ13, l13, y13, z13⟩, st13⟩ := X12.virtualBack hx (y := (⟨"com/example/libinterp/libinterp/PathParser$SelectorScan", "read", "(C)V"⟩ : MethodName)) (z := (⟨"com/example/libinterp/libinterp/PathParser$SelectorScan", "read", "(C)V"⟩ : MethodName)) hown (mvT hZ (hw _ (List.mem_of_getElem? (i := 15) rfl))) (mvT hZ (hw _ (List.mem_of_getElem? (i := 16) rfl))) (notFace_of_selects (args := #[]) (mvT hZ (hw _ (List.mem_of_getElem? (i := 18) rfl)))) (mvT hZ (hw _ (List.mem_of_getElem? (i := 18) rfl))) (mvT hZ (hw _ (List.mem_of_getElem? (i := 17) rfl))) (by decide) (backOf (W := 0) (rm4 l Z a0 hw [] b10 (f1 p0) f0_e1 f0_e2 f0_e3 T12.heap n0 Zz12 E12q gn_b10 F12n_quote F12n_inSelector F12n_escaping) hZ (hw _ (List.mem_of_getElem? (i := 19) rfl)) (hw _ (List.mem_of_getElem? (i := 6) rfl)) (by decide) (by decide)) q13a q13c (g := (mkF m 66 #[.val (.int p0), .val (.int p1), .val (.int p2), .val (.int p3), .val (.int (f1 p0)), .val (.int (f1 p1)), .val (.int (f1 p2)), .val (.int (f0_s0_29001 p3)), .val (.int (f0_s0_44002 p3)), .val (.ref b10), .unset, .unset, .unset, .unset, .unset, .unset] [(.int (f1 p0)), (.ref b10)])) rfl (by rw [hml]; rfl) (Steps.refl _) (argsL := [(.int (f1 p0))]) (rest := []) (lenOf pd_1 rfl) rfl (by show 2 * 0 + _ ≤ _; exact Nat.le_of_eq rfl) (hb hby at_66) (fun _ _ => ⟨rfl, rfl, (by decide : 1 + 0 ≤ _), (by decide : 3 + 0 ≤ _)⟩)
  dsimp only [Pt.U, Pt.locs, Pt.cells, Pt.slots] at X13 l13 y13 z13 st13 hQ13
  subst l13 y13 z13
  obtain ⟨rfl, N13q, K13q, E13q, F13q_quote, F13q_inSelector, F13q_escaping⟩ := hQ13
  have Zz13 := Nat.le_trans Zz12 K13q.1
  have K13 : Keep h0 T13.heap [] := K12.trans K13q (allS (Or.inr sz_b10) all0)
  have N13 := Fr.app N12 N13q
  obtain ⟨cq14, kq14, q14a, q14b, q14c⟩ := isOf hZ rfl E13q
  obtain ⟨_, _, ⟨T14, L14, k14, n14⟩, -, X14, ⟨Lc14, hQ14, l14, y14, z14⟩, st14⟩ := X13.virtualBack hx (y := (⟨"com/example/libinterp/libinterp/PathParser$SelectorScan", "read", "(C)V"⟩ : MethodName)) (z := (⟨"com/example/libinterp/libinterp/PathParser$SelectorScan", "read", "(C)V"⟩ : MethodName)) hown (mvT hZ (hw _ (List.mem_of_getElem? (i := 15) rfl))) (mvT hZ (hw _ (List.mem_of_getElem? (i := 16) rfl))) (notFace_of_selects (args := #[]) (mvT hZ (hw _ (List.mem_of_getElem? (i := 18) rfl)))) (mvT hZ (hw _ (List.mem_of_getElem? (i := 18) rfl))) (mvT hZ (hw _ (List.mem_of_getElem? (i := 17) rfl))) (by decide) (backOf (W := 0) (rm4 l Z a0 hw [] b10 (f1 p1) (f4_quote (f1 p0) f0_e1 f0_e2 f0_e3) (f4_inSelector (f1 p0) f0_e1 f0_e2 f0_e3) (f4_escaping (f1 p0) f0_e1 f0_e2 f0_e3) T13.heap n0 Zz13 E13q gn_b10 F13q_quote F13q_inSelector F13q_escaping) hZ (hw _ (List.mem_of_getElem? (i := 19) rfl)) (hw _ (List.mem_of_getElem? (i := 6) rfl)) (by decide) (by decide)) q14a q14c (g := (mkF m 73 #[.val (.int p0), .val (.int p1), .val (.int p2), .val (.int p3), .val (.int (f1 p0)), .val (.int (f1 p1)), .val (.int (f1 p2)), .val (.int (f0_s0_29001 p3)), .val (.int (f0_s0_44002 p3)), .val (.ref b10), .unset, .unset, .unset, .unset, .unset, .unset] [(.int (f1 p1)), (.ref b10)])) rfl (by rw [hml]; rfl) (Steps.refl _) (argsL := [(.int (f1 p1))]) (rest := []) (lenOf pd_1 rfl) rfl (by show 2 * 0 + _ ≤ _; exact Nat.le_of_eq rfl) (hb hby at_73) (fun _ _ => ⟨rfl, rfl, (by decide : 1 + 0 ≤ _), (by decide : 3 + 0 ≤ _)⟩)
  dsimp only [Pt.U, Pt.locs, Pt.cells, Pt.slots] at X14 l14 y14 z14 st14 hQ14
  subst l14 y14 z14
  obtain ⟨rfl, N14q, K14q, E14q, F14q_quote, F14q_inSelector, F14q_escaping⟩ := hQ14
  have F14n_quote : Fld Z T14.heap b10 "com/example/libinterp/libinterp/PathParser$SelectorScan" "quote" "C" (.int (f0_e4 p0 p1)) := F14q_quote
  have F14n_inSelector : Fld Z T14.heap b10 "com/example/libinterp/libinterp/PathParser$SelectorScan" "inSelector" "Z" (.int (f0_e5 p0 p1)) := F14q_inSelector
  have F14n_escaping : Fld Z T14.heap b10 "com/example/libinterp/libinterp/PathParser$SelectorScan" "escaping" "Z" (.int (f0_e6 p0 p1)) := F14q_escaping
  have Zz14 := Nat.le_trans Zz13 K14q.1
  have K14 : Keep h0 T14.heap [] := K13.trans K14q (allS (Or.inr sz_b10) all0)
  have N14 := Fr.app N13 N14q
  obtain ⟨cq15, kq15, q15a, q15b, q15c⟩ := isOf hZ rfl E14q
  obtain ⟨_, _, ⟨T15, L15, k15, n15⟩, -, X15, ⟨Lc15, hQ15, l15, y15, z15⟩, st15⟩ := X14.virtualBack hx (y := (⟨"com/example/libinterp/libinterp/PathParser$SelectorScan", "read", "(C)V"⟩ : MethodName)) (z := (⟨"com/example/libinterp/libinterp/PathParser$SelectorScan", "read", "(C)V"⟩ : MethodName)) hown (mvT hZ (hw _ (List.mem_of_getElem? (i := 15) rfl))) (mvT hZ (hw _ (List.mem_of_getElem? (i := 16) rfl))) (notFace_of_selects (args := #[]) (mvT hZ (hw _ (List.mem_of_getElem? (i := 18) rfl)))) (mvT hZ (hw _ (List.mem_of_getElem? (i := 18) rfl))) (mvT hZ (hw _ (List.mem_of_getElem? (i := 17) rfl))) (by decide) (backOf (W := 0) (rm4 l Z a0 hw [] b10 (f1 p2) (f0_e4 p0 p1) (f0_e5 p0 p1) (f0_e6 p0 p1) T14.heap n0 Zz14 E14q gn_b10 F14n_quote F14n_inSelector F14n_escaping) hZ (hw _ (List.mem_of_getElem? (i := 19) rfl)) (hw _ (List.mem_of_getElem? (i := 6) rfl)) (by decide) (by decide)) q15a q15c (g := (mkF m 80 #[.val (.int p0), .val (.int p1), .val (.int p2), .val (.int p3), .val (.int (f1 p0)), .val (.int (f1 p1)), .val (.int (f1 p2)), .val (.int (f0_s0_29001 p3)), .val (.int (f0_s0_44002 p3)), .val (.ref b10), .unset, .unset, .unset, .unset, .unset, .unset] [(.int (f1 p2)), (.ref b10)])) rfl (by rw [hml]; rfl) (Steps.refl _) (argsL := [(.int (f1 p2))]) (rest := []) (lenOf pd_1 rfl) rfl (by show 2 * 0 + _ ≤ _; exact Nat.le_of_eq rfl) (hb hby at_80) (fun _ _ => ⟨rfl, rfl, (by decide : 1 + 0 ≤ _), (by decide : 3 + 0 ≤ _)⟩)
  dsimp only [Pt.U, Pt.locs, Pt.cells, Pt.slots] at X15 l15 y15 z15 st15 hQ15
  subst l15 y15 z15
  obtain ⟨rfl, N15q, K15q, E15q, F15q_quote, F15q_inSelector, F15q_escaping⟩ := hQ15
  have Zz15 := Nat.le_trans Zz14 K15q.1
  have K15 : Keep h0 T15.heap [] := K14.trans K15q (allS (Or.inr sz_b10) all0)
  have N15 := Fr.app N14 N15q
  obtain ⟨cq16, kq16, q16a, q16b, q16c⟩ := isOf hZ rfl E15q
  obtain ⟨_, _, ⟨T16, L16, k16, n16⟩, -, X16, ⟨Lc16, hQ16, l16, y16, z16⟩, st16⟩ := X15.virtualBack hx (y := (⟨"com/example/libinterp/libinterp/PathParser$SelectorScan", "isOutside", "()Z"⟩ : MethodName)) (z := (⟨"com/example/libinterp/libinterp/PathParser$SelectorScan", "isOutside", "()Z"⟩ : MethodName)) hown (mvT hZ (hw _ (List.mem_of_getElem? (i := 26) rfl))) (mvT hZ (hw _ (List.mem_of_getElem? (i := 27) rfl))) (notFace_of_selects (args := #[]) (mvT hZ (hw _ (List.mem_of_getElem? (i := 29) rfl)))) (mvT hZ (hw _ (List.mem_of_getElem? (i := 29) rfl))) (mvT hZ (hw _ (List.mem_of_getElem? (i := 28) rfl))) (by decide) (backOf (W := 0) (rm6 l Z a0 hw [] b10 (f4_quote (f1 p2) (f0_e4 p0 p1) (f0_e5 p0 p1) (f0_e6 p0 p1)) (f4_inSelector (f1 p2) (f0_e4 p0 p1) (f0_e5 p0 p1) (f0_e6 p0 p1)) (f4_escaping (f1 p2) (f0_e4 p0 p1) (f0_e5 p0 p1) (f0_e6 p0 p1)) T15.heap n0 Zz15 E15q gn_b10 F15q_quote F15q_inSelector F15q_escaping) hZ (hw _ (List.mem_of_getElem? (i := 30) rfl)) (hw _ (List.mem_of_getElem? (i := 6) rfl)) (by decide) (by decide)) q16a q16c (g := (mkF m 85 #[.val (.int p0), .val (.int p1), .val (.int p2), .val (.int p3), .val (.int (f1 p0)), .val (.int (f1 p1)), .val (.int (f1 p2)), .val (.int (f0_s0_29001 p3)), .val (.int (f0_s0_44002 p3)), .val (.ref b10), .unset, .unset, .unset, .unset, .unset, .unset] [(.ref b10)])) rfl (by rw [hml]; rfl) (Steps.refl _) (argsL := []) (rest := []) (lenOf pd_4 rfl) rfl (by show 2 * 0 + _ ≤ _; exact Nat.le_of_eq rfl) (hb hby at_85) (fun _ _ => ⟨rfl, rfl, (by decide : 1 + 0 ≤ _), (by decide : 3 + 0 ≤ _)⟩)
  dsimp only [Pt.U, Pt.locs, Pt.cells, Pt.slots] at X16 l16 y16 z16 st16 hQ16
  subst l16 y16 z16
  obtain ⟨rfl, N16q, e16⟩ := hQ16
  have N16 := Fr.app N15 N16q
  have pre17 : ∀ t, Steps p.tables e below (T16.setTop (mkF m 92 #[.val (.int p0), .val (.int p1), .val (.int p2), .val (.int p3), .val (.int (f1 p0)), .val (.int (f1 p1)), .val (.int (f1 p2)), .val (.int (f0_s0_29001 p3)), .val (.int (f0_s0_44002 p3)), .val (.ref b10), .val (.int (f0_e7 p0 p1 p2)), .unset, .unset, .unset, .unset, .unset] [(.int (f0_s0_29001 p3))])) t → Steps p.tables e below (s₁.setTop (entryFrame m #[(.int p0), (.int p1), (.int p2), (.int p3)] maxLocals)) t := fun t kt => pre9 t (by
    show Steps p.tables e below (T3.setTop (mkF m 44 #[.val (.int p0), .val (.int p1), .val (.int p2), .val (.int p3), .val (.int (f1 p0)), .val (.int (f1 p1)), .val (.int (f1 p2)), .val (.int (f0_s0_29001 p3)), .unset, .unset, .unset, .unset, .unset, .unset, .unset, .unset] [(.int (f0_s0_44002 p3))])) _
    refine XS.istore X3.here hx rfl (hb hby at_44) rfl (l' := #[.val (.int p0), .val (.int p1), .val (.int p2), .val (.int p3), .val (.int (f1 p0)), .val (.int (f1 p1)), .val (.int (f1 p2)), .val (.int (f0_s0_29001 p3)), .val (.int (f0_s0_44002 p3)), .unset, .unset, .unset, .unset, .unset, .unset, .unset]) rfl ?_
    show Steps p.tables e below (T3.setTop (mkF m 46 #[.val (.int p0), .val (.int p1), .val (.int p2), .val (.int p3), .val (.int (f1 p0)), .val (.int (f1 p1)), .val (.int (f1 p2)), .val (.int (f0_s0_29001 p3)), .val (.int (f0_s0_44002 p3)), .unset, .unset, .unset, .unset, .unset, .unset, .unset] [])) _
    refine st10 _ ?_
    show Steps p.tables e below (T10.setTop (mkF m 49 #[.val (.int p0), .val (.int p1), .val (.int p2), .val (.int p3), .val (.int (f1 p0)), .val (.int (f1 p1)), .val (.int (f1 p2)), .val (.int (f0_s0_29001 p3)), .val (.int (f0_s0_44002 p3)), .unset, .unset, .unset, .unset, .unset, .unset, .unset] [(.ref b10)])) _
    refine XS.dup X10.here hx rfl (hb hby at_49) rfl rfl ?_
    show Steps p.tables e below (T10.setTop (mkF m 50 #[.val (.int p0), .val (.int p1), .val (.int p2), .val (.int p3), .val (.int (f1 p0)), .val (.int (f1 p1)), .val (.int (f1 p2)), .val (.int (f0_s0_29001 p3)), .val (.int (f0_s0_44002 p3)), .unset, .unset, .unset, .unset, .unset, .unset, .unset] [(.ref b10), (.ref b10)])) _
    refine st11.trans ?_
    show Steps p.tables e below (T11.setTop (mkF m 53 #[.val (.int p0), .val (.int p1), .val (.int p2), .val (.int p3), .val (.int (f1 p0)), .val (.int (f1 p1)), .val (.int (f1 p2)), .val (.int (f0_s0_29001 p3)), .val (.int (f0_s0_44002 p3)), .unset, .unset, .unset, .unset, .unset, .unset, .unset] [(.ref b10)])) _
    refine XS.astore X11.here hx rfl (hb hby at_53) rfl rfl (l' := #[.val (.int p0), .val (.int p1), .val (.int p2), .val (.int p3), .val (.int (f1 p0)), .val (.int (f1 p1)), .val (.int (f1 p2)), .val (.int (f0_s0_29001 p3)), .val (.int (f0_s0_44002 p3)), .val (.ref b10), .unset, .unset, .unset, .unset, .unset, .unset]) rfl ?_
    show Steps p.tables e below (T11.setTop (mkF m 55 #[.val (.int p0), .val (.int p1), .val (.int p2), .val (.int p3), .val (.int (f1 p0)), .val (.int (f1 p1)), .val (.int (f1 p2)), .val (.int (f0_s0_29001 p3)), .val (.int (f0_s0_44002 p3)), .val (.ref b10), .unset, .unset, .unset, .unset, .unset, .unset] [])) _
    refine XS.aload X11.here hx rfl (hb hby at_55) rfl rfl ?_
    show Steps p.tables e below (T11.setTop (mkF m 57 #[.val (.int p0), .val (.int p1), .val (.int p2), .val (.int p3), .val (.int (f1 p0)), .val (.int (f1 p1)), .val (.int (f1 p2)), .val (.int (f0_s0_29001 p3)), .val (.int (f0_s0_44002 p3)), .val (.ref b10), .unset, .unset, .unset, .unset, .unset, .unset] [(.ref b10)])) _
    refine XS.bipush X11.here hx rfl (hb hby at_57) ?_
    show Steps p.tables e below (T11.setTop (mkF m 59 #[.val (.int p0), .val (.int p1), .val (.int p2), .val (.int p3), .val (.int (f1 p0)), .val (.int (f1 p1)), .val (.int (f1 p2)), .val (.int (f0_s0_29001 p3)), .val (.int (f0_s0_44002 p3)), .val (.ref b10), .unset, .unset, .unset, .unset, .unset, .unset] [(.int (91 : Int32)), (.ref b10)])) _
    refine st12.trans ?_
    show Steps p.tables e below (T12.setTop (mkF m 62 #[.val (.int p0), .val (.int p1), .val (.int p2), .val (.int p3), .val (.int (f1 p0)), .val (.int (f1 p1)), .val (.int (f1 p2)), .val (.int (f0_s0_29001 p3)), .val (.int (f0_s0_44002 p3)), .val (.ref b10), .unset, .unset, .unset, .unset, .unset, .unset] [])) _
    refine XS.aload X12.here hx rfl (hb hby at_62) rfl rfl ?_
    show Steps p.tables e below (T12.setTop (mkF m 64 #[.val (.int p0), .val (.int p1), .val (.int p2), .val (.int p3), .val (.int (f1 p0)), .val (.int (f1 p1)), .val (.int (f1 p2)), .val (.int (f0_s0_29001 p3)), .val (.int (f0_s0_44002 p3)), .val (.ref b10), .unset, .unset, .unset, .unset, .unset, .unset] [(.ref b10)])) _
    refine XS.iload X12.here hx rfl (hb hby at_64) rfl ?_
    show Steps p.tables e below (T12.setTop (mkF m 66 #[.val (.int p0), .val (.int p1), .val (.int p2), .val (.int p3), .val (.int (f1 p0)), .val (.int (f1 p1)), .val (.int (f1 p2)), .val (.int (f0_s0_29001 p3)), .val (.int (f0_s0_44002 p3)), .val (.ref b10), .unset, .unset, .unset, .unset, .unset, .unset] [(.int (f1 p0)), (.ref b10)])) _
    refine st13.trans ?_
    show Steps p.tables e below (T13.setTop (mkF m 69 #[.val (.int p0), .val (.int p1), .val (.int p2), .val (.int p3), .val (.int (f1 p0)), .val (.int (f1 p1)), .val (.int (f1 p2)), .val (.int (f0_s0_29001 p3)), .val (.int (f0_s0_44002 p3)), .val (.ref b10), .unset, .unset, .unset, .unset, .unset, .unset] [])) _
    refine XS.aload X13.here hx rfl (hb hby at_69) rfl rfl ?_
    show Steps p.tables e below (T13.setTop (mkF m 71 #[.val (.int p0), .val (.int p1), .val (.int p2), .val (.int p3), .val (.int (f1 p0)), .val (.int (f1 p1)), .val (.int (f1 p2)), .val (.int (f0_s0_29001 p3)), .val (.int (f0_s0_44002 p3)), .val (.ref b10), .unset, .unset, .unset, .unset, .unset, .unset] [(.ref b10)])) _
    refine XS.iload X13.here hx rfl (hb hby at_71) rfl ?_
    show Steps p.tables e below (T13.setTop (mkF m 73 #[.val (.int p0), .val (.int p1), .val (.int p2), .val (.int p3), .val (.int (f1 p0)), .val (.int (f1 p1)), .val (.int (f1 p2)), .val (.int (f0_s0_29001 p3)), .val (.int (f0_s0_44002 p3)), .val (.ref b10), .unset, .unset, .unset, .unset, .unset, .unset] [(.int (f1 p1)), (.ref b10)])) _
    refine st14.trans ?_
    show Steps p.tables e below (T14.setTop (mkF m 76 #[.val (.int p0), .val (.int p1), .val (.int p2), .val (.int p3), .val (.int (f1 p0)), .val (.int (f1 p1)), .val (.int (f1 p2)), .val (.int (f0_s0_29001 p3)), .val (.int (f0_s0_44002 p3)), .val (.ref b10), .unset, .unset, .unset, .unset, .unset, .unset] [])) _
    refine XS.aload X14.here hx rfl (hb hby at_76) rfl rfl ?_
    show Steps p.tables e below (T14.setTop (mkF m 78 #[.val (.int p0), .val (.int p1), .val (.int p2), .val (.int p3), .val (.int (f1 p0)), .val (.int (f1 p1)), .val (.int (f1 p2)), .val (.int (f0_s0_29001 p3)), .val (.int (f0_s0_44002 p3)), .val (.ref b10), .unset, .unset, .unset, .unset, .unset, .unset] [(.ref b10)])) _
    refine XS.iload X14.here hx rfl (hb hby at_78) rfl ?_
    show Steps p.tables e below (T14.setTop (mkF m 80 #[.val (.int p0), .val (.int p1), .val (.int p2), .val (.int p3), .val (.int (f1 p0)), .val (.int (f1 p1)), .val (.int (f1 p2)), .val (.int (f0_s0_29001 p3)), .val (.int (f0_s0_44002 p3)), .val (.ref b10), .unset, .unset, .unset, .unset, .unset, .unset] [(.int (f1 p2)), (.ref b10)])) _
    refine st15.trans ?_
    show Steps p.tables e below (T15.setTop (mkF m 83 #[.val (.int p0), .val (.int p1), .val (.int p2), .val (.int p3), .val (.int (f1 p0)), .val (.int (f1 p1)), .val (.int (f1 p2)), .val (.int (f0_s0_29001 p3)), .val (.int (f0_s0_44002 p3)), .val (.ref b10), .unset, .unset, .unset, .unset, .unset, .unset] [])) _
    refine XS.aload X15.here hx rfl (hb hby at_83) rfl rfl ?_
    show Steps p.tables e below (T15.setTop (mkF m 85 #[.val (.int p0), .val (.int p1), .val (.int p2), .val (.int p3), .val (.int (f1 p0)), .val (.int (f1 p1)), .val (.int (f1 p2)), .val (.int (f0_s0_29001 p3)), .val (.int (f0_s0_44002 p3)), .val (.ref b10), .unset, .unset, .unset, .unset, .unset, .unset] [(.ref b10)])) _
    refine st16.trans ?_
    show Steps p.tables e below (T16.setTop (mkF m 88 #[.val (.int p0), .val (.int p1), .val (.int p2), .val (.int p3), .val (.int (f1 p0)), .val (.int (f1 p1)), .val (.int (f1 p2)), .val (.int (f0_s0_29001 p3)), .val (.int (f0_s0_44002 p3)), .val (.ref b10), .unset, .unset, .unset, .unset, .unset, .unset] [(.int (f0_e7 p0 p1 p2))])) _
    refine XS.istore X16.here hx rfl (hb hby at_88) rfl (l' := #[.val (.int p0), .val (.int p1), .val (.int p2), .val (.int p3), .val (.int (f1 p0)), .val (.int (f1 p1)), .val (.int (f1 p2)), .val (.int (f0_s0_29001 p3)), .val (.int (f0_s0_44002 p3)), .val (.ref b10), .val (.int (f0_e7 p0 p1 p2)), .unset, .unset, .unset, .unset, .unset]) rfl ?_
    show Steps p.tables e below (T16.setTop (mkF m 90 #[.val (.int p0), .val (.int p1), .val (.int p2), .val (.int p3), .val (.int (f1 p0)), .val (.int (f1 p1)), .val (.int (f1 p2)), .val (.int (f0_s0_29001 p3)), .val (.int (f0_s0_44002 p3)), .val (.ref b10), .val (.int (f0_e7 p0 p1 p2)), .unset, .unset, .unset, .unset, .unset] [])) _
    refine XS.iload X16.here hx rfl (hb hby at_90) rfl ?_
    exact kt)
  by_cases hc18 : (f0_s0_29001 p3) = (0 : Int32)
  · obtain ⟨cq19, kq19, q19a, q19b, q19c⟩ := isOf hZ e16 E15q
    obtain ⟨_, _, ⟨T19, L19, k19, n19⟩, -, X19, ⟨Lc19, hQ19, l19, y19, z19⟩, st19⟩ := X16.virtualBack hx (y := (⟨"com/example/libinterp/libinterp/PathParser$SelectorScan", "read", "(C)V"⟩ : MethodName)) (z := (⟨"com/example/libinterp/libinterp/PathParser$SelectorScan", "read", "(C)V"⟩ : MethodName)) hown (mvT hZ (hw _ (List.mem_of_getElem? (i := 15) rfl))) (mvT hZ (hw _ (List.mem_of_getElem? (i := 16) rfl))) (notFace_of_selects (args := #[]) (mvT hZ (hw _ (List.mem_of_getElem? (i := 18) rfl)))) (mvT hZ (hw _ (List.mem_of_getElem? (i := 18) rfl))) (mvT hZ (hw _ (List.mem_of_getElem? (i := 17) rfl))) (by decide) (backOf (W := 0) (rm4 l Z a0 hw [] b10 (f0_s0_44002 p3) (f4_quote (f1 p2) (f0_e4 p0 p1) (f0_e5 p0 p1) (f0_e6 p0 p1)) (f4_inSelector (f1 p2) (f0_e4 p0 p1) (f0_e5 p0 p1) (f0_e6 p0 p1)) (f4_escaping (f1 p2) (f0_e4 p0 p1) (f0_e5 p0 p1) (f0_e6 p0 p1)) T15.heap n0 Zz15 E15q gn_b10 F15q_quote F15q_inSelector F15q_escaping) hZ (hw _ (List.mem_of_getElem? (i := 19) rfl)) (hw _ (List.mem_of_getElem? (i := 6) rfl)) (by decide) (by decide)) q19a q19c (g := (mkF m 99 #[.val (.int p0), .val (.int p1), .val (.int p2), .val (.int p3), .val (.int (f1 p0)), .val (.int (f1 p1)), .val (.int (f1 p2)), .val (.int (f0_s0_29001 p3)), .val (.int (f0_s0_44002 p3)), .val (.ref b10), .val (.int (f0_e7 p0 p1 p2)), .unset, .unset, .unset, .unset, .unset] [(.int (f0_s0_44002 p3)), (.ref b10)])) rfl (by rw [hml]; rfl) (Steps.refl _) (argsL := [(.int (f0_s0_44002 p3))]) (rest := []) (lenOf pd_1 rfl) rfl (by show 2 * 0 + _ ≤ _; exact Nat.le_of_eq rfl) (hb hby at_99) (fun _ _ => ⟨rfl, e16, (by decide : 1 + 0 ≤ _), (by decide : 3 + 0 ≤ _)⟩)
    dsimp only [Pt.U, Pt.locs, Pt.cells, Pt.slots] at X19 l19 y19 z19 st19 hQ19
    subst l19 y19 z19
    obtain ⟨rfl, N19q, K19q, E19q, F19q_quote, F19q_inSelector, F19q_escaping⟩ := hQ19
    have F19n_quote : Fld Z T19.heap b10 "com/example/libinterp/libinterp/PathParser$SelectorScan" "quote" "C" (.int (f0_e8 p0 p1 p2 p3)) := F19q_quote
    have F19n_inSelector : Fld Z T19.heap b10 "com/example/libinterp/libinterp/PathParser$SelectorScan" "inSelector" "Z" (.int (f0_e9 p0 p1 p2 p3)) := F19q_inSelector
    have F19n_escaping : Fld Z T19.heap b10 "com/example/libinterp/libinterp/PathParser$SelectorScan" "escaping" "Z" (.int (f0_e10 p0 p1 p2 p3)) := F19q_escaping
    have Zz19 := Nat.le_trans Zz15 K19q.1
    have K19 : Keep h0 T19.heap [] := K15.trans K19q (allS (Or.inr sz_b10) all0)
    have N19 := Fr.app N16 N19q
    obtain ⟨cq20, kq20, q20a, q20b, q20c⟩ := isOf hZ rfl E19q
    obtain ⟨_, _, ⟨T20, L20, k20, n20⟩, -, X20, ⟨Lc20, hQ20, l20, y20, z20⟩, st20⟩ := X19.virtualBack hx (y := (⟨"com/example/libinterp/libinterp/PathParser$SelectorScan", "read", "(C)V"⟩ : MethodName)) (z := (⟨"com/example/libinterp/libinterp/PathParser$SelectorScan", "read", "(C)V"⟩ : MethodName)) hown (mvT hZ (hw _ (List.mem_of_getElem? (i := 15) rfl))) (mvT hZ (hw _ (List.mem_of_getElem? (i := 16) rfl))) (notFace_of_selects (args := #[]) (mvT hZ (hw _ (List.mem_of_getElem? (i := 18) rfl)))) (mvT hZ (hw _ (List.mem_of_getElem? (i := 18) rfl))) (mvT hZ (hw _ (List.mem_of_getElem? (i := 17) rfl))) (by decide) (backOf (W := 0) (rm4 l Z a0 hw [] b10 (93 : Int32) (f0_e8 p0 p1 p2 p3) (f0_e9 p0 p1 p2 p3) (f0_e10 p0 p1 p2 p3) T19.heap n0 Zz19 E19q gn_b10 F19n_quote F19n_inSelector F19n_escaping) hZ (hw _ (List.mem_of_getElem? (i := 19) rfl)) (hw _ (List.mem_of_getElem? (i := 6) rfl)) (by decide) (by decide)) q20a q20c (g := (mkF m 106 #[.val (.int p0), .val (.int p1), .val (.int p2), .val (.int p3), .val (.int (f1 p0)), .val (.int (f1 p1)), .val (.int (f1 p2)), .val (.int (f0_s0_29001 p3)), .val (.int (f0_s0_44002 p3)), .val (.ref b10), .val (.int (f0_e7 p0 p1 p2)), .unset, .unset, .unset, .unset, .unset] [(.int (93 : Int32)), (.ref b10)])) rfl (by rw [hml]; rfl) (Steps.refl _) (argsL := [(.int (93 : Int32))]) (rest := []) (lenOf pd_1 rfl) rfl (by show 2 * 0 + _ ≤ _; exact Nat.le_of_eq rfl) (hb hby at_106) (fun _ _ => ⟨rfl, rfl, (by decide : 1 + 0 ≤ _), (by decide : 3 + 0 ≤ _)⟩)
    dsimp only [Pt.U, Pt.locs, Pt.cells, Pt.slots] at X20 l20 y20 z20 st20 hQ20
    subst l20 y20 z20
    obtain ⟨rfl, N20q, K20q, E20q, F20q_quote, F20q_inSelector, F20q_escaping⟩ := hQ20
    have F20n_quote : Fld Z T20.heap b10 "com/example/libinterp/libinterp/PathParser$SelectorScan" "quote" "C" (.int (f0_e11 p0 p1 p2 p3)) := F20q_quote
    have F20n_inSelector : Fld Z T20.heap b10 "com/example/libinterp/libinterp/PathParser$SelectorScan" "inSelector" "Z" (.int (f0_e12 p0 p1 p2 p3)) := F20q_inSelector
    have F20n_escaping : Fld Z T20.heap b10 "com/example/libinterp/libinterp/PathParser$SelectorScan" "escaping" "Z" (.int (f0_e13 p0 p1 p2 p3)) := F20q_escaping
    have Zz20 := Nat.le_trans Zz19 K20q.1
    have K20 : Keep h0 T20.heap [] := K19.trans K20q (allS (Or.inr sz_b10) all0)
    have N20 := Fr.app N19 N20q
    obtain ⟨cq21, kq21, q21a, q21b, q21c⟩ := isOf hZ rfl E20q
    obtain ⟨_, _, ⟨T21, L21, k21, n21⟩, -, X21, ⟨Lc21, hQ21, l21, y21, z21⟩, st21⟩ := X20.virtualBack hx (y := (⟨"com/example/libinterp/libinterp/PathParser$SelectorScan", "isOutside", "()Z"⟩ : MethodName)) (z := (⟨"com/example/libinterp/libinterp/PathParser$SelectorScan", "isOutside", "()Z"⟩ : MethodName)) hown (mvT hZ (hw _ (List.mem_of_getElem? (i := 26) rfl))) (mvT hZ (hw _ (List.mem_of_getElem? (i := 27) rfl))) (notFace_of_selects (args := #[]) (mvT hZ (hw _ (List.mem_of_getElem? (i := 29) rfl)))) (mvT hZ (hw _ (List.mem_of_getElem? (i := 29) rfl))) (mvT hZ (hw _ (List.mem_of_getElem? (i := 28) rfl))) (by decide) (backOf (W := 0) (rm6 l Z a0 hw [] b10 (f0_e11 p0 p1 p2 p3) (f0_e12 p0 p1 p2 p3) (f0_e13 p0 p1 p2 p3) T20.heap n0 Zz20 E20q gn_b10 F20n_quote F20n_inSelector F20n_escaping) hZ (hw _ (List.mem_of_getElem? (i := 30) rfl)) (hw _ (List.mem_of_getElem? (i := 6) rfl)) (by decide) (by decide)) q21a q21c (g := (mkF m 111 #[.val (.int p0), .val (.int p1), .val (.int p2), .val (.int p3), .val (.int (f1 p0)), .val (.int (f1 p1)), .val (.int (f1 p2)), .val (.int (f0_s0_29001 p3)), .val (.int (f0_s0_44002 p3)), .val (.ref b10), .val (.int (f0_e7 p0 p1 p2)), .unset, .unset, .unset, .unset, .unset] [(.ref b10)])) rfl (by rw [hml]; rfl) (Steps.refl _) (argsL := []) (rest := []) (lenOf pd_4 rfl) rfl (by show 2 * 0 + _ ≤ _; exact Nat.le_of_eq rfl) (hb hby at_111) (fun _ _ => ⟨rfl, rfl, (by decide : 1 + 0 ≤ _), (by decide : 3 + 0 ≤ _)⟩)
    dsimp only [Pt.U, Pt.locs, Pt.cells, Pt.slots] at X21 l21 y21 z21 st21 hQ21
    subst l21 y21 z21
    obtain ⟨rfl, N21q, e21⟩ := hQ21
    have N21 := Fr.app N20 N21q
    have pre22 : ∀ t, Steps p.tables e below (T21.setTop (mkF m 124 #[.val (.int p0), .val (.int p1), .val (.int p2), .val (.int p3), .val (.int (f1 p0)), .val (.int (f1 p1)), .val (.int (f1 p2)), .val (.int (f0_s0_29001 p3)), .val (.int (f0_s0_44002 p3)), .val (.ref b10), .val (.int (f0_e7 p0 p1 p2)), .val (.int (f6 (f0_e11 p0 p1 p2 p3) (f0_e12 p0 p1 p2 p3) (f0_e13 p0 p1 p2 p3))), .unset, .val (.int (32 : Int32)), .unset, .unset] [(.int (93 : Int32)), (.int (f1 p0))])) t → Steps p.tables e below (s₁.setTop (entryFrame m #[(.int p0), (.int p1), (.int p2), (.int p3)] maxLocals)) t := fun t kt => pre17 t (by
      show Steps p.tables e below (T16.setTop (mkF m 92 #[.val (.int p0), .val (.int p1), .val (.int p2), .val (.int p3), .val (.int (f1 p0)), .val (.int (f1 p1)), .val (.int (f1 p2)), .val (.int (f0_s0_29001 p3)), .val (.int (f0_s0_44002 p3)), .val (.ref b10), .val (.int (f0_e7 p0 p1 p2)), .unset, .unset, .unset, .unset, .unset] [(.int (f0_s0_29001 p3))])) _
      refine XS.ifNo X16.here hx rfl (hb hby at_92) rfl ((if0 _ _).trans (teq hc18).2) ?_
      show Steps p.tables e below (T16.setTop (mkF m 95 #[.val (.int p0), .val (.int p1), .val (.int p2), .val (.int p3), .val (.int (f1 p0)), .val (.int (f1 p1)), .val (.int (f1 p2)), .val (.int (f0_s0_29001 p3)), .val (.int (f0_s0_44002 p3)), .val (.ref b10), .val (.int (f0_e7 p0 p1 p2)), .unset, .unset, .unset, .unset, .unset] [])) _
      refine XS.aload X16.here hx rfl (hb hby at_95) rfl rfl ?_
      show Steps p.tables e below (T16.setTop (mkF m 97 #[.val (.int p0), .val (.int p1), .val (.int p2), .val (.int p3), .val (.int (f1 p0)), .val (.int (f1 p1)), .val (.int (f1 p2)), .val (.int (f0_s0_29001 p3)), .val (.int (f0_s0_44002 p3)), .val (.ref b10), .val (.int (f0_e7 p0 p1 p2)), .unset, .unset, .unset, .unset, .unset] [(.ref b10)])) _
      refine XS.iload X16.here hx rfl (hb hby at_97) rfl ?_
      show Steps p.tables e below (T16.setTop (mkF m 99 #[.val (.int p0), .val (.int p1), .val (.int p2), .val (.int p3), .val (.int (f1 p0)), .val (.int (f1 p1)), .val (.int (f1 p2)), .val (.int (f0_s0_29001 p3)), .val (.int (f0_s0_44002 p3)), .val (.ref b10), .val (.int (f0_e7 p0 p1 p2)), .unset, .unset, .unset, .unset, .unset] [(.int (f0_s0_44002 p3)), (.ref b10)])) _
      refine st19.trans ?_
      show Steps p.tables e below (T19.setTop (mkF m 102 #[.val (.int p0), .val (.int p1), .val (.int p2), .val (.int p3), .val (.int (f1 p0)), .val (.int (f1 p1)), .val (.int (f1 p2)), .val (.int (f0_s0_29001 p3)), .val (.int (f0_s0_44002 p3)), .val (.ref b10), .val (.int (f0_e7 p0 p1 p2)), .unset, .unset, .unset, .unset, .unset] [])) _
      refine XS.aload X19.here hx rfl (hb hby at_102) rfl rfl ?_
      show Steps p.tables e below (T19.setTop (mkF m 104 #[.val (.int p0), .val (.int p1), .val (.int p2), .val (.int p3), .val (.int (f1 p0)), .val (.int (f1 p1)), .val (.int (f1 p2)), .val (.int (f0_s0_29001 p3)), .val (.int (f0_s0_44002 p3)), .val (.ref b10), .val (.int (f0_e7 p0 p1 p2)), .unset, .unset, .unset, .unset, .unset] [(.ref b10)])) _
      refine XS.bipush X19.here hx rfl (hb hby at_104) ?_
      show Steps p.tables e below (T19.setTop (mkF m 106 #[.val (.int p0), .val (.int p1), .val (.int p2), .val (.int p3), .val (.int (f1 p0)), .val (.int (f1 p1)), .val (.int (f1 p2)), .val (.int (f0_s0_29001 p3)), .val (.int (f0_s0_44002 p3)), .val (.ref b10), .val (.int (f0_e7 p0 p1 p2)), .unset, .unset, .unset, .unset, .unset] [(.int (93 : Int32)), (.ref b10)])) _
      refine st20.trans ?_
      show Steps p.tables e below (T20.setTop (mkF m 109 #[.val (.int p0), .val (.int p1), .val (.int p2), .val (.int p3), .val (.int (f1 p0)), .val (.int (f1 p1)), .val (.int (f1 p2)), .val (.int (f0_s0_29001 p3)), .val (.int (f0_s0_44002 p3)), .val (.ref b10), .val (.int (f0_e7 p0 p1 p2)), .unset, .unset, .unset, .unset, .unset] [])) _
      refine XS.aload X20.here hx rfl (hb hby at_109) rfl rfl ?_
      show Steps p.tables e below (T20.setTop (mkF m 111 #[.val (.int p0), .val (.int p1), .val (.int p2), .val (.int p3), .val (.int (f1 p0)), .val (.int (f1 p1)), .val (.int (f1 p2)), .val (.int (f0_s0_29001 p3)), .val (.int (f0_s0_44002 p3)), .val (.ref b10), .val (.int (f0_e7 p0 p1 p2)), .unset, .unset, .unset, .unset, .unset] [(.ref b10)])) _
      refine st21.trans ?_
      show Steps p.tables e below (T21.setTop (mkF m 114 #[.val (.int p0), .val (.int p1), .val (.int p2), .val (.int p3), .val (.int (f1 p0)), .val (.int (f1 p1)), .val (.int (f1 p2)), .val (.int (f0_s0_29001 p3)), .val (.int (f0_s0_44002 p3)), .val (.ref b10), .val (.int (f0_e7 p0 p1 p2)), .unset, .unset, .unset, .unset, .unset] [(.int (f6 (f0_e11 p0 p1 p2 p3) (f0_e12 p0 p1 p2 p3) (f0_e13 p0 p1 p2 p3)))])) _
      refine XS.istore X21.here hx rfl (hb hby at_114) rfl (l' := #[.val (.int p0), .val (.int p1), .val (.int p2), .val (.int p3), .val (.int (f1 p0)), .val (.int (f1 p1)), .val (.int (f1 p2)), .val (.int (f0_s0_29001 p3)), .val (.int (f0_s0_44002 p3)), .val (.ref b10), .val (.int (f0_e7 p0 p1 p2)), .val (.int (f6 (f0_e11 p0 p1 p2 p3) (f0_e12 p0 p1 p2 p3) (f0_e13 p0 p1 p2 p3))), .unset, .unset, .unset, .unset]) rfl ?_
      show Steps p.tables e below (T21.setTop (mkF m 116 #[.val (.int p0), .val (.int p1), .val (.int p2), .val (.int p3), .val (.int (f1 p0)), .val (.int (f1 p1)), .val (.int (f1 p2)), .val (.int (f0_s0_29001 p3)), .val (.int (f0_s0_44002 p3)), .val (.ref b10), .val (.int (f0_e7 p0 p1 p2)), .val (.int (f6 (f0_e11 p0 p1 p2 p3) (f0_e12 p0 p1 p2 p3) (f0_e13 p0 p1 p2 p3))), .unset, .unset, .unset, .unset] [])) _
      refine XS.bipush X21.here hx rfl (hb hby at_116) ?_
      show Steps p.tables e below (T21.setTop (mkF m 118 #[.val (.int p0), .val (.int p1), .val (.int p2), .val (.int p3), .val (.int (f1 p0)), .val (.int (f1 p1)), .val (.int (f1 p2)), .val (.int (f0_s0_29001 p3)), .val (.int (f0_s0_44002 p3)), .val (.ref b10), .val (.int (f0_e7 p0 p1 p2)), .val (.int (f6 (f0_e11 p0 p1 p2 p3) (f0_e12 p0 p1 p2 p3) (f0_e13 p0 p1 p2 p3))), .unset, .unset, .unset, .unset] [(.int (32 : Int32))])) _
      refine XS.istore X21.here hx rfl (hb hby at_118) rfl (l' := #[.val (.int p0), .val (.int p1), .val (.int p2), .val (.int p3), .val (.int (f1 p0)), .val (.int (f1 p1)), .val (.int (f1 p2)), .val (.int (f0_s0_29001 p3)), .val (.int (f0_s0_44002 p3)), .val (.ref b10), .val (.int (f0_e7 p0 p1 p2)), .val (.int (f6 (f0_e11 p0 p1 p2 p3) (f0_e12 p0 p1 p2 p3) (f0_e13 p0 p1 p2 p3))), .unset, .val (.int (32 : Int32)), .unset, .unset]) rfl ?_
      show Steps p.tables e below (T21.setTop (mkF m 120 #[.val (.int p0), .val (.int p1), .val (.int p2), .val (.int p3), .val (.int (f1 p0)), .val (.int (f1 p1)), .val (.int (f1 p2)), .val (.int (f0_s0_29001 p3)), .val (.int (f0_s0_44002 p3)), .val (.ref b10), .val (.int (f0_e7 p0 p1 p2)), .val (.int (f6 (f0_e11 p0 p1 p2 p3) (f0_e12 p0 p1 p2 p3) (f0_e13 p0 p1 p2 p3))), .unset, .val (.int (32 : Int32)), .unset, .unset] [])) _
      refine XS.iload X21.here hx rfl (hb hby at_120) rfl ?_
      show Steps p.tables e below (T21.setTop (mkF m 122 #[.val (.int p0), .val (.int p1), .val (.int p2), .val (.int p3), .val (.int (f1 p0)), .val (.int (f1 p1)), .val (.int (f1 p2)), .val (.int (f0_s0_29001 p3)), .val (.int (f0_s0_44002 p3)), .val (.ref b10), .val (.int (f0_e7 p0 p1 p2)), .val (.int (f6 (f0_e11 p0 p1 p2 p3) (f0_e12 p0 p1 p2 p3) (f0_e13 p0 p1 p2 p3))), .unset, .val (.int (32 : Int32)), .unset, .unset] [(.int (f1 p0))])) _
      refine XS.bipush X21.here hx rfl (hb hby at_122) ?_
      exact kt)
    obtain ⟨T70, L70, X70, e70, N70, pre70⟩ : ∃ (T' : State) (L' : List Loc), Stand p l e room_1 s m #[(.int p0), (.int p1), (.int p2), (.int p3)] below meth c T' L' 1 3 ∧ T'.heap = T20.heap ∧ Fr n0 L' ∧ ∀ t, Steps p.tables e below (T'.setTop (mkF m 395 #[.val (.int p0), .val (.int p1), .val (.int p2), .val (.int p3), .val (.int (f1 p0)), .val (.int (f1 p1)), .val (.int (f1 p2)), .val (.int (f0_s0_29001 p3)), .val (.int (f0_s0_44002 p3)), .val (.ref b10), .val (.int (f0_e7 p0 p1 p2)), .val (.int (f6 (f0_e11 p0 p1 p2 p3) (f0_e12 p0 p1 p2 p3) (f0_e13 p0 p1 p2 p3))), .val (.int (f0_l12_395013 p0 p1 p2)), .val (.int (f0_l13_395014 p0 p1 p2)), .unset, .unset] [])) t → Steps p.tables e below (s₁.setTop (entryFrame m #[(.int p0), (.int p1), (.int p2), (.int p3)] maxLocals)) t := by
      by_cases hc23 : (f1 p0) = (93 : Int32)
      · have pre24 : ∀ t, Steps p.tables e below (T21.setTop (mkF m 131 #[.val (.int p0), .val (.int p1), .val (.int p2), .val (.int p3), .val (.int (f1 p0)), .val (.int (f1 p1)), .val (.int (f1 p2)), .val (.int (f0_s0_29001 p3)), .val (.int (f0_s0_44002 p3)), .val (.ref b10), .val (.int (f0_e7 p0 p1 p2)), .val (.int (f6 (f0_e11 p0 p1 p2 p3) (f0_e12 p0 p1 p2 p3) (f0_e13 p0 p1 p2 p3))), .unset, .val (.int (32 : Int32)), .unset, .unset] [(.int (91 : Int32)), (.int (f1 p1))])) t → Steps p.tables e below (s₁.setTop (entryFrame m #[(.int p0), (.int p1), (.int p2), (.int p3)] maxLocals)) t := fun t kt => pre22 t (by
          show Steps p.tables e below (T21.setTop (mkF m 124 #[.val (.int p0), .val (.int p1), .val (.int p2), .val (.int p3), .val (.int (f1 p0)), .val (.int (f1 p1)), .val (.int (f1 p2)), .val (.int (f0_s0_29001 p3)), .val (.int (f0_s0_44002 p3)), .val (.ref b10), .val (.int (f0_e7 p0 p1 p2)), .val (.int (f6 (f0_e11 p0 p1 p2 p3) (f0_e12 p0 p1 p2 p3) (f0_e13 p0 p1 p2 p3))), .unset, .val (.int (32 : Int32)), .unset, .unset] [(.int (93 : Int32)), (.int (f1 p0))])) _
          refine XS.icmpNo X21.here hx rfl (hb hby at_124) rfl (teq hc23).2 ?_
          show Steps p.tables e below (T21.setTop (mkF m 127 #[.val (.int p0), .val (.int p1), .val (.int p2), .val (.int p3), .val (.int (f1 p0)), .val (.int (f1 p1)), .val (.int (f1 p2)), .val (.int (f0_s0_29001 p3)), .val (.int (f0_s0_44002 p3)), .val (.ref b10), .val (.int (f0_e7 p0 p1 p2)), .val (.int (f6 (f0_e11 p0 p1 p2 p3) (f0_e12 p0 p1 p2 p3) (f0_e13 p0 p1 p2 p3))), .unset, .val (.int (32 : Int32)), .unset, .unset] [])) _
          refine XS.iload X21.here hx rfl (hb hby at_127) rfl ?_
          show Steps p.tables e below (T21.setTop (mkF m 129 #[.val (.int p0), .val (.int p1), .val (.int p2), .val (.int p3), .val (.int (f1 p0)), .val (.int (f1 p1)), .val (.int (f1 p2)), .val (.int (f0_s0_29001 p3)), .val (.int (f0_s0_44002 p3)), .val (.ref b10), .val (.int (f0_e7 p0 p1 p2)), .val (.int (f6 (f0_e11 p0 p1 p2 p3) (f0_e12 p0 p1 p2 p3) (f0_e13 p0 p1 p2 p3))), .unset, .val (.int (32 : Int32)), .unset, .unset] [(.int (f1 p1))])) _
          refine XS.bipush X21.here hx rfl (hb hby at_129) ?_
          exact kt)
        by_cases hc25 : (f1 p1) = (91 : Int32)
        · have pre26 : ∀ t, Steps p.tables e below (T21.setTop (mkF m 138 #[.val (.int p0), .val (.int p1), .val (.int p2), .val (.int p3), .val (.int (f1 p0)), .val (.int (f1 p1)), .val (.int (f1 p2)), .val (.int (f0_s0_29001 p3)), .val (.int (f0_s0_44002 p3)), .val (.ref b10), .val (.int (f0_e7 p0 p1 p2)), .val (.int (f6 (f0_e11 p0 p1 p2 p3) (f0_e12 p0 p1 p2 p3) (f0_e13 p0 p1 p2 p3))), .unset, .val (.int (32 : Int32)), .unset, .unset] [(.int (93 : Int32)), (.int (f1 p2))])) t → Steps p.tables e below (s₁.setTop (entryFrame m #[(.int p0), (.int p1), (.int p2), (.int p3)] maxLocals)) t := fun t kt => pre24 t (by
            show Steps p.tables e below (T21.setTop (mkF m 131 #[.val (.int p0), .val (.int p1), .val (.int p2), .val (.int p3), .val (.int (f1 p0)), .val (.int (f1 p1)), .val (.int (f1 p2)), .val (.int (f0_s0_29001 p3)), .val (.int (f0_s0_44002 p3)), .val (.ref b10), .val (.int (f0_e7 p0 p1 p2)), .val (.int (f6 (f0_e11 p0 p1 p2 p3) (f0_e12 p0 p1 p2 p3) (f0_e13 p0 p1 p2 p3))), .unset, .val (.int (32 : Int32)), .unset, .unset] [(.int (91 : Int32)), (.int (f1 p1))])) _
            refine XS.icmpNo X21.here hx rfl (hb hby at_131) rfl (teq hc25).2 ?_
            show Steps p.tables e below (T21.setTop (mkF m 134 #[.val (.int p0), .val (.int p1), .val (.int p2), .val (.int p3), .val (.int (f1 p0)), .val (.int (f1 p1)), .val (.int (f1 p2)), .val (.int (f0_s0_29001 p3)), .val (.int (f0_s0_44002 p3)), .val (.ref b10), .val (.int (f0_e7 p0 p1 p2)), .val (.int (f6 (f0_e11 p0 p1 p2 p3) (f0_e12 p0 p1 p2 p3) (f0_e13 p0 p1 p2 p3))), .unset, .val (.int (32 : Int32)), .unset, .unset] [])) _
            refine XS.iload X21.here hx rfl (hb hby at_134) rfl ?_
            show Steps p.tables e below (T21.setTop (mkF m 136 #[.val (.int p0), .val (.int p1), .val (.int p2), .val (.int p3), .val (.int (f1 p0)), .val (.int (f1 p1)), .val (.int (f1 p2)), .val (.int (f0_s0_29001 p3)), .val (.int (f0_s0_44002 p3)), .val (.ref b10), .val (.int (f0_e7 p0 p1 p2)), .val (.int (f6 (f0_e11 p0 p1 p2 p3) (f0_e12 p0 p1 p2 p3) (f0_e13 p0 p1 p2 p3))), .unset, .val (.int (32 : Int32)), .unset, .unset] [(.int (f1 p2))])) _
            refine XS.bipush X21.here hx rfl (hb hby at_136) ?_
            exact kt)
          by_cases hc27 : (f1 p2) = (93 : Int32)
          · refine ⟨T21, _, X21, e21, N21, fun t kt => ?_⟩
            have hj : (f0_l12_395013 p0 p1 p2) = (0 : Int32) := by unfold f0_l12_395013; rw [if_pos hc23, if_pos hc25, if_pos hc27]
            rw [hj] at kt
            have hj : (f0_l13_395014 p0 p1 p2) = (32 : Int32) := by unfold f0_l13_395014; rw [if_pos hc23, if_pos hc25, if_pos hc27]
            rw [hj] at kt
            refine pre26 t ?_
            show Steps p.tables e below (T21.setTop (mkF m 138 #[.val (.int p0), .val (.int p1), .val (.int p2), .val (.int p3), .val (.int (f1 p0)), .val (.int (f1 p1)), .val (.int (f1 p2)), .val (.int (f0_s0_29001 p3)), .val (.int (f0_s0_44002 p3)), .val (.ref b10), .val (.int (f0_e7 p0 p1 p2)), .val (.int (f6 (f0_e11 p0 p1 p2 p3) (f0_e12 p0 p1 p2 p3) (f0_e13 p0 p1 p2 p3))), .unset, .val (.int (32 : Int32)), .unset, .unset] [(.int (93 : Int32)), (.int (f1 p2))])) _
            refine XS.icmpNo X21.here hx rfl (hb hby at_138) rfl (teq hc27).2 ?_
            show Steps p.tables e below (T21.setTop (mkF m 141 #[.val (.int p0), .val (.int p1), .val (.int p2), .val (.int p3), .val (.int (f1 p0)), .val (.int (f1 p1)), .val (.int (f1 p2)), .val (.int (f0_s0_29001 p3)), .val (.int (f0_s0_44002 p3)), .val (.ref b10), .val (.int (f0_e7 p0 p1 p2)), .val (.int (f6 (f0_e11 p0 p1 p2 p3) (f0_e12 p0 p1 p2 p3) (f0_e13 p0 p1 p2 p3))), .unset, .val (.int (32 : Int32)), .unset, .unset] [])) _
            refine XS.iconst X21.here hx rfl (hb hby at_141) ?_
            show Steps p.tables e below (T21.setTop (mkF m 142 #[.val (.int p0), .val (.int p1), .val (.int p2), .val (.int p3), .val (.int (f1 p0)), .val (.int (f1 p1)), .val (.int (f1 p2)), .val (.int (f0_s0_29001 p3)), .val (.int (f0_s0_44002 p3)), .val (.ref b10), .val (.int (f0_e7 p0 p1 p2)), .val (.int (f6 (f0_e11 p0 p1 p2 p3) (f0_e12 p0 p1 p2 p3) (f0_e13 p0 p1 p2 p3))), .unset, .val (.int (32 : Int32)), .unset, .unset] [(.int (0 : Int32))])) _
            refine XS.istore X21.here hx rfl (hb hby at_142) rfl (l' := #[.val (.int p0), .val (.int p1), .val (.int p2), .val (.int p3), .val (.int (f1 p0)), .val (.int (f1 p1)), .val (.int (f1 p2)), .val (.int (f0_s0_29001 p3)), .val (.int (f0_s0_44002 p3)), .val (.ref b10), .val (.int (f0_e7 p0 p1 p2)), .val (.int (f6 (f0_e11 p0 p1 p2 p3) (f0_e12 p0 p1 p2 p3) (f0_e13 p0 p1 p2 p3))), .val (.int (0 : Int32)), .val (.int (32 : Int32)), .unset, .unset]) rfl ?_
            show Steps p.tables e below (T21.setTop (mkF m 144 #[.val (.int p0), .val (.int p1), .val (.int p2), .val (.int p3), .val (.int (f1 p0)), .val (.int (f1 p1)), .val (.int (f1 p2)), .val (.int (f0_s0_29001 p3)), .val (.int (f0_s0_44002 p3)), .val (.ref b10), .val (.int (f0_e7 p0 p1 p2)), .val (.int (f6 (f0_e11 p0 p1 p2 p3) (f0_e12 p0 p1 p2 p3) (f0_e13 p0 p1 p2 p3))), .val (.int (0 : Int32)), .val (.int (32 : Int32)), .unset, .unset] [])) _
            refine XS.goto X21.here hx rfl (pc0 := 144) (pc' := 395) rfl (hb hby at_144) (by decide) (by decide) ?_
            exact kt
          · obtain ⟨_, _, ⟨T28, L28, k28, n28⟩, -, X28, ⟨Lc28, hQ28, l28, y28, z28⟩, st28⟩ := Jvm.LawKit.callS X21 hx (y := (⟨"com/example/libinterp/libinterp/SelectorScanReadPinLaw", "isQuote", "(C)Z"⟩ : MethodName)) hown (mvT hZ (hw _ (List.mem_of_getElem? (i := 31) rfl))) (mvT hZ (hw _ (List.mem_of_getElem? (i := 32) rfl))) (mvT hZ (hw _ (List.mem_of_getElem? (i := 2) rfl))) (mvT hZ (hw _ (List.mem_of_getElem? (i := 33) rfl))) (by decide) (backOf (W := 0) (rm7 l Z a0 hw [] (f1 p2) T20.heap n0 Zz20) hZ (hw _ (List.mem_of_getElem? (i := 33) rfl)) (hw _ (List.mem_of_getElem? (i := 2) rfl)) (by decide) (by decide)) (g := (mkF m 149 #[.val (.int p0), .val (.int p1), .val (.int p2), .val (.int p3), .val (.int (f1 p0)), .val (.int (f1 p1)), .val (.int (f1 p2)), .val (.int (f0_s0_29001 p3)), .val (.int (f0_s0_44002 p3)), .val (.ref b10), .val (.int (f0_e7 p0 p1 p2)), .val (.int (f6 (f0_e11 p0 p1 p2 p3) (f0_e12 p0 p1 p2 p3) (f0_e13 p0 p1 p2 p3))), .unset, .val (.int (32 : Int32)), .unset, .unset] [(.int (f1 p2))])) rfl (by rw [hml]; rfl) (argsL := [(.int (f1 p2))]) (rest := []) (lenOf pd_0 rfl) rfl (by show 2 * 0 + _ ≤ _; exact Nat.le_of_eq rfl) (hb hby at_149) (fun _ _ => ⟨rfl, e21, (by decide : 1 + 0 ≤ _), (by decide : 3 + 0 ≤ _)⟩)
            dsimp only [Pt.U, Pt.locs, Pt.cells, Pt.slots] at X28 l28 y28 z28 st28 hQ28
            subst l28 y28 z28
            obtain ⟨rfl, N28q, e28⟩ := hQ28
            have N28 := Fr.app N21 N28q
            have pre29 : ∀ t, Steps p.tables e below (T28.setTop (mkF m 152 #[.val (.int p0), .val (.int p1), .val (.int p2), .val (.int p3), .val (.int (f1 p0)), .val (.int (f1 p1)), .val (.int (f1 p2)), .val (.int (f0_s0_29001 p3)), .val (.int (f0_s0_44002 p3)), .val (.ref b10), .val (.int (f0_e7 p0 p1 p2)), .val (.int (f6 (f0_e11 p0 p1 p2 p3) (f0_e12 p0 p1 p2 p3) (f0_e13 p0 p1 p2 p3))), .unset, .val (.int (32 : Int32)), .unset, .unset] [(.int (f7 (f1 p2)))])) t → Steps p.tables e below (s₁.setTop (entryFrame m #[(.int p0), (.int p1), (.int p2), (.int p3)] maxLocals)) t := fun t kt => pre26 t (by
              show Steps p.tables e below (T21.setTop (mkF m 138 #[.val (.int p0), .val (.int p1), .val (.int p2), .val (.int p3), .val (.int (f1 p0)), .val (.int (f1 p1)), .val (.int (f1 p2)), .val (.int (f0_s0_29001 p3)), .val (.int (f0_s0_44002 p3)), .val (.ref b10), .val (.int (f0_e7 p0 p1 p2)), .val (.int (f6 (f0_e11 p0 p1 p2 p3) (f0_e12 p0 p1 p2 p3) (f0_e13 p0 p1 p2 p3))), .unset, .val (.int (32 : Int32)), .unset, .unset] [(.int (93 : Int32)), (.int (f1 p2))])) _
              refine XS.icmpYes X21.here hx rfl (pc0 := 138) (pc' := 147) rfl (hb hby at_138) rfl (feq hc27).2 (by decide) (by decide) ?_
              show Steps p.tables e below (T21.setTop (mkF m 147 #[.val (.int p0), .val (.int p1), .val (.int p2), .val (.int p3), .val (.int (f1 p0)), .val (.int (f1 p1)), .val (.int (f1 p2)), .val (.int (f0_s0_29001 p3)), .val (.int (f0_s0_44002 p3)), .val (.ref b10), .val (.int (f0_e7 p0 p1 p2)), .val (.int (f6 (f0_e11 p0 p1 p2 p3) (f0_e12 p0 p1 p2 p3) (f0_e13 p0 p1 p2 p3))), .unset, .val (.int (32 : Int32)), .unset, .unset] [])) _
              refine XS.iload X21.here hx rfl (hb hby at_147) rfl ?_
              show Steps p.tables e below (T21.setTop (mkF m 149 #[.val (.int p0), .val (.int p1), .val (.int p2), .val (.int p3), .val (.int (f1 p0)), .val (.int (f1 p1)), .val (.int (f1 p2)), .val (.int (f0_s0_29001 p3)), .val (.int (f0_s0_44002 p3)), .val (.ref b10), .val (.int (f0_e7 p0 p1 p2)), .val (.int (f6 (f0_e11 p0 p1 p2 p3) (f0_e12 p0 p1 p2 p3) (f0_e13 p0 p1 p2 p3))), .unset, .val (.int (32 : Int32)), .unset, .unset] [(.int (f1 p2))])) _
              refine st28 _ ?_
              exact kt)
            have pre31 : ∀ t, Steps p.tables e below (T28.setTop (mkF m 395 #[.val (.int p0), .val (.int p1), .val (.int p2), .val (.int p3), .val (.int (f1 p0)), .val (.int (f1 p1)), .val (.int (f1 p2)), .val (.int (f0_s0_29001 p3)), .val (.int (f0_s0_44002 p3)), .val (.ref b10), .val (.int (f0_e7 p0 p1 p2)), .val (.int (f6 (f0_e11 p0 p1 p2 p3) (f0_e12 p0 p1 p2 p3) (f0_e13 p0 p1 p2 p3))), .val (.int (f0_l12_395003 p2)), .val (.int (f0_l13_395004 p2)), .unset, .unset] [])) t → Steps p.tables e below (s₁.setTop (entryFrame m #[(.int p0), (.int p1), (.int p2), (.int p3)] maxLocals)) t := by
              intro t kt
              by_cases hc30 : (f7 (f1 p2)) = (0 : Int32)
              · have hj : (f0_l12_395003 p2) = (1 : Int32) := by unfold f0_l12_395003; rw [if_pos hc30]
                rw [hj] at kt
                have hj : (f0_l13_395004 p2) = (32 : Int32) := by unfold f0_l13_395004; rw [if_pos hc30]
                rw [hj] at kt
                refine pre29 t ?_
                show Steps p.tables e below (T28.setTop (mkF m 152 #[.val (.int p0), .val (.int p1), .val (.int p2), .val (.int p3), .val (.int (f1 p0)), .val (.int (f1 p1)), .val (.int (f1 p2)), .val (.int (f0_s0_29001 p3)), .val (.int (f0_s0_44002 p3)), .val (.ref b10), .val (.int (f0_e7 p0 p1 p2)), .val (.int (f6 (f0_e11 p0 p1 p2 p3) (f0_e12 p0 p1 p2 p3) (f0_e13 p0 p1 p2 p3))), .unset, .val (.int (32 : Int32)), .unset, .unset] [(.int (f7 (f1 p2)))])) _
                refine XS.ifYes X28.here hx rfl (pc0 := 152) (pc' := 165) rfl (hb hby at_152) rfl ((if0 _ _).trans (teq hc30).1) (by decide) (by decide) ?_
                show Steps p.tables e below (T28.setTop (mkF m 165 #[.val (.int p0), .val (.int p1), .val (.int p2), .val (.int p3), .val (.int (f1 p0)), .val (.int (f1 p1)), .val (.int (f1 p2)), .val (.int (f0_s0_29001 p3)), .val (.int (f0_s0_44002 p3)), .val (.ref b10), .val (.int (f0_e7 p0 p1 p2)), .val (.int (f6 (f0_e11 p0 p1 p2 p3) (f0_e12 p0 p1 p2 p3) (f0_e13 p0 p1 p2 p3))), .unset, .val (.int (32 : Int32)), .unset, .unset] [])) _
                refine XS.iconst X28.here hx rfl (hb hby at_165) ?_
                show Steps p.tables e below (T28.setTop (mkF m 166 #[.val (.int p0), .val (.int p1), .val (.int p2), .val (.int p3), .val (.int (f1 p0)), .val (.int (f1 p1)), .val (.int (f1 p2)), .val (.int (f0_s0_29001 p3)), .val (.int (f0_s0_44002 p3)), .val (.ref b10), .val (.int (f0_e7 p0 p1 p2)), .val (.int (f6 (f0_e11 p0 p1 p2 p3) (f0_e12 p0 p1 p2 p3) (f0_e13 p0 p1 p2 p3))), .unset, .val (.int (32 : Int32)), .unset, .unset] [(.int (1 : Int32))])) _
                refine XS.istore X28.here hx rfl (hb hby at_166) rfl (l' := #[.val (.int p0), .val (.int p1), .val (.int p2), .val (.int p3), .val (.int (f1 p0)), .val (.int (f1 p1)), .val (.int (f1 p2)), .val (.int (f0_s0_29001 p3)), .val (.int (f0_s0_44002 p3)), .val (.ref b10), .val (.int (f0_e7 p0 p1 p2)), .val (.int (f6 (f0_e11 p0 p1 p2 p3) (f0_e12 p0 p1 p2 p3) (f0_e13 p0 p1 p2 p3))), .val (.int (1 : Int32)), .val (.int (32 : Int32)), .unset, .unset]) rfl ?_
                show Steps p.tables e below (T28.setTop (mkF m 168 #[.val (.int p0), .val (.int p1), .val (.int p2), .val (.int p3), .val (.int (f1 p0)), .val (.int (f1 p1)), .val (.int (f1 p2)), .val (.int (f0_s0_29001 p3)), .val (.int (f0_s0_44002 p3)), .val (.ref b10), .val (.int (f0_e7 p0 p1 p2)), .val (.int (f6 (f0_e11 p0 p1 p2 p3) (f0_e12 p0 p1 p2 p3) (f0_e13 p0 p1 p2 p3))), .val (.int (1 : Int32)), .val (.int (32 : Int32)), .unset, .unset] [])) _
                refine XS.goto X28.here hx rfl (pc0 := 168) (pc' := 395) rfl (hb hby at_168) (by decide) (by decide) ?_
                exact kt
              · have hj : (f0_l12_395003 p2) = (2 : Int32) := by unfold f0_l12_395003; rw [if_neg hc30]
                rw [hj] at kt
                have hj : (f0_l13_395004 p2) = (f1 p2) := by unfold f0_l13_395004; rw [if_neg hc30]
                rw [hj] at kt
                refine pre29 t ?_
                show Steps p.tables e below (T28.setTop (mkF m 152 #[.val (.int p0), .val (.int p1), .val (.int p2), .val (.int p3), .val (.int (f1 p0)), .val (.int (f1 p1)), .val (.int (f1 p2)), .val (.int (f0_s0_29001 p3)), .val (.int (f0_s0_44002 p3)), .val (.ref b10), .val (.int (f0_e7 p0 p1 p2)), .val (.int (f6 (f0_e11 p0 p1 p2 p3) (f0_e12 p0 p1 p2 p3) (f0_e13 p0 p1 p2 p3))), .unset, .val (.int (32 : Int32)), .unset, .unset] [(.int (f7 (f1 p2)))])) _
                refine XS.ifNo X28.here hx rfl (hb hby at_152) rfl ((if0 _ _).trans (feq hc30).1) ?_
                show Steps p.tables e below (T28.setTop (mkF m 155 #[.val (.int p0), .val (.int p1), .val (.int p2), .val (.int p3), .val (.int (f1 p0)), .val (.int (f1 p1)), .val (.int (f1 p2)), .val (.int (f0_s0_29001 p3)), .val (.int (f0_s0_44002 p3)), .val (.ref b10), .val (.int (f0_e7 p0 p1 p2)), .val (.int (f6 (f0_e11 p0 p1 p2 p3) (f0_e12 p0 p1 p2 p3) (f0_e13 p0 p1 p2 p3))), .unset, .val (.int (32 : Int32)), .unset, .unset] [])) _
                refine XS.iconst X28.here hx rfl (hb hby at_155) ?_
                show Steps p.tables e below (T28.setTop (mkF m 156 #[.val (.int p0), .val (.int p1), .val (.int p2), .val (.int p3), .val (.int (f1 p0)), .val (.int (f1 p1)), .val (.int (f1 p2)), .val (.int (f0_s0_29001 p3)), .val (.int (f0_s0_44002 p3)), .val (.ref b10), .val (.int (f0_e7 p0 p1 p2)), .val (.int (f6 (f0_e11 p0 p1 p2 p3) (f0_e12 p0 p1 p2 p3) (f0_e13 p0 p1 p2 p3))), .unset, .val (.int (32 : Int32)), .unset, .unset] [(.int (2 : Int32))])) _
                refine XS.istore X28.here hx rfl (hb hby at_156) rfl (l' := #[.val (.int p0), .val (.int p1), .val (.int p2), .val (.int p3), .val (.int (f1 p0)), .val (.int (f1 p1)), .val (.int (f1 p2)), .val (.int (f0_s0_29001 p3)), .val (.int (f0_s0_44002 p3)), .val (.ref b10), .val (.int (f0_e7 p0 p1 p2)), .val (.int (f6 (f0_e11 p0 p1 p2 p3) (f0_e12 p0 p1 p2 p3) (f0_e13 p0 p1 p2 p3))), .val (.int (2 : Int32)), .val (.int (32 : Int32)), .unset, .unset]) rfl ?_
                show Steps p.tables e below (T28.setTop (mkF m 158 #[.val (.int p0), .val (.int p1), .val (.int p2), .val (.int p3), .val (.int (f1 p0)), .val (.int (f1 p1)), .val (.int (f1 p2)), .val (.int (f0_s0_29001 p3)), .val (.int (f0_s0_44002 p3)), .val (.ref b10), .val (.int (f0_e7 p0 p1 p2)), .val (.int (f6 (f0_e11 p0 p1 p2 p3) (f0_e12 p0 p1 p2 p3) (f0_e13 p0 p1 p2 p3))), .val (.int (2 : Int32)), .val (.int (32 : Int32)), .unset, .unset] [])) _
                refine XS.iload X28.here hx rfl (hb hby at_158) rfl ?_
                show Steps p.tables e below (T28.setTop (mkF m 160 #[.val (.int p0), .val (.int p1), .val (.int p2), .val (.int p3), .val (.int (f1 p0)), .val (.int (f1 p1)), .val (.int (f1 p2)), .val (.int (f0_s0_29001 p3)), .val (.int (f0_s0_44002 p3)), .val (.ref b10), .val (.int (f0_e7 p0 p1 p2)), .val (.int (f6 (f0_e11 p0 p1 p2 p3) (f0_e12 p0 p1 p2 p3) (f0_e13 p0 p1 p2 p3))), .val (.int (2 : Int32)), .val (.int (32 : Int32)), .unset, .unset] [(.int (f1 p2))])) _
                refine XS.istore X28.here hx rfl (hb hby at_160) rfl (l' := #[.val (.int p0), .val (.int p1), .val (.int p2), .val (.int p3), .val (.int (f1 p0)), .val (.int (f1 p1)), .val (.int (f1 p2)), .val (.int (f0_s0_29001 p3)), .val (.int (f0_s0_44002 p3)), .val (.ref b10), .val (.int (f0_e7 p0 p1 p2)), .val (.int (f6 (f0_e11 p0 p1 p2 p3) (f0_e12 p0 p1 p2 p3) (f0_e13 p0 p1 p2 p3))), .val (.int (2 : Int32)), .val (.int (f1 p2)), .unset, .unset]) rfl ?_
                show Steps p.tables e below (T28.setTop (mkF m 162 #[.val (.int p0), .val (.int p1), .val (.int p2), .val (.int p3), .val (.int (f1 p0)), .val (.int (f1 p1)), .val (.int (f1 p2)), .val (.int (f0_s0_29001 p3)), .val (.int (f0_s0_44002 p3)), .val (.ref b10), .val (.int (f0_e7 p0 p1 p2)), .val (.int (f6 (f0_e11 p0 p1 p2 p3) (f0_e12 p0 p1 p2 p3) (f0_e13 p0 p1 p2 p3))), .val (.int (2 : Int32)), .val (.int (f1 p2)), .unset, .unset] [])) _
                refine XS.goto X28.here hx rfl (pc0 := 162) (pc' := 395) rfl (hb hby at_162) (by decide) (by decide) ?_
                exact kt
            refine ⟨T28, _, X28, e28, N28, fun t kt => ?_⟩
            have hj : (f0_l12_395013 p0 p1 p2) = (f0_l12_395003 p2) := by unfold f0_l12_395013; rw [if_pos hc23, if_pos hc25, if_neg hc27]
            rw [hj] at kt
            have hj : (f0_l13_395014 p0 p1 p2) = (f0_l13_395004 p2) := by unfold f0_l13_395014; rw [if_pos hc23, if_pos hc25, if_neg hc27]
            rw [hj] at kt
            refine pre31 t ?_
            exact kt
        · have pre32 : ∀ t, Steps p.tables e below (T21.setTop (mkF m 175 #[.val (.int p0), .val (.int p1), .val (.int p2), .val (.int p3), .val (.int (f1 p0)), .val (.int (f1 p1)), .val (.int (f1 p2)), .val (.int (f0_s0_29001 p3)), .val (.int (f0_s0_44002 p3)), .val (.ref b10), .val (.int (f0_e7 p0 p1 p2)), .val (.int (f6 (f0_e11 p0 p1 p2 p3) (f0_e12 p0 p1 p2 p3) (f0_e13 p0 p1 p2 p3))), .unset, .val (.int (32 : Int32)), .unset, .unset] [(.int (91 : Int32)), (.int (f1 p2))])) t → Steps p.tables e below (s₁.setTop (entryFrame m #[(.int p0), (.int p1), (.int p2), (.int p3)] maxLocals)) t := fun t kt => pre24 t (by
            show Steps p.tables e below (T21.setTop (mkF m 131 #[.val (.int p0), .val (.int p1), .val (.int p2), .val (.int p3), .val (.int (f1 p0)), .val (.int (f1 p1)), .val (.int (f1 p2)), .val (.int (f0_s0_29001 p3)), .val (.int (f0_s0_44002 p3)), .val (.ref b10), .val (.int (f0_e7 p0 p1 p2)), .val (.int (f6 (f0_e11 p0 p1 p2 p3) (f0_e12 p0 p1 p2 p3) (f0_e13 p0 p1 p2 p3))), .unset, .val (.int (32 : Int32)), .unset, .unset] [(.int (91 : Int32)), (.int (f1 p1))])) _
            refine XS.icmpYes X21.here hx rfl (pc0 := 131) (pc' := 171) rfl (hb hby at_131) rfl (feq hc25).2 (by decide) (by decide) ?_
            show Steps p.tables e below (T21.setTop (mkF m 171 #[.val (.int p0), .val (.int p1), .val (.int p2), .val (.int p3), .val (.int (f1 p0)), .val (.int (f1 p1)), .val (.int (f1 p2)), .val (.int (f0_s0_29001 p3)), .val (.int (f0_s0_44002 p3)), .val (.ref b10), .val (.int (f0_e7 p0 p1 p2)), .val (.int (f6 (f0_e11 p0 p1 p2 p3) (f0_e12 p0 p1 p2 p3) (f0_e13 p0 p1 p2 p3))), .unset, .val (.int (32 : Int32)), .unset, .unset] [])) _
            refine XS.iload X21.here hx rfl (hb hby at_171) rfl ?_
            show Steps p.tables e below (T21.setTop (mkF m 173 #[.val (.int p0), .val (.int p1), .val (.int p2), .val (.int p3), .val (.int (f1 p0)), .val (.int (f1 p1)), .val (.int (f1 p2)), .val (.int (f0_s0_29001 p3)), .val (.int (f0_s0_44002 p3)), .val (.ref b10), .val (.int (f0_e7 p0 p1 p2)), .val (.int (f6 (f0_e11 p0 p1 p2 p3) (f0_e12 p0 p1 p2 p3) (f0_e13 p0 p1 p2 p3))), .unset, .val (.int (32 : Int32)), .unset, .unset] [(.int (f1 p2))])) _
            refine XS.bipush X21.here hx rfl (hb hby at_173) ?_
            exact kt)
          have pre34 : ∀ t, Steps p.tables e below (T21.setTop (mkF m 183 #[.val (.int p0), .val (.int p1), .val (.int p2), .val (.int p3), .val (.int (f1 p0)), .val (.int (f1 p1)), .val (.int (f1 p2)), .val (.int (f0_s0_29001 p3)), .val (.int (f0_s0_44002 p3)), .val (.ref b10), .val (.int (f0_e7 p0 p1 p2)), .val (.int (f6 (f0_e11 p0 p1 p2 p3) (f0_e12 p0 p1 p2 p3) (f0_e13 p0 p1 p2 p3))), .unset, .val (.int (32 : Int32)), .unset, .unset] [(.int (f0_s0_183005 p2))])) t → Steps p.tables e below (s₁.setTop (entryFrame m #[(.int p0), (.int p1), (.int p2), (.int p3)] maxLocals)) t := by
            intro t kt
            by_cases hc33 : (f1 p2) = (91 : Int32)
            · have hj : (f0_s0_183005 p2) = (1 : Int32) := by unfold f0_s0_183005; rw [if_pos hc33]
              rw [hj] at kt
              refine pre32 t ?_
              show Steps p.tables e below (T21.setTop (mkF m 175 #[.val (.int p0), .val (.int p1), .val (.int p2), .val (.int p3), .val (.int (f1 p0)), .val (.int (f1 p1)), .val (.int (f1 p2)), .val (.int (f0_s0_29001 p3)), .val (.int (f0_s0_44002 p3)), .val (.ref b10), .val (.int (f0_e7 p0 p1 p2)), .val (.int (f6 (f0_e11 p0 p1 p2 p3) (f0_e12 p0 p1 p2 p3) (f0_e13 p0 p1 p2 p3))), .unset, .val (.int (32 : Int32)), .unset, .unset] [(.int (91 : Int32)), (.int (f1 p2))])) _
              refine XS.icmpNo X21.here hx rfl (hb hby at_175) rfl (teq hc33).2 ?_
              show Steps p.tables e below (T21.setTop (mkF m 178 #[.val (.int p0), .val (.int p1), .val (.int p2), .val (.int p3), .val (.int (f1 p0)), .val (.int (f1 p1)), .val (.int (f1 p2)), .val (.int (f0_s0_29001 p3)), .val (.int (f0_s0_44002 p3)), .val (.ref b10), .val (.int (f0_e7 p0 p1 p2)), .val (.int (f6 (f0_e11 p0 p1 p2 p3) (f0_e12 p0 p1 p2 p3) (f0_e13 p0 p1 p2 p3))), .unset, .val (.int (32 : Int32)), .unset, .unset] [])) _
              refine XS.iconst X21.here hx rfl (hb hby at_178) ?_
              show Steps p.tables e below (T21.setTop (mkF m 179 #[.val (.int p0), .val (.int p1), .val (.int p2), .val (.int p3), .val (.int (f1 p0)), .val (.int (f1 p1)), .val (.int (f1 p2)), .val (.int (f0_s0_29001 p3)), .val (.int (f0_s0_44002 p3)), .val (.ref b10), .val (.int (f0_e7 p0 p1 p2)), .val (.int (f6 (f0_e11 p0 p1 p2 p3) (f0_e12 p0 p1 p2 p3) (f0_e13 p0 p1 p2 p3))), .unset, .val (.int (32 : Int32)), .unset, .unset] [(.int (1 : Int32))])) _
              refine XS.goto X21.here hx rfl (pc0 := 179) (pc' := 183) rfl (hb hby at_179) (by decide) (by decide) ?_
              exact kt
            · have hj : (f0_s0_183005 p2) = (0 : Int32) := by unfold f0_s0_183005; rw [if_neg hc33]
              rw [hj] at kt
              refine pre32 t ?_
              show Steps p.tables e below (T21.setTop (mkF m 175 #[.val (.int p0), .val (.int p1), .val (.int p2), .val (.int p3), .val (.int (f1 p0)), .val (.int (f1 p1)), .val (.int (f1 p2)), .val (.int (f0_s0_29001 p3)), .val (.int (f0_s0_44002 p3)), .val (.ref b10), .val (.int (f0_e7 p0 p1 p2)), .val (.int (f6 (f0_e11 p0 p1 p2 p3) (f0_e12 p0 p1 p2 p3) (f0_e13 p0 p1 p2 p3))), .unset, .val (.int (32 : Int32)), .unset, .unset] [(.int (91 : Int32)), (.int (f1 p2))])) _
              refine XS.icmpYes X21.here hx rfl (pc0 := 175) (pc' := 182) rfl (hb hby at_175) rfl (feq hc33).2 (by decide) (by decide) ?_
              show Steps p.tables e below (T21.setTop (mkF m 182 #[.val (.int p0), .val (.int p1), .val (.int p2), .val (.int p3), .val (.int (f1 p0)), .val (.int (f1 p1)), .val (.int (f1 p2)), .val (.int (f0_s0_29001 p3)), .val (.int (f0_s0_44002 p3)), .val (.ref b10), .val (.int (f0_e7 p0 p1 p2)), .val (.int (f6 (f0_e11 p0 p1 p2 p3) (f0_e12 p0 p1 p2 p3) (f0_e13 p0 p1 p2 p3))), .unset, .val (.int (32 : Int32)), .unset, .unset] [])) _
              refine XS.iconst X21.here hx rfl (hb hby at_182) ?_
              exact kt
          refine ⟨T21, _, X21, e21, N21, fun t kt => ?_⟩
          have hj : (f0_l12_395013 p0 p1 p2) = (f0_s0_183005 p2) := by unfold f0_l12_395013; rw [if_pos hc23, if_neg hc25]
          rw [hj] at kt
          have hj : (f0_l13_395014 p0 p1 p2) = (32 : Int32) := by unfold f0_l13_395014; rw [if_pos hc23, if_neg hc25]
          rw [hj] at kt
          refine pre34 t ?_
          show Steps p.tables e below (T21.setTop (mkF m 183 #[.val (.int p0), .val (.int p1), .val (.int p2), .val (.int p3), .val (.int (f1 p0)), .val (.int (f1 p1)), .val (.int (f1 p2)), .val (.int (f0_s0_29001 p3)), .val (.int (f0_s0_44002 p3)), .val (.ref b10), .val (.int (f0_e7 p0 p1 p2)), .val (.int (f6 (f0_e11 p0 p1 p2 p3) (f0_e12 p0 p1 p2 p3) (f0_e13 p0 p1 p2 p3))), .unset, .val (.int (32 : Int32)), .unset, .unset] [(.int (f0_s0_183005 p2))])) _
          refine XS.istore X21.here hx rfl (hb hby at_183) rfl (l' := #[.val (.int p0), .val (.int p1), .val (.int p2), .val (.int p3), .val (.int (f1 p0)), .val (.int (f1 p1)), .val (.int (f1 p2)), .val (.int (f0_s0_29001 p3)), .val (.int (f0_s0_44002 p3)), .val (.ref b10), .val (.int (f0_e7 p0 p1 p2)), .val (.int (f6 (f0_e11 p0 p1 p2 p3) (f0_e12 p0 p1 p2 p3) (f0_e13 p0 p1 p2 p3))), .val (.int (f0_s0_183005 p2)), .val (.int (32 : Int32)), .unset, .unset]) rfl ?_
          show Steps p.tables e below (T21.setTop (mkF m 185 #[.val (.int p0), .val (.int p1), .val (.int p2), .val (.int p3), .val (.int (f1 p0)), .val (.int (f1 p1)), .val (.int (f1 p2)), .val (.int (f0_s0_29001 p3)), .val (.int (f0_s0_44002 p3)), .val (.ref b10), .val (.int (f0_e7 p0 p1 p2)), .val (.int (f6 (f0_e11 p0 p1 p2 p3) (f0_e12 p0 p1 p2 p3) (f0_e13 p0 p1 p2 p3))), .val (.int (f0_s0_183005 p2)), .val (.int (32 : Int32)), .unset, .unset] [])) _
          refine XS.goto X21.here hx rfl (pc0 := 185) (pc' := 395) rfl (hb hby at_185) (by decide) (by decide) ?_
          exact kt
      · obtain ⟨_, _, ⟨T35, L35, k35, n35⟩, -, X35, ⟨Lc35, hQ35, l35, y35, z35⟩, st35⟩ := Jvm.LawKit.callS X21 hx (y := (⟨"com/example/libinterp/libinterp/SelectorScanReadPinLaw", "isQuote", "(C)Z"⟩ : MethodName)) hown (mvT hZ (hw _ (List.mem_of_getElem? (i := 31) rfl))) (mvT hZ (hw _ (List.mem_of_getElem? (i := 32) rfl))) (mvT hZ (hw _ (List.mem_of_getElem? (i := 2) rfl))) (mvT hZ (hw _ (List.mem_of_getElem? (i := 33) rfl))) (by decide) (backOf (W := 0) (rm7 l Z a0 hw [] (f1 p0) T20.heap n0 Zz20) hZ (hw _ (List.mem_of_getElem? (i := 33) rfl)) (hw _ (List.mem_of_getElem? (i := 2) rfl)) (by decide) (by decide)) (g := (mkF m 190 #[.val (.int p0), .val (.int p1), .val (.int p2), .val (.int p3), .val (.int (f1 p0)), .val (.int (f1 p1)), .val (.int (f1 p2)), .val (.int (f0_s0_29001 p3)), .val (.int (f0_s0_44002 p3)), .val (.ref b10), .val (.int (f0_e7 p0 p1 p2)), .val (.int (f6 (f0_e11 p0 p1 p2 p3) (f0_e12 p0 p1 p2 p3) (f0_e13 p0 p1 p2 p3))), .unset, .val (.int (32 : Int32)), .unset, .unset] [(.int (f1 p0))])) rfl (by rw [hml]; rfl) (argsL := [(.int (f1 p0))]) (rest := []) (lenOf pd_0 rfl) rfl (by show 2 * 0 + _ ≤ _; exact Nat.le_of_eq rfl) (hb hby at_190) (fun _ _ => ⟨rfl, e21, (by decide : 1 + 0 ≤ _), (by decide : 3 + 0 ≤ _)⟩)
        dsimp only [Pt.U, Pt.locs, Pt.cells, Pt.slots] at X35 l35 y35 z35 st35 hQ35
        subst l35 y35 z35
        obtain ⟨rfl, N35q, e35⟩ := hQ35
        have N35 := Fr.app N21 N35q
        have pre36 : ∀ t, Steps p.tables e below (T35.setTop (mkF m 193 #[.val (.int p0), .val (.int p1), .val (.int p2), .val (.int p3), .val (.int (f1 p0)), .val (.int (f1 p1)), .val (.int (f1 p2)), .val (.int (f0_s0_29001 p3)), .val (.int (f0_s0_44002 p3)), .val (.ref b10), .val (.int (f0_e7 p0 p1 p2)), .val (.int (f6 (f0_e11 p0 p1 p2 p3) (f0_e12 p0 p1 p2 p3) (f0_e13 p0 p1 p2 p3))), .unset, .val (.int (32 : Int32)), .unset, .unset] [(.int (f7 (f1 p0)))])) t → Steps p.tables e below (s₁.setTop (entryFrame m #[(.int p0), (.int p1), (.int p2), (.int p3)] maxLocals)) t := fun t kt => pre22 t (by
          show Steps p.tables e below (T21.setTop (mkF m 124 #[.val (.int p0), .val (.int p1), .val (.int p2), .val (.int p3), .val (.int (f1 p0)), .val (.int (f1 p1)), .val (.int (f1 p2)), .val (.int (f0_s0_29001 p3)), .val (.int (f0_s0_44002 p3)), .val (.ref b10), .val (.int (f0_e7 p0 p1 p2)), .val (.int (f6 (f0_e11 p0 p1 p2 p3) (f0_e12 p0 p1 p2 p3) (f0_e13 p0 p1 p2 p3))), .unset, .val (.int (32 : Int32)), .unset, .unset] [(.int (93 : Int32)), (.int (f1 p0))])) _
          refine XS.icmpYes X21.here hx rfl (pc0 := 124) (pc' := 188) rfl (hb hby at_124) rfl (feq hc23).2 (by decide) (by decide) ?_
          show Steps p.tables e below (T21.setTop (mkF m 188 #[.val (.int p0), .val (.int p1), .val (.int p2), .val (.int p3), .val (.int (f1 p0)), .val (.int (f1 p1)), .val (.int (f1 p2)), .val (.int (f0_s0_29001 p3)), .val (.int (f0_s0_44002 p3)), .val (.ref b10), .val (.int (f0_e7 p0 p1 p2)), .val (.int (f6 (f0_e11 p0 p1 p2 p3) (f0_e12 p0 p1 p2 p3) (f0_e13 p0 p1 p2 p3))), .unset, .val (.int (32 : Int32)), .unset, .unset] [])) _
          refine XS.iload X21.here hx rfl (hb hby at_188) rfl ?_
          show Steps p.tables e below (T21.setTop (mkF m 190 #[.val (.int p0), .val (.int p1), .val (.int p2), .val (.int p3), .val (.int (f1 p0)), .val (.int (f1 p1)), .val (.int (f1 p2)), .val (.int (f0_s0_29001 p3)), .val (.int (f0_s0_44002 p3)), .val (.ref b10), .val (.int (f0_e7 p0 p1 p2)), .val (.int (f6 (f0_e11 p0 p1 p2 p3) (f0_e12 p0 p1 p2 p3) (f0_e13 p0 p1 p2 p3))), .unset, .val (.int (32 : Int32)), .unset, .unset] [(.int (f1 p0))])) _
          refine st35 _ ?_
          exact kt)
        by_cases hc37 : (f7 (f1 p0)) = (0 : Int32)
        · have pre38 : ∀ t, Steps p.tables e below (T35.setTop (mkF m 297 #[.val (.int p0), .val (.int p1), .val (.int p2), .val (.int p3), .val (.int (f1 p0)), .val (.int (f1 p1)), .val (.int (f1 p2)), .val (.int (f0_s0_29001 p3)), .val (.int (f0_s0_44002 p3)), .val (.ref b10), .val (.int (f0_e7 p0 p1 p2)), .val (.int (f6 (f0_e11 p0 p1 p2 p3) (f0_e12 p0 p1 p2 p3) (f0_e13 p0 p1 p2 p3))), .unset, .val (.int (32 : Int32)), .unset, .unset] [(.int (93 : Int32)), (.int (f1 p1))])) t → Steps p.tables e below (s₁.setTop (entryFrame m #[(.int p0), (.int p1), (.int p2), (.int p3)] maxLocals)) t := fun t kt => pre36 t (by
            show Steps p.tables e below (T35.setTop (mkF m 193 #[.val (.int p0), .val (.int p1), .val (.int p2), .val (.int p3), .val (.int (f1 p0)), .val (.int (f1 p1)), .val (.int (f1 p2)), .val (.int (f0_s0_29001 p3)), .val (.int (f0_s0_44002 p3)), .val (.ref b10), .val (.int (f0_e7 p0 p1 p2)), .val (.int (f6 (f0_e11 p0 p1 p2 p3) (f0_e12 p0 p1 p2 p3) (f0_e13 p0 p1 p2 p3))), .unset, .val (.int (32 : Int32)), .unset, .unset] [(.int (f7 (f1 p0)))])) _
            refine XS.ifYes X35.here hx rfl (pc0 := 193) (pc' := 293) rfl (hb hby at_193) rfl ((if0 _ _).trans (teq hc37).1) (by decide) (by decide) ?_
            show Steps p.tables e below (T35.setTop (mkF m 293 #[.val (.int p0), .val (.int p1), .val (.int p2), .val (.int p3), .val (.int (f1 p0)), .val (.int (f1 p1)), .val (.int (f1 p2)), .val (.int (f0_s0_29001 p3)), .val (.int (f0_s0_44002 p3)), .val (.ref b10), .val (.int (f0_e7 p0 p1 p2)), .val (.int (f6 (f0_e11 p0 p1 p2 p3) (f0_e12 p0 p1 p2 p3) (f0_e13 p0 p1 p2 p3))), .unset, .val (.int (32 : Int32)), .unset, .unset] [])) _
            refine XS.iload X35.here hx rfl (hb hby at_293) rfl ?_
            show Steps p.tables e below (T35.setTop (mkF m 295 #[.val (.int p0), .val (.int p1), .val (.int p2), .val (.int p3), .val (.int (f1 p0)), .val (.int (f1 p1)), .val (.int (f1 p2)), .val (.int (f0_s0_29001 p3)), .val (.int (f0_s0_44002 p3)), .val (.ref b10), .val (.int (f0_e7 p0 p1 p2)), .val (.int (f6 (f0_e11 p0 p1 p2 p3) (f0_e12 p0 p1 p2 p3) (f0_e13 p0 p1 p2 p3))), .unset, .val (.int (32 : Int32)), .unset, .unset] [(.int (f1 p1))])) _
            refine XS.bipush X35.here hx rfl (hb hby at_295) ?_
            exact kt)
          by_cases hc39 : (f1 p1) = (93 : Int32)
          · have pre40 : ∀ t, Steps p.tables e below (T35.setTop (mkF m 304 #[.val (.int p0), .val (.int p1), .val (.int p2), .val (.int p3), .val (.int (f1 p0)), .val (.int (f1 p1)), .val (.int (f1 p2)), .val (.int (f0_s0_29001 p3)), .val (.int (f0_s0_44002 p3)), .val (.ref b10), .val (.int (f0_e7 p0 p1 p2)), .val (.int (f6 (f0_e11 p0 p1 p2 p3) (f0_e12 p0 p1 p2 p3) (f0_e13 p0 p1 p2 p3))), .unset, .val (.int (32 : Int32)), .unset, .unset] [(.int (91 : Int32)), (.int (f1 p2))])) t → Steps p.tables e below (s₁.setTop (entryFrame m #[(.int p0), (.int p1), (.int p2), (.int p3)] maxLocals)) t := fun t kt => pre38 t (by
              show Steps p.tables e below (T35.setTop (mkF m 297 #[.val (.int p0), .val (.int p1), .val (.int p2), .val (.int p3), .val (.int (f1 p0)), .val (.int (f1 p1)), .val (.int (f1 p2)), .val (.int (f0_s0_29001 p3)), .val (.int (f0_s0_44002 p3)), .val (.ref b10), .val (.int (f0_e7 p0 p1 p2)), .val (.int (f6 (f0_e11 p0 p1 p2 p3) (f0_e12 p0 p1 p2 p3) (f0_e13 p0 p1 p2 p3))), .unset, .val (.int (32 : Int32)), .unset, .unset] [(.int (93 : Int32)), (.int (f1 p1))])) _
              refine XS.icmpNo X35.here hx rfl (hb hby at_297) rfl (teq hc39).2 ?_
              show Steps p.tables e below (T35.setTop (mkF m 300 #[.val (.int p0), .val (.int p1), .val (.int p2), .val (.int p3), .val (.int (f1 p0)), .val (.int (f1 p1)), .val (.int (f1 p2)), .val (.int (f0_s0_29001 p3)), .val (.int (f0_s0_44002 p3)), .val (.ref b10), .val (.int (f0_e7 p0 p1 p2)), .val (.int (f6 (f0_e11 p0 p1 p2 p3) (f0_e12 p0 p1 p2 p3) (f0_e13 p0 p1 p2 p3))), .unset, .val (.int (32 : Int32)), .unset, .unset] [])) _
              refine XS.iload X35.here hx rfl (hb hby at_300) rfl ?_
              show Steps p.tables e below (T35.setTop (mkF m 302 #[.val (.int p0), .val (.int p1), .val (.int p2), .val (.int p3), .val (.int (f1 p0)), .val (.int (f1 p1)), .val (.int (f1 p2)), .val (.int (f0_s0_29001 p3)), .val (.int (f0_s0_44002 p3)), .val (.ref b10), .val (.int (f0_e7 p0 p1 p2)), .val (.int (f6 (f0_e11 p0 p1 p2 p3) (f0_e12 p0 p1 p2 p3) (f0_e13 p0 p1 p2 p3))), .unset, .val (.int (32 : Int32)), .unset, .unset] [(.int (f1 p2))])) _
              refine XS.bipush X35.here hx rfl (hb hby at_302) ?_
              exact kt)
            have pre42 : ∀ t, Steps p.tables e below (T35.setTop (mkF m 312 #[.val (.int p0), .val (.int p1), .val (.int p2), .val (.int p3), .val (.int (f1 p0)), .val (.int (f1 p1)), .val (.int (f1 p2)), .val (.int (f0_s0_29001 p3)), .val (.int (f0_s0_44002 p3)), .val (.ref b10), .val (.int (f0_e7 p0 p1 p2)), .val (.int (f6 (f0_e11 p0 p1 p2 p3) (f0_e12 p0 p1 p2 p3) (f0_e13 p0 p1 p2 p3))), .unset, .val (.int (32 : Int32)), .unset, .unset] [(.int (f0_s0_312006 p2))])) t → Steps p.tables e below (s₁.setTop (entryFrame m #[(.int p0), (.int p1), (.int p2), (.int p3)] maxLocals)) t := by
              intro t kt
              by_cases hc41 : (f1 p2) = (91 : Int32)
              · have hj : (f0_s0_312006 p2) = (1 : Int32) := by unfold f0_s0_312006; rw [if_pos hc41]
                rw [hj] at kt
                refine pre40 t ?_
                show Steps p.tables e below (T35.setTop (mkF m 304 #[.val (.int p0), .val (.int p1), .val (.int p2), .val (.int p3), .val (.int (f1 p0)), .val (.int (f1 p1)), .val (.int (f1 p2)), .val (.int (f0_s0_29001 p3)), .val (.int (f0_s0_44002 p3)), .val (.ref b10), .val (.int (f0_e7 p0 p1 p2)), .val (.int (f6 (f0_e11 p0 p1 p2 p3) (f0_e12 p0 p1 p2 p3) (f0_e13 p0 p1 p2 p3))), .unset, .val (.int (32 : Int32)), .unset, .unset] [(.int (91 : Int32)), (.int (f1 p2))])) _
                refine XS.icmpNo X35.here hx rfl (hb hby at_304) rfl (teq hc41).2 ?_
                show Steps p.tables e below (T35.setTop (mkF m 307 #[.val (.int p0), .val (.int p1), .val (.int p2), .val (.int p3), .val (.int (f1 p0)), .val (.int (f1 p1)), .val (.int (f1 p2)), .val (.int (f0_s0_29001 p3)), .val (.int (f0_s0_44002 p3)), .val (.ref b10), .val (.int (f0_e7 p0 p1 p2)), .val (.int (f6 (f0_e11 p0 p1 p2 p3) (f0_e12 p0 p1 p2 p3) (f0_e13 p0 p1 p2 p3))), .unset, .val (.int (32 : Int32)), .unset, .unset] [])) _
                refine XS.iconst X35.here hx rfl (hb hby at_307) ?_
                show Steps p.tables e below (T35.setTop (mkF m 308 #[.val (.int p0), .val (.int p1), .val (.int p2), .val (.int p3), .val (.int (f1 p0)), .val (.int (f1 p1)), .val (.int (f1 p2)), .val (.int (f0_s0_29001 p3)), .val (.int (f0_s0_44002 p3)), .val (.ref b10), .val (.int (f0_e7 p0 p1 p2)), .val (.int (f6 (f0_e11 p0 p1 p2 p3) (f0_e12 p0 p1 p2 p3) (f0_e13 p0 p1 p2 p3))), .unset, .val (.int (32 : Int32)), .unset, .unset] [(.int (1 : Int32))])) _
                refine XS.goto X35.here hx rfl (pc0 := 308) (pc' := 312) rfl (hb hby at_308) (by decide) (by decide) ?_
                exact kt
              · have hj : (f0_s0_312006 p2) = (0 : Int32) := by unfold f0_s0_312006; rw [if_neg hc41]
                rw [hj] at kt
                refine pre40 t ?_
                show Steps p.tables e below (T35.setTop (mkF m 304 #[.val (.int p0), .val (.int p1), .val (.int p2), .val (.int p3), .val (.int (f1 p0)), .val (.int (f1 p1)), .val (.int (f1 p2)), .val (.int (f0_s0_29001 p3)), .val (.int (f0_s0_44002 p3)), .val (.ref b10), .val (.int (f0_e7 p0 p1 p2)), .val (.int (f6 (f0_e11 p0 p1 p2 p3) (f0_e12 p0 p1 p2 p3) (f0_e13 p0 p1 p2 p3))), .unset, .val (.int (32 : Int32)), .unset, .unset] [(.int (91 : Int32)), (.int (f1 p2))])) _
                refine XS.icmpYes X35.here hx rfl (pc0 := 304) (pc' := 311) rfl (hb hby at_304) rfl (feq hc41).2 (by decide) (by decide) ?_
                show Steps p.tables e below (T35.setTop (mkF m 311 #[.val (.int p0), .val (.int p1), .val (.int p2), .val (.int p3), .val (.int (f1 p0)), .val (.int (f1 p1)), .val (.int (f1 p2)), .val (.int (f0_s0_29001 p3)), .val (.int (f0_s0_44002 p3)), .val (.ref b10), .val (.int (f0_e7 p0 p1 p2)), .val (.int (f6 (f0_e11 p0 p1 p2 p3) (f0_e12 p0 p1 p2 p3) (f0_e13 p0 p1 p2 p3))), .unset, .val (.int (32 : Int32)), .unset, .unset] [])) _
                refine XS.iconst X35.here hx rfl (hb hby at_311) ?_
                exact kt
            refine ⟨T35, _, X35, e35, N35, fun t kt => ?_⟩
            have hj : (f0_l12_395013 p0 p1 p2) = (f0_s0_312006 p2) := by unfold f0_l12_395013; rw [if_neg hc23, if_pos hc37, if_pos hc39]
            rw [hj] at kt
            have hj : (f0_l13_395014 p0 p1 p2) = (32 : Int32) := by unfold f0_l13_395014; rw [if_neg hc23, if_pos hc37, if_pos hc39]
            rw [hj] at kt
            refine pre42 t ?_
            show Steps p.tables e below (T35.setTop (mkF m 312 #[.val (.int p0), .val (.int p1), .val (.int p2), .val (.int p3), .val (.int (f1 p0)), .val (.int (f1 p1)), .val (.int (f1 p2)), .val (.int (f0_s0_29001 p3)), .val (.int (f0_s0_44002 p3)), .val (.ref b10), .val (.int (f0_e7 p0 p1 p2)), .val (.int (f6 (f0_e11 p0 p1 p2 p3) (f0_e12 p0 p1 p2 p3) (f0_e13 p0 p1 p2 p3))), .unset, .val (.int (32 : Int32)), .unset, .unset] [(.int (f0_s0_312006 p2))])) _
            refine XS.istore X35.here hx rfl (hb hby at_312) rfl (l' := #[.val (.int p0), .val (.int p1), .val (.int p2), .val (.int p3), .val (.int (f1 p0)), .val (.int (f1 p1)), .val (.int (f1 p2)), .val (.int (f0_s0_29001 p3)), .val (.int (f0_s0_44002 p3)), .val (.ref b10), .val (.int (f0_e7 p0 p1 p2)), .val (.int (f6 (f0_e11 p0 p1 p2 p3) (f0_e12 p0 p1 p2 p3) (f0_e13 p0 p1 p2 p3))), .val (.int (f0_s0_312006 p2)), .val (.int (32 : Int32)), .unset, .unset]) rfl ?_
            show Steps p.tables e below (T35.setTop (mkF m 314 #[.val (.int p0), .val (.int p1), .val (.int p2), .val (.int p3), .val (.int (f1 p0)), .val (.int (f1 p1)), .val (.int (f1 p2)), .val (.int (f0_s0_29001 p3)), .val (.int (f0_s0_44002 p3)), .val (.ref b10), .val (.int (f0_e7 p0 p1 p2)), .val (.int (f6 (f0_e11 p0 p1 p2 p3) (f0_e12 p0 p1 p2 p3) (f0_e13 p0 p1 p2 p3))), .val (.int (f0_s0_312006 p2)), .val (.int (32 : Int32)), .unset, .unset] [])) _
            refine XS.goto X35.here hx rfl (pc0 := 314) (pc' := 395) rfl (hb hby at_314) (by decide) (by decide) ?_
            exact kt
          · obtain ⟨_, _, ⟨T43, L43, k43, n43⟩, -, X43, ⟨Lc43, hQ43, l43, y43, z43⟩, st43⟩ := Jvm.LawKit.callS X35 hx (y := (⟨"com/example/libinterp/libinterp/SelectorScanReadPinLaw", "isQuote", "(C)Z"⟩ : MethodName)) hown (mvT hZ (hw _ (List.mem_of_getElem? (i := 31) rfl))) (mvT hZ (hw _ (List.mem_of_getElem? (i := 32) rfl))) (mvT hZ (hw _ (List.mem_of_getElem? (i := 2) rfl))) (mvT hZ (hw _ (List.mem_of_getElem? (i := 33) rfl))) (by decide) (backOf (W := 0) (rm7 l Z a0 hw [] (f1 p1) T20.heap n0 Zz20) hZ (hw _ (List.mem_of_getElem? (i := 33) rfl)) (hw _ (List.mem_of_getElem? (i := 2) rfl)) (by decide) (by decide)) (g := (mkF m 319 #[.val (.int p0), .val (.int p1), .val (.int p2), .val (.int p3), .val (.int (f1 p0)), .val (.int (f1 p1)), .val (.int (f1 p2)), .val (.int (f0_s0_29001 p3)), .val (.int (f0_s0_44002 p3)), .val (.ref b10), .val (.int (f0_e7 p0 p1 p2)), .val (.int (f6 (f0_e11 p0 p1 p2 p3) (f0_e12 p0 p1 p2 p3) (f0_e13 p0 p1 p2 p3))), .unset, .val (.int (32 : Int32)), .unset, .unset] [(.int (f1 p1))])) rfl (by rw [hml]; rfl) (argsL := [(.int (f1 p1))]) (rest := []) (lenOf pd_0 rfl) rfl (by show 2 * 0 + _ ≤ _; exact Nat.le_of_eq rfl) (hb hby at_319) (fun _ _ => ⟨rfl, e35, (by decide : 1 + 0 ≤ _), (by decide : 3 + 0 ≤ _)⟩)
            dsimp only [Pt.U, Pt.locs, Pt.cells, Pt.slots] at X43 l43 y43 z43 st43 hQ43
            subst l43 y43 z43
            obtain ⟨rfl, N43q, e43⟩ := hQ43
            have N43 := Fr.app N35 N43q
            have pre44 : ∀ t, Steps p.tables e below (T43.setTop (mkF m 322 #[.val (.int p0), .val (.int p1), .val (.int p2), .val (.int p3), .val (.int (f1 p0)), .val (.int (f1 p1)), .val (.int (f1 p2)), .val (.int (f0_s0_29001 p3)), .val (.int (f0_s0_44002 p3)), .val (.ref b10), .val (.int (f0_e7 p0 p1 p2)), .val (.int (f6 (f0_e11 p0 p1 p2 p3) (f0_e12 p0 p1 p2 p3) (f0_e13 p0 p1 p2 p3))), .unset, .val (.int (32 : Int32)), .unset, .unset] [(.int (f7 (f1 p1)))])) t → Steps p.tables e below (s₁.setTop (entryFrame m #[(.int p0), (.int p1), (.int p2), (.int p3)] maxLocals)) t := fun t kt => pre38 t (by
              show Steps p.tables e below (T35.setTop (mkF m 297 #[.val (.int p0), .val (.int p1), .val (.int p2), .val (.int p3), .val (.int (f1 p0)), .val (.int (f1 p1)), .val (.int (f1 p2)), .val (.int (f0_s0_29001 p3)), .val (.int (f0_s0_44002 p3)), .val (.ref b10), .val (.int (f0_e7 p0 p1 p2)), .val (.int (f6 (f0_e11 p0 p1 p2 p3) (f0_e12 p0 p1 p2 p3) (f0_e13 p0 p1 p2 p3))), .unset, .val (.int (32 : Int32)), .unset, .unset] [(.int (93 : Int32)), (.int (f1 p1))])) _
              refine XS.icmpYes X35.here hx rfl (pc0 := 297) (pc' := 317) rfl (hb hby at_297) rfl (feq hc39).2 (by decide) (by decide) ?_
              show Steps p.tables e below (T35.setTop (mkF m 317 #[.val (.int p0), .val (.int p1), .val (.int p2), .val (.int p3), .val (.int (f1 p0)), .val (.int (f1 p1)), .val (.int (f1 p2)), .val (.int (f0_s0_29001 p3)), .val (.int (f0_s0_44002 p3)), .val (.ref b10), .val (.int (f0_e7 p0 p1 p2)), .val (.int (f6 (f0_e11 p0 p1 p2 p3) (f0_e12 p0 p1 p2 p3) (f0_e13 p0 p1 p2 p3))), .unset, .val (.int (32 : Int32)), .unset, .unset] [])) _
              refine XS.iload X35.here hx rfl (hb hby at_317) rfl ?_
              show Steps p.tables e below (T35.setTop (mkF m 319 #[.val (.int p0), .val (.int p1), .val (.int p2), .val (.int p3), .val (.int (f1 p0)), .val (.int (f1 p1)), .val (.int (f1 p2)), .val (.int (f0_s0_29001 p3)), .val (.int (f0_s0_44002 p3)), .val (.ref b10), .val (.int (f0_e7 p0 p1 p2)), .val (.int (f6 (f0_e11 p0 p1 p2 p3) (f0_e12 p0 p1 p2 p3) (f0_e13 p0 p1 p2 p3))), .unset, .val (.int (32 : Int32)), .unset, .unset] [(.int (f1 p1))])) _
              refine st43 _ ?_
              exact kt)
            by_cases hc45 : (f7 (f1 p1)) = (0 : Int32)
            · have pre46 : ∀ t, Steps p.tables e below (T43.setTop (mkF m 365 #[.val (.int p0), .val (.int p1), .val (.int p2), .val (.int p3), .val (.int (f1 p0)), .val (.int (f1 p1)), .val (.int (f1 p2)), .val (.int (f0_s0_29001 p3)), .val (.int (f0_s0_44002 p3)), .val (.ref b10), .val (.int (f0_e7 p0 p1 p2)), .val (.int (f6 (f0_e11 p0 p1 p2 p3) (f0_e12 p0 p1 p2 p3) (f0_e13 p0 p1 p2 p3))), .unset, .val (.int (32 : Int32)), .unset, .unset] [(.int (93 : Int32)), (.int (f1 p2))])) t → Steps p.tables e below (s₁.setTop (entryFrame m #[(.int p0), (.int p1), (.int p2), (.int p3)] maxLocals)) t := fun t kt => pre44 t (by
                show Steps p.tables e below (T43.setTop (mkF m 322 #[.val (.int p0), .val (.int p1), .val (.int p2), .val (.int p3), .val (.int (f1 p0)), .val (.int (f1 p1)), .val (.int (f1 p2)), .val (.int (f0_s0_29001 p3)), .val (.int (f0_s0_44002 p3)), .val (.ref b10), .val (.int (f0_e7 p0 p1 p2)), .val (.int (f6 (f0_e11 p0 p1 p2 p3) (f0_e12 p0 p1 p2 p3) (f0_e13 p0 p1 p2 p3))), .unset, .val (.int (32 : Int32)), .unset, .unset] [(.int (f7 (f1 p1)))])) _
                refine XS.ifYes X43.here hx rfl (pc0 := 322) (pc' := 361) rfl (hb hby at_322) rfl ((if0 _ _).trans (teq hc45).1) (by decide) (by decide) ?_
                show Steps p.tables e below (T43.setTop (mkF m 361 #[.val (.int p0), .val (.int p1), .val (.int p2), .val (.int p3), .val (.int (f1 p0)), .val (.int (f1 p1)), .val (.int (f1 p2)), .val (.int (f0_s0_29001 p3)), .val (.int (f0_s0_44002 p3)), .val (.ref b10), .val (.int (f0_e7 p0 p1 p2)), .val (.int (f6 (f0_e11 p0 p1 p2 p3) (f0_e12 p0 p1 p2 p3) (f0_e13 p0 p1 p2 p3))), .unset, .val (.int (32 : Int32)), .unset, .unset] [])) _
                refine XS.iload X43.here hx rfl (hb hby at_361) rfl ?_
                show Steps p.tables e below (T43.setTop (mkF m 363 #[.val (.int p0), .val (.int p1), .val (.int p2), .val (.int p3), .val (.int (f1 p0)), .val (.int (f1 p1)), .val (.int (f1 p2)), .val (.int (f0_s0_29001 p3)), .val (.int (f0_s0_44002 p3)), .val (.ref b10), .val (.int (f0_e7 p0 p1 p2)), .val (.int (f6 (f0_e11 p0 p1 p2 p3) (f0_e12 p0 p1 p2 p3) (f0_e13 p0 p1 p2 p3))), .unset, .val (.int (32 : Int32)), .unset, .unset] [(.int (f1 p2))])) _
                refine XS.bipush X43.here hx rfl (hb hby at_363) ?_
                exact kt)
              by_cases hc47 : (f1 p2) = (93 : Int32)
              · refine ⟨T43, _, X43, e43, N43, fun t kt => ?_⟩
                have hj : (f0_l12_395013 p0 p1 p2) = (0 : Int32) := by unfold f0_l12_395013; rw [if_neg hc23, if_pos hc37, if_neg hc39, if_pos hc45, if_pos hc47]
                rw [hj] at kt
                have hj : (f0_l13_395014 p0 p1 p2) = (32 : Int32) := by unfold f0_l13_395014; rw [if_neg hc23, if_pos hc37, if_neg hc39, if_pos hc45, if_pos hc47]
                rw [hj] at kt
                refine pre46 t ?_
                show Steps p.tables e below (T43.setTop (mkF m 365 #[.val (.int p0), .val (.int p1), .val (.int p2), .val (.int p3), .val (.int (f1 p0)), .val (.int (f1 p1)), .val (.int (f1 p2)), .val (.int (f0_s0_29001 p3)), .val (.int (f0_s0_44002 p3)), .val (.ref b10), .val (.int (f0_e7 p0 p1 p2)), .val (.int (f6 (f0_e11 p0 p1 p2 p3) (f0_e12 p0 p1 p2 p3) (f0_e13 p0 p1 p2 p3))), .unset, .val (.int (32 : Int32)), .unset, .unset] [(.int (93 : Int32)), (.int (f1 p2))])) _
                refine XS.icmpNo X43.here hx rfl (hb hby at_365) rfl (teq hc47).2 ?_
                show Steps p.tables e below (T43.setTop (mkF m 368 #[.val (.int p0), .val (.int p1), .val (.int p2), .val (.int p3), .val (.int (f1 p0)), .val (.int (f1 p1)), .val (.int (f1 p2)), .val (.int (f0_s0_29001 p3)), .val (.int (f0_s0_44002 p3)), .val (.ref b10), .val (.int (f0_e7 p0 p1 p2)), .val (.int (f6 (f0_e11 p0 p1 p2 p3) (f0_e12 p0 p1 p2 p3) (f0_e13 p0 p1 p2 p3))), .unset, .val (.int (32 : Int32)), .unset, .unset] [])) _
                refine XS.iconst X43.here hx rfl (hb hby at_368) ?_
                show Steps p.tables e below (T43.setTop (mkF m 369 #[.val (.int p0), .val (.int p1), .val (.int p2), .val (.int p3), .val (.int (f1 p0)), .val (.int (f1 p1)), .val (.int (f1 p2)), .val (.int (f0_s0_29001 p3)), .val (.int (f0_s0_44002 p3)), .val (.ref b10), .val (.int (f0_e7 p0 p1 p2)), .val (.int (f6 (f0_e11 p0 p1 p2 p3) (f0_e12 p0 p1 p2 p3) (f0_e13 p0 p1 p2 p3))), .unset, .val (.int (32 : Int32)), .unset, .unset] [(.int (0 : Int32))])) _
                refine XS.istore X43.here hx rfl (hb hby at_369) rfl (l' := #[.val (.int p0), .val (.int p1), .val (.int p2), .val (.int p3), .val (.int (f1 p0)), .val (.int (f1 p1)), .val (.int (f1 p2)), .val (.int (f0_s0_29001 p3)), .val (.int (f0_s0_44002 p3)), .val (.ref b10), .val (.int (f0_e7 p0 p1 p2)), .val (.int (f6 (f0_e11 p0 p1 p2 p3) (f0_e12 p0 p1 p2 p3) (f0_e13 p0 p1 p2 p3))), .val (.int (0 : Int32)), .val (.int (32 : Int32)), .unset, .unset]) rfl ?_
                show Steps p.tables e below (T43.setTop (mkF m 371 #[.val (.int p0), .val (.int p1), .val (.int p2), .val (.int p3), .val (.int (f1 p0)), .val (.int (f1 p1)), .val (.int (f1 p2)), .val (.int (f0_s0_29001 p3)), .val (.int (f0_s0_44002 p3)), .val (.ref b10), .val (.int (f0_e7 p0 p1 p2)), .val (.int (f6 (f0_e11 p0 p1 p2 p3) (f0_e12 p0 p1 p2 p3) (f0_e13 p0 p1 p2 p3))), .val (.int (0 : Int32)), .val (.int (32 : Int32)), .unset, .unset] [])) _
                refine XS.goto X43.here hx rfl (pc0 := 371) (pc' := 395) rfl (hb hby at_371) (by decide) (by decide) ?_
                exact kt
              · obtain ⟨_, _, ⟨T48, L48, k48, n48⟩, -, X48, ⟨Lc48, hQ48, l48, y48, z48⟩, st48⟩ := Jvm.LawKit.callS X43 hx (y := (⟨"com/example/libinterp/libinterp/SelectorScanReadPinLaw", "isQuote", "(C)Z"⟩ : MethodName)) hown (mvT hZ (hw _ (List.mem_of_getElem? (i := 31) rfl))) (mvT hZ (hw _ (List.mem_of_getElem? (i := 32) rfl))) (mvT hZ (hw _ (List.mem_of_getElem? (i := 2) rfl))) (mvT hZ (hw _ (List.mem_of_getElem? (i := 33) rfl))) (by decide) (backOf (W := 0) (rm7 l Z a0 hw [] (f1 p2) T20.heap n0 Zz20) hZ (hw _ (List.mem_of_getElem? (i := 33) rfl)) (hw _ (List.mem_of_getElem? (i := 2) rfl)) (by decide) (by decide)) (g := (mkF m 376 #[.val (.int p0), .val (.int p1), .val (.int p2), .val (.int p3), .val (.int (f1 p0)), .val (.int (f1 p1)), .val (.int (f1 p2)), .val (.int (f0_s0_29001 p3)), .val (.int (f0_s0_44002 p3)), .val (.ref b10), .val (.int (f0_e7 p0 p1 p2)), .val (.int (f6 (f0_e11 p0 p1 p2 p3) (f0_e12 p0 p1 p2 p3) (f0_e13 p0 p1 p2 p3))), .unset, .val (.int (32 : Int32)), .unset, .unset] [(.int (f1 p2))])) rfl (by rw [hml]; rfl) (argsL := [(.int (f1 p2))]) (rest := []) (lenOf pd_0 rfl) rfl (by show 2 * 0 + _ ≤ _; exact Nat.le_of_eq rfl) (hb hby at_376) (fun _ _ => ⟨rfl, e43, (by decide : 1 + 0 ≤ _), (by decide : 3 + 0 ≤ _)⟩)
                dsimp only [Pt.U, Pt.locs, Pt.cells, Pt.slots] at X48 l48 y48 z48 st48 hQ48
                subst l48 y48 z48
                obtain ⟨rfl, N48q, e48⟩ := hQ48
                have N48 := Fr.app N43 N48q
                have pre49 : ∀ t, Steps p.tables e below (T48.setTop (mkF m 379 #[.val (.int p0), .val (.int p1), .val (.int p2), .val (.int p3), .val (.int (f1 p0)), .val (.int (f1 p1)), .val (.int (f1 p2)), .val (.int (f0_s0_29001 p3)), .val (.int (f0_s0_44002 p3)), .val (.ref b10), .val (.int (f0_e7 p0 p1 p2)), .val (.int (f6 (f0_e11 p0 p1 p2 p3) (f0_e12 p0 p1 p2 p3) (f0_e13 p0 p1 p2 p3))), .unset, .val (.int (32 : Int32)), .unset, .unset] [(.int (f7 (f1 p2)))])) t → Steps p.tables e below (s₁.setTop (entryFrame m #[(.int p0), (.int p1), (.int p2), (.int p3)] maxLocals)) t := fun t kt => pre46 t (by
                  show Steps p.tables e below (T43.setTop (mkF m 365 #[.val (.int p0), .val (.int p1), .val (.int p2), .val (.int p3), .val (.int (f1 p0)), .val (.int (f1 p1)), .val (.int (f1 p2)), .val (.int (f0_s0_29001 p3)), .val (.int (f0_s0_44002 p3)), .val (.ref b10), .val (.int (f0_e7 p0 p1 p2)), .val (.int (f6 (f0_e11 p0 p1 p2 p3) (f0_e12 p0 p1 p2 p3) (f0_e13 p0 p1 p2 p3))), .unset, .val (.int (32 : Int32)), .unset, .unset] [(.int (93 : Int32)), (.int (f1 p2))])) _
                  refine XS.icmpYes X43.here hx rfl (pc0 := 365) (pc' := 374) rfl (hb hby at_365) rfl (feq hc47).2 (by decide) (by decide) ?_
                  show Steps p.tables e below (T43.setTop (mkF m 374 #[.val (.int p0), .val (.int p1), .val (.int p2), .val (.int p3), .val (.int (f1 p0)), .val (.int (f1 p1)), .val (.int (f1 p2)), .val (.int (f0_s0_29001 p3)), .val (.int (f0_s0_44002 p3)), .val (.ref b10), .val (.int (f0_e7 p0 p1 p2)), .val (.int (f6 (f0_e11 p0 p1 p2 p3) (f0_e12 p0 p1 p2 p3) (f0_e13 p0 p1 p2 p3))), .unset, .val (.int (32 : Int32)), .unset, .unset] [])) _
                  refine XS.iload X43.here hx rfl (hb hby at_374) rfl ?_
                  show Steps p.tables e below (T43.setTop (mkF m 376 #[.val (.int p0), .val (.int p1), .val (.int p2), .val (.int p3), .val (.int (f1 p0)), .val (.int (f1 p1)), .val (.int (f1 p2)), .val (.int (f0_s0_29001 p3)), .val (.int (f0_s0_44002 p3)), .val (.ref b10), .val (.int (f0_e7 p0 p1 p2)), .val (.int (f6 (f0_e11 p0 p1 p2 p3) (f0_e12 p0 p1 p2 p3) (f0_e13 p0 p1 p2 p3))), .unset, .val (.int (32 : Int32)), .unset, .unset] [(.int (f1 p2))])) _
                  refine st48 _ ?_
                  exact kt)
                have pre51 : ∀ t, Steps p.tables e below (T48.setTop (mkF m 395 #[.val (.int p0), .val (.int p1), .val (.int p2), .val (.int p3), .val (.int (f1 p0)), .val (.int (f1 p1)), .val (.int (f1 p2)), .val (.int (f0_s0_29001 p3)), .val (.int (f0_s0_44002 p3)), .val (.ref b10), .val (.int (f0_e7 p0 p1 p2)), .val (.int (f6 (f0_e11 p0 p1 p2 p3) (f0_e12 p0 p1 p2 p3) (f0_e13 p0 p1 p2 p3))), .val (.int (f0_l12_395007 p2)), .val (.int (f0_l13_395008 p2)), .unset, .unset] [])) t → Steps p.tables e below (s₁.setTop (entryFrame m #[(.int p0), (.int p1), (.int p2), (.int p3)] maxLocals)) t := by
                  intro t kt
                  by_cases hc50 : (f7 (f1 p2)) = (0 : Int32)
                  · have hj : (f0_l12_395007 p2) = (1 : Int32) := by unfold f0_l12_395007; rw [if_pos hc50]
                    rw [hj] at kt
                    have hj : (f0_l13_395008 p2) = (32 : Int32) := by unfold f0_l13_395008; rw [if_pos hc50]
                    rw [hj] at kt
                    refine pre49 t ?_
                    show Steps p.tables e below (T48.setTop (mkF m 379 #[.val (.int p0), .val (.int p1), .val (.int p2), .val (.int p3), .val (.int (f1 p0)), .val (.int (f1 p1)), .val (.int (f1 p2)), .val (.int (f0_s0_29001 p3)), .val (.int (f0_s0_44002 p3)), .val (.ref b10), .val (.int (f0_e7 p0 p1 p2)), .val (.int (f6 (f0_e11 p0 p1 p2 p3) (f0_e12 p0 p1 p2 p3) (f0_e13 p0 p1 p2 p3))), .unset, .val (.int (32 : Int32)), .unset, .unset] [(.int (f7 (f1 p2)))])) _
                    refine XS.ifYes X48.here hx rfl (pc0 := 379) (pc' := 392) rfl (hb hby at_379) rfl ((if0 _ _).trans (teq hc50).1) (by decide) (by decide) ?_
                    show Steps p.tables e below (T48.setTop (mkF m 392 #[.val (.int p0), .val (.int p1), .val (.int p2), .val (.int p3), .val (.int (f1 p0)), .val (.int (f1 p1)), .val (.int (f1 p2)), .val (.int (f0_s0_29001 p3)), .val (.int (f0_s0_44002 p3)), .val (.ref b10), .val (.int (f0_e7 p0 p1 p2)), .val (.int (f6 (f0_e11 p0 p1 p2 p3) (f0_e12 p0 p1 p2 p3) (f0_e13 p0 p1 p2 p3))), .unset, .val (.int (32 : Int32)), .unset, .unset] [])) _
                    refine XS.iconst X48.here hx rfl (hb hby at_392) ?_
                    show Steps p.tables e below (T48.setTop (mkF m 393 #[.val (.int p0), .val (.int p1), .val (.int p2), .val (.int p3), .val (.int (f1 p0)), .val (.int (f1 p1)), .val (.int (f1 p2)), .val (.int (f0_s0_29001 p3)), .val (.int (f0_s0_44002 p3)), .val (.ref b10), .val (.int (f0_e7 p0 p1 p2)), .val (.int (f6 (f0_e11 p0 p1 p2 p3) (f0_e12 p0 p1 p2 p3) (f0_e13 p0 p1 p2 p3))), .unset, .val (.int (32 : Int32)), .unset, .unset] [(.int (1 : Int32))])) _
                    refine XS.istore X48.here hx rfl (hb hby at_393) rfl (l' := #[.val (.int p0), .val (.int p1), .val (.int p2), .val (.int p3), .val (.int (f1 p0)), .val (.int (f1 p1)), .val (.int (f1 p2)), .val (.int (f0_s0_29001 p3)), .val (.int (f0_s0_44002 p3)), .val (.ref b10), .val (.int (f0_e7 p0 p1 p2)), .val (.int (f6 (f0_e11 p0 p1 p2 p3) (f0_e12 p0 p1 p2 p3) (f0_e13 p0 p1 p2 p3))), .val (.int (1 : Int32)), .val (.int (32 : Int32)), .unset, .unset]) rfl ?_
                    exact kt
                  · have hj : (f0_l12_395007 p2) = (2 : Int32) := by unfold f0_l12_395007; rw [if_neg hc50]
                    rw [hj] at kt
                    have hj : (f0_l13_395008 p2) = (f1 p2) := by unfold f0_l13_395008; rw [if_neg hc50]
                    rw [hj] at kt
                    refine pre49 t ?_
                    show Steps p.tables e below (T48.setTop (mkF m 379 #[.val (.int p0), .val (.int p1), .val (.int p2), .val (.int p3), .val (.int (f1 p0)), .val (.int (f1 p1)), .val (.int (f1 p2)), .val (.int (f0_s0_29001 p3)), .val (.int (f0_s0_44002 p3)), .val (.ref b10), .val (.int (f0_e7 p0 p1 p2)), .val (.int (f6 (f0_e11 p0 p1 p2 p3) (f0_e12 p0 p1 p2 p3) (f0_e13 p0 p1 p2 p3))), .unset, .val (.int (32 : Int32)), .unset, .unset] [(.int (f7 (f1 p2)))])) _
                    refine XS.ifNo X48.here hx rfl (hb hby at_379) rfl ((if0 _ _).trans (feq hc50).1) ?_
                    show Steps p.tables e below (T48.setTop (mkF m 382 #[.val (.int p0), .val (.int p1), .val (.int p2), .val (.int p3), .val (.int (f1 p0)), .val (.int (f1 p1)), .val (.int (f1 p2)), .val (.int (f0_s0_29001 p3)), .val (.int (f0_s0_44002 p3)), .val (.ref b10), .val (.int (f0_e7 p0 p1 p2)), .val (.int (f6 (f0_e11 p0 p1 p2 p3) (f0_e12 p0 p1 p2 p3) (f0_e13 p0 p1 p2 p3))), .unset, .val (.int (32 : Int32)), .unset, .unset] [])) _
                    refine XS.iconst X48.here hx rfl (hb hby at_382) ?_
                    show Steps p.tables e below (T48.setTop (mkF m 383 #[.val (.int p0), .val (.int p1), .val (.int p2), .val (.int p3), .val (.int (f1 p0)), .val (.int (f1 p1)), .val (.int (f1 p2)), .val (.int (f0_s0_29001 p3)), .val (.int (f0_s0_44002 p3)), .val (.ref b10), .val (.int (f0_e7 p0 p1 p2)), .val (.int (f6 (f0_e11 p0 p1 p2 p3) (f0_e12 p0 p1 p2 p3) (f0_e13 p0 p1 p2 p3))), .unset, .val (.int (32 : Int32)), .unset, .unset] [(.int (2 : Int32))])) _
                    refine XS.istore X48.here hx rfl (hb hby at_383) rfl (l' := #[.val (.int p0), .val (.int p1), .val (.int p2), .val (.int p3), .val (.int (f1 p0)), .val (.int (f1 p1)), .val (.int (f1 p2)), .val (.int (f0_s0_29001 p3)), .val (.int (f0_s0_44002 p3)), .val (.ref b10), .val (.int (f0_e7 p0 p1 p2)), .val (.int (f6 (f0_e11 p0 p1 p2 p3) (f0_e12 p0 p1 p2 p3) (f0_e13 p0 p1 p2 p3))), .val (.int (2 : Int32)), .val (.int (32 : Int32)), .unset, .unset]) rfl ?_
                    show Steps p.tables e below (T48.setTop (mkF m 385 #[.val (.int p0), .val (.int p1), .val (.int p2), .val (.int p3), .val (.int (f1 p0)), .val (.int (f1 p1)), .val (.int (f1 p2)), .val (.int (f0_s0_29001 p3)), .val (.int (f0_s0_44002 p3)), .val (.ref b10), .val (.int (f0_e7 p0 p1 p2)), .val (.int (f6 (f0_e11 p0 p1 p2 p3) (f0_e12 p0 p1 p2 p3) (f0_e13 p0 p1 p2 p3))), .val (.int (2 : Int32)), .val (.int (32 : Int32)), .unset, .unset] [])) _
                    refine XS.iload X48.here hx rfl (hb hby at_385) rfl ?_
                    show Steps p.tables e below (T48.setTop (mkF m 387 #[.val (.int p0), .val (.int p1), .val (.int p2), .val (.int p3), .val (.int (f1 p0)), .val (.int (f1 p1)), .val (.int (f1 p2)), .val (.int (f0_s0_29001 p3)), .val (.int (f0_s0_44002 p3)), .val (.ref b10), .val (.int (f0_e7 p0 p1 p2)), .val (.int (f6 (f0_e11 p0 p1 p2 p3) (f0_e12 p0 p1 p2 p3) (f0_e13 p0 p1 p2 p3))), .val (.int (2 : Int32)), .val (.int (32 : Int32)), .unset, .unset] [(.int (f1 p2))])) _
                    refine XS.istore X48.here hx rfl (hb hby at_387) rfl (l' := #[.val (.int p0), .val (.int p1), .val (.int p2), .val (.int p3), .val (.int (f1 p0)), .val (.int (f1 p1)), .val (.int (f1 p2)), .val (.int (f0_s0_29001 p3)), .val (.int (f0_s0_44002 p3)), .val (.ref b10), .val (.int (f0_e7 p0 p1 p2)), .val (.int (f6 (f0_e11 p0 p1 p2 p3) (f0_e12 p0 p1 p2 p3) (f0_e13 p0 p1 p2 p3))), .val (.int (2 : Int32)), .val (.int (f1 p2)), .unset, .unset]) rfl ?_
                    show Steps p.tables e below (T48.setTop (mkF m 389 #[.val (.int p0), .val (.int p1), .val (.int p2), .val (.int p3), .val (.int (f1 p0)), .val (.int (f1 p1)), .val (.int (f1 p2)), .val (.int (f0_s0_29001 p3)), .val (.int (f0_s0_44002 p3)), .val (.ref b10), .val (.int (f0_e7 p0 p1 p2)), .val (.int (f6 (f0_e11 p0 p1 p2 p3) (f0_e12 p0 p1 p2 p3) (f0_e13 p0 p1 p2 p3))), .val (.int (2 : Int32)), .val (.int (f1 p2)), .unset, .unset] [])) _
                    refine XS.goto X48.here hx rfl (pc0 := 389) (pc' := 395) rfl (hb hby at_389) (by decide) (by decide) ?_
                    exact kt
                refine ⟨T48, _, X48, e48, N48, fun t kt => ?_⟩
                have hj : (f0_l12_395013 p0 p1 p2) = (f0_l12_395007 p2) := by unfold f0_l12_395013; rw [if_neg hc23, if_pos hc37, if_neg hc39, if_pos hc45, if_neg hc47]
                rw [hj] at kt
                have hj : (f0_l13_395014 p0 p1 p2) = (f0_l13_395008 p2) := by unfold f0_l13_395014; rw [if_neg hc23, if_pos hc37, if_neg hc39, if_pos hc45, if_neg hc47]
                rw [hj] at kt
                refine pre51 t ?_
                exact kt
            · have pre52 : ∀ t, Steps p.tables e below (T43.setTop (mkF m 333 #[.val (.int p0), .val (.int p1), .val (.int p2), .val (.int p3), .val (.int (f1 p0)), .val (.int (f1 p1)), .val (.int (f1 p2)), .val (.int (f0_s0_29001 p3)), .val (.int (f0_s0_44002 p3)), .val (.ref b10), .val (.int (f0_e7 p0 p1 p2)), .val (.int (f6 (f0_e11 p0 p1 p2 p3) (f0_e12 p0 p1 p2 p3) (f0_e13 p0 p1 p2 p3))), .unset, .val (.int (f1 p1)), .unset, .unset] [(.int (92 : Int32)), (.int (f1 p2))])) t → Steps p.tables e below (s₁.setTop (entryFrame m #[(.int p0), (.int p1), (.int p2), (.int p3)] maxLocals)) t := fun t kt => pre44 t (by
                show Steps p.tables e below (T43.setTop (mkF m 322 #[.val (.int p0), .val (.int p1), .val (.int p2), .val (.int p3), .val (.int (f1 p0)), .val (.int (f1 p1)), .val (.int (f1 p2)), .val (.int (f0_s0_29001 p3)), .val (.int (f0_s0_44002 p3)), .val (.ref b10), .val (.int (f0_e7 p0 p1 p2)), .val (.int (f6 (f0_e11 p0 p1 p2 p3) (f0_e12 p0 p1 p2 p3) (f0_e13 p0 p1 p2 p3))), .unset, .val (.int (32 : Int32)), .unset, .unset] [(.int (f7 (f1 p1)))])) _
                refine XS.ifNo X43.here hx rfl (hb hby at_322) rfl ((if0 _ _).trans (feq hc45).1) ?_
                show Steps p.tables e below (T43.setTop (mkF m 325 #[.val (.int p0), .val (.int p1), .val (.int p2), .val (.int p3), .val (.int (f1 p0)), .val (.int (f1 p1)), .val (.int (f1 p2)), .val (.int (f0_s0_29001 p3)), .val (.int (f0_s0_44002 p3)), .val (.ref b10), .val (.int (f0_e7 p0 p1 p2)), .val (.int (f6 (f0_e11 p0 p1 p2 p3) (f0_e12 p0 p1 p2 p3) (f0_e13 p0 p1 p2 p3))), .unset, .val (.int (32 : Int32)), .unset, .unset] [])) _
                refine XS.iload X43.here hx rfl (hb hby at_325) rfl ?_
                show Steps p.tables e below (T43.setTop (mkF m 327 #[.val (.int p0), .val (.int p1), .val (.int p2), .val (.int p3), .val (.int (f1 p0)), .val (.int (f1 p1)), .val (.int (f1 p2)), .val (.int (f0_s0_29001 p3)), .val (.int (f0_s0_44002 p3)), .val (.ref b10), .val (.int (f0_e7 p0 p1 p2)), .val (.int (f6 (f0_e11 p0 p1 p2 p3) (f0_e12 p0 p1 p2 p3) (f0_e13 p0 p1 p2 p3))), .unset, .val (.int (32 : Int32)), .unset, .unset] [(.int (f1 p1))])) _
                refine XS.istore X43.here hx rfl (hb hby at_327) rfl (l' := #[.val (.int p0), .val (.int p1), .val (.int p2), .val (.int p3), .val (.int (f1 p0)), .val (.int (f1 p1)), .val (.int (f1 p2)), .val (.int (f0_s0_29001 p3)), .val (.int (f0_s0_44002 p3)), .val (.ref b10), .val (.int (f0_e7 p0 p1 p2)), .val (.int (f6 (f0_e11 p0 p1 p2 p3) (f0_e12 p0 p1 p2 p3) (f0_e13 p0 p1 p2 p3))), .unset, .val (.int (f1 p1)), .unset, .unset]) rfl ?_
                show Steps p.tables e below (T43.setTop (mkF m 329 #[.val (.int p0), .val (.int p1), .val (.int p2), .val (.int p3), .val (.int (f1 p0)), .val (.int (f1 p1)), .val (.int (f1 p2)), .val (.int (f0_s0_29001 p3)), .val (.int (f0_s0_44002 p3)), .val (.ref b10), .val (.int (f0_e7 p0 p1 p2)), .val (.int (f6 (f0_e11 p0 p1 p2 p3) (f0_e12 p0 p1 p2 p3) (f0_e13 p0 p1 p2 p3))), .unset, .val (.int (f1 p1)), .unset, .unset] [])) _
                refine XS.iload X43.here hx rfl (hb hby at_329) rfl ?_
                show Steps p.tables e below (T43.setTop (mkF m 331 #[.val (.int p0), .val (.int p1), .val (.int p2), .val (.int p3), .val (.int (f1 p0)), .val (.int (f1 p1)), .val (.int (f1 p2)), .val (.int (f0_s0_29001 p3)), .val (.int (f0_s0_44002 p3)), .val (.ref b10), .val (.int (f0_e7 p0 p1 p2)), .val (.int (f6 (f0_e11 p0 p1 p2 p3) (f0_e12 p0 p1 p2 p3) (f0_e13 p0 p1 p2 p3))), .unset, .val (.int (f1 p1)), .unset, .unset] [(.int (f1 p2))])) _
                refine XS.bipush X43.here hx rfl (hb hby at_331) ?_
                exact kt)
              have pre55 : ∀ t, Steps p.tables e below (T43.setTop (mkF m 395 #[.val (.int p0), .val (.int p1), .val (.int p2), .val (.int p3), .val (.int (f1 p0)), .val (.int (f1 p1)), .val (.int (f1 p2)), .val (.int (f0_s0_29001 p3)), .val (.int (f0_s0_44002 p3)), .val (.ref b10), .val (.int (f0_e7 p0 p1 p2)), .val (.int (f6 (f0_e11 p0 p1 p2 p3) (f0_e12 p0 p1 p2 p3) (f0_e13 p0 p1 p2 p3))), .val (.int (f0_l12_395009 p1 p2)), .val (.int (f1 p1)), .unset, .unset] [])) t → Steps p.tables e below (s₁.setTop (entryFrame m #[(.int p0), (.int p1), (.int p2), (.int p3)] maxLocals)) t := by
                intro t kt
                by_cases hc53 : (f1 p2) = (92 : Int32)
                · have hj : (f0_l12_395009 p1 p2) = (3 : Int32) := by unfold f0_l12_395009; rw [if_pos hc53]
                  rw [hj] at kt
                  refine pre52 t ?_
                  show Steps p.tables e below (T43.setTop (mkF m 333 #[.val (.int p0), .val (.int p1), .val (.int p2), .val (.int p3), .val (.int (f1 p0)), .val (.int (f1 p1)), .val (.int (f1 p2)), .val (.int (f0_s0_29001 p3)), .val (.int (f0_s0_44002 p3)), .val (.ref b10), .val (.int (f0_e7 p0 p1 p2)), .val (.int (f6 (f0_e11 p0 p1 p2 p3) (f0_e12 p0 p1 p2 p3) (f0_e13 p0 p1 p2 p3))), .unset, .val (.int (f1 p1)), .unset, .unset] [(.int (92 : Int32)), (.int (f1 p2))])) _
                  refine XS.icmpNo X43.here hx rfl (hb hby at_333) rfl (teq hc53).2 ?_
                  show Steps p.tables e below (T43.setTop (mkF m 336 #[.val (.int p0), .val (.int p1), .val (.int p2), .val (.int p3), .val (.int (f1 p0)), .val (.int (f1 p1)), .val (.int (f1 p2)), .val (.int (f0_s0_29001 p3)), .val (.int (f0_s0_44002 p3)), .val (.ref b10), .val (.int (f0_e7 p0 p1 p2)), .val (.int (f6 (f0_e11 p0 p1 p2 p3) (f0_e12 p0 p1 p2 p3) (f0_e13 p0 p1 p2 p3))), .unset, .val (.int (f1 p1)), .unset, .unset] [])) _
                  refine XS.iconst X43.here hx rfl (hb hby at_336) ?_
                  show Steps p.tables e below (T43.setTop (mkF m 337 #[.val (.int p0), .val (.int p1), .val (.int p2), .val (.int p3), .val (.int (f1 p0)), .val (.int (f1 p1)), .val (.int (f1 p2)), .val (.int (f0_s0_29001 p3)), .val (.int (f0_s0_44002 p3)), .val (.ref b10), .val (.int (f0_e7 p0 p1 p2)), .val (.int (f6 (f0_e11 p0 p1 p2 p3) (f0_e12 p0 p1 p2 p3) (f0_e13 p0 p1 p2 p3))), .unset, .val (.int (f1 p1)), .unset, .unset] [(.int (3 : Int32))])) _
                  refine XS.istore X43.here hx rfl (hb hby at_337) rfl (l' := #[.val (.int p0), .val (.int p1), .val (.int p2), .val (.int p3), .val (.int (f1 p0)), .val (.int (f1 p1)), .val (.int (f1 p2)), .val (.int (f0_s0_29001 p3)), .val (.int (f0_s0_44002 p3)), .val (.ref b10), .val (.int (f0_e7 p0 p1 p2)), .val (.int (f6 (f0_e11 p0 p1 p2 p3) (f0_e12 p0 p1 p2 p3) (f0_e13 p0 p1 p2 p3))), .val (.int (3 : Int32)), .val (.int (f1 p1)), .unset, .unset]) rfl ?_
                  show Steps p.tables e below (T43.setTop (mkF m 339 #[.val (.int p0), .val (.int p1), .val (.int p2), .val (.int p3), .val (.int (f1 p0)), .val (.int (f1 p1)), .val (.int (f1 p2)), .val (.int (f0_s0_29001 p3)), .val (.int (f0_s0_44002 p3)), .val (.ref b10), .val (.int (f0_e7 p0 p1 p2)), .val (.int (f6 (f0_e11 p0 p1 p2 p3) (f0_e12 p0 p1 p2 p3) (f0_e13 p0 p1 p2 p3))), .val (.int (3 : Int32)), .val (.int (f1 p1)), .unset, .unset] [])) _
                  refine XS.goto X43.here hx rfl (pc0 := 339) (pc' := 395) rfl (hb hby at_339) (by decide) (by decide) ?_
                  exact kt
                · by_cases hc54 : (f1 p2) = (f1 p1)
                  · have hj : (f0_l12_395009 p1 p2) = (1 : Int32) := by unfold f0_l12_395009; rw [if_neg hc53, if_pos hc54]
                    rw [hj] at kt
                    refine pre52 t ?_
                    show Steps p.tables e below (T43.setTop (mkF m 333 #[.val (.int p0), .val (.int p1), .val (.int p2), .val (.int p3), .val (.int (f1 p0)), .val (.int (f1 p1)), .val (.int (f1 p2)), .val (.int (f0_s0_29001 p3)), .val (.int (f0_s0_44002 p3)), .val (.ref b10), .val (.int (f0_e7 p0 p1 p2)), .val (.int (f6 (f0_e11 p0 p1 p2 p3) (f0_e12 p0 p1 p2 p3) (f0_e13 p0 p1 p2 p3))), .unset, .val (.int (f1 p1)), .unset, .unset] [(.int (92 : Int32)), (.int (f1 p2))])) _
                    refine XS.icmpYes X43.here hx rfl (pc0 := 333) (pc' := 342) rfl (hb hby at_333) rfl (feq hc53).2 (by decide) (by decide) ?_
                    show Steps p.tables e below (T43.setTop (mkF m 342 #[.val (.int p0), .val (.int p1), .val (.int p2), .val (.int p3), .val (.int (f1 p0)), .val (.int (f1 p1)), .val (.int (f1 p2)), .val (.int (f0_s0_29001 p3)), .val (.int (f0_s0_44002 p3)), .val (.ref b10), .val (.int (f0_e7 p0 p1 p2)), .val (.int (f6 (f0_e11 p0 p1 p2 p3) (f0_e12 p0 p1 p2 p3) (f0_e13 p0 p1 p2 p3))), .unset, .val (.int (f1 p1)), .unset, .unset] [])) _
                    refine XS.iload X43.here hx rfl (hb hby at_342) rfl ?_
                    show Steps p.tables e below (T43.setTop (mkF m 344 #[.val (.int p0), .val (.int p1), .val (.int p2), .val (.int p3), .val (.int (f1 p0)), .val (.int (f1 p1)), .val (.int (f1 p2)), .val (.int (f0_s0_29001 p3)), .val (.int (f0_s0_44002 p3)), .val (.ref b10), .val (.int (f0_e7 p0 p1 p2)), .val (.int (f6 (f0_e11 p0 p1 p2 p3) (f0_e12 p0 p1 p2 p3) (f0_e13 p0 p1 p2 p3))), .unset, .val (.int (f1 p1)), .unset, .unset] [(.int (f1 p2))])) _
                    refine XS.iload X43.here hx rfl (hb hby at_344) rfl ?_
                    show Steps p.tables e below (T43.setTop (mkF m 346 #[.val (.int p0), .val (.int p1), .val (.int p2), .val (.int p3), .val (.int (f1 p0)), .val (.int (f1 p1)), .val (.int (f1 p2)), .val (.int (f0_s0_29001 p3)), .val (.int (f0_s0_44002 p3)), .val (.ref b10), .val (.int (f0_e7 p0 p1 p2)), .val (.int (f6 (f0_e11 p0 p1 p2 p3) (f0_e12 p0 p1 p2 p3) (f0_e13 p0 p1 p2 p3))), .unset, .val (.int (f1 p1)), .unset, .unset] [(.int (f1 p1)), (.int (f1 p2))])) _
                    refine XS.icmpNo X43.here hx rfl (hb hby at_346) rfl (teq hc54).2 ?_
                    show Steps p.tables e below (T43.setTop (mkF m 349 #[.val (.int p0), .val (.int p1), .val (.int p2), .val (.int p3), .val (.int (f1 p0)), .val (.int (f1 p1)), .val (.int (f1 p2)), .val (.int (f0_s0_29001 p3)), .val (.int (f0_s0_44002 p3)), .val (.ref b10), .val (.int (f0_e7 p0 p1 p2)), .val (.int (f6 (f0_e11 p0 p1 p2 p3) (f0_e12 p0 p1 p2 p3) (f0_e13 p0 p1 p2 p3))), .unset, .val (.int (f1 p1)), .unset, .unset] [])) _
                    refine XS.iconst X43.here hx rfl (hb hby at_349) ?_
                    show Steps p.tables e below (T43.setTop (mkF m 350 #[.val (.int p0), .val (.int p1), .val (.int p2), .val (.int p3), .val (.int (f1 p0)), .val (.int (f1 p1)), .val (.int (f1 p2)), .val (.int (f0_s0_29001 p3)), .val (.int (f0_s0_44002 p3)), .val (.ref b10), .val (.int (f0_e7 p0 p1 p2)), .val (.int (f6 (f0_e11 p0 p1 p2 p3) (f0_e12 p0 p1 p2 p3) (f0_e13 p0 p1 p2 p3))), .unset, .val (.int (f1 p1)), .unset, .unset] [(.int (1 : Int32))])) _
                    refine XS.istore X43.here hx rfl (hb hby at_350) rfl (l' := #[.val (.int p0), .val (.int p1), .val (.int p2), .val (.int p3), .val (.int (f1 p0)), .val (.int (f1 p1)), .val (.int (f1 p2)), .val (.int (f0_s0_29001 p3)), .val (.int (f0_s0_44002 p3)), .val (.ref b10), .val (.int (f0_e7 p0 p1 p2)), .val (.int (f6 (f0_e11 p0 p1 p2 p3) (f0_e12 p0 p1 p2 p3) (f0_e13 p0 p1 p2 p3))), .val (.int (1 : Int32)), .val (.int (f1 p1)), .unset, .unset]) rfl ?_
                    show Steps p.tables e below (T43.setTop (mkF m 352 #[.val (.int p0), .val (.int p1), .val (.int p2), .val (.int p3), .val (.int (f1 p0)), .val (.int (f1 p1)), .val (.int (f1 p2)), .val (.int (f0_s0_29001 p3)), .val (.int (f0_s0_44002 p3)), .val (.ref b10), .val (.int (f0_e7 p0 p1 p2)), .val (.int (f6 (f0_e11 p0 p1 p2 p3) (f0_e12 p0 p1 p2 p3) (f0_e13 p0 p1 p2 p3))), .val (.int (1 : Int32)), .val (.int (f1 p1)), .unset, .unset] [])) _
                    refine XS.goto X43.here hx rfl (pc0 := 352) (pc' := 395) rfl (hb hby at_352) (by decide) (by decide) ?_
                    exact kt
                  · have hj : (f0_l12_395009 p1 p2) = (2 : Int32) := by unfold f0_l12_395009; rw [if_neg hc53, if_neg hc54]
                    rw [hj] at kt
                    refine pre52 t ?_
                    show Steps p.tables e below (T43.setTop (mkF m 333 #[.val (.int p0), .val (.int p1), .val (.int p2), .val (.int p3), .val (.int (f1 p0)), .val (.int (f1 p1)), .val (.int (f1 p2)), .val (.int (f0_s0_29001 p3)), .val (.int (f0_s0_44002 p3)), .val (.ref b10), .val (.int (f0_e7 p0 p1 p2)), .val (.int (f6 (f0_e11 p0 p1 p2 p3) (f0_e12 p0 p1 p2 p3) (f0_e13 p0 p1 p2 p3))), .unset, .val (.int (f1 p1)), .unset, .unset] [(.int (92 : Int32)), (.int (f1 p2))])) _
                    refine XS.icmpYes X43.here hx rfl (pc0 := 333) (pc' := 342) rfl (hb hby at_333) rfl (feq hc53).2 (by decide) (by decide) ?_
                    show Steps p.tables e below (T43.setTop (mkF m 342 #[.val (.int p0), .val (.int p1), .val (.int p2), .val (.int p3), .val (.int (f1 p0)), .val (.int (f1 p1)), .val (.int (f1 p2)), .val (.int (f0_s0_29001 p3)), .val (.int (f0_s0_44002 p3)), .val (.ref b10), .val (.int (f0_e7 p0 p1 p2)), .val (.int (f6 (f0_e11 p0 p1 p2 p3) (f0_e12 p0 p1 p2 p3) (f0_e13 p0 p1 p2 p3))), .unset, .val (.int (f1 p1)), .unset, .unset] [])) _
                    refine XS.iload X43.here hx rfl (hb hby at_342) rfl ?_
                    show Steps p.tables e below (T43.setTop (mkF m 344 #[.val (.int p0), .val (.int p1), .val (.int p2), .val (.int p3), .val (.int (f1 p0)), .val (.int (f1 p1)), .val (.int (f1 p2)), .val (.int (f0_s0_29001 p3)), .val (.int (f0_s0_44002 p3)), .val (.ref b10), .val (.int (f0_e7 p0 p1 p2)), .val (.int (f6 (f0_e11 p0 p1 p2 p3) (f0_e12 p0 p1 p2 p3) (f0_e13 p0 p1 p2 p3))), .unset, .val (.int (f1 p1)), .unset, .unset] [(.int (f1 p2))])) _
                    refine XS.iload X43.here hx rfl (hb hby at_344) rfl ?_
                    show Steps p.tables e below (T43.setTop (mkF m 346 #[.val (.int p0), .val (.int p1), .val (.int p2), .val (.int p3), .val (.int (f1 p0)), .val (.int (f1 p1)), .val (.int (f1 p2)), .val (.int (f0_s0_29001 p3)), .val (.int (f0_s0_44002 p3)), .val (.ref b10), .val (.int (f0_e7 p0 p1 p2)), .val (.int (f6 (f0_e11 p0 p1 p2 p3) (f0_e12 p0 p1 p2 p3) (f0_e13 p0 p1 p2 p3))), .unset, .val (.int (f1 p1)), .unset, .unset] [(.int (f1 p1)), (.int (f1 p2))])) _
                    refine XS.icmpYes X43.here hx rfl (pc0 := 346) (pc' := 355) rfl (hb hby at_346) rfl (feq hc54).2 (by decide) (by decide) ?_
                    show Steps p.tables e below (T43.setTop (mkF m 355 #[.val (.int p0), .val (.int p1), .val (.int p2), .val (.int p3), .val (.int (f1 p0)), .val (.int (f1 p1)), .val (.int (f1 p2)), .val (.int (f0_s0_29001 p3)), .val (.int (f0_s0_44002 p3)), .val (.ref b10), .val (.int (f0_e7 p0 p1 p2)), .val (.int (f6 (f0_e11 p0 p1 p2 p3) (f0_e12 p0 p1 p2 p3) (f0_e13 p0 p1 p2 p3))), .unset, .val (.int (f1 p1)), .unset, .unset] [])) _
                    refine XS.iconst X43.here hx rfl (hb hby at_355) ?_
                    show Steps p.tables e below (T43.setTop (mkF m 356 #[.val (.int p0), .val (.int p1), .val (.int p2), .val (.int p3), .val (.int (f1 p0)), .val (.int (f1 p1)), .val (.int (f1 p2)), .val (.int (f0_s0_29001 p3)), .val (.int (f0_s0_44002 p3)), .val (.ref b10), .val (.int (f0_e7 p0 p1 p2)), .val (.int (f6 (f0_e11 p0 p1 p2 p3) (f0_e12 p0 p1 p2 p3) (f0_e13 p0 p1 p2 p3))), .unset, .val (.int (f1 p1)), .unset, .unset] [(.int (2 : Int32))])) _
                    refine XS.istore X43.here hx rfl (hb hby at_356) rfl (l' := #[.val (.int p0), .val (.int p1), .val (.int p2), .val (.int p3), .val (.int (f1 p0)), .val (.int (f1 p1)), .val (.int (f1 p2)), .val (.int (f0_s0_29001 p3)), .val (.int (f0_s0_44002 p3)), .val (.ref b10), .val (.int (f0_e7 p0 p1 p2)), .val (.int (f6 (f0_e11 p0 p1 p2 p3) (f0_e12 p0 p1 p2 p3) (f0_e13 p0 p1 p2 p3))), .val (.int (2 : Int32)), .val (.int (f1 p1)), .unset, .unset]) rfl ?_
                    show Steps p.tables e below (T43.setTop (mkF m 358 #[.val (.int p0), .val (.int p1), .val (.int p2), .val (.int p3), .val (.int (f1 p0)), .val (.int (f1 p1)), .val (.int (f1 p2)), .val (.int (f0_s0_29001 p3)), .val (.int (f0_s0_44002 p3)), .val (.ref b10), .val (.int (f0_e7 p0 p1 p2)), .val (.int (f6 (f0_e11 p0 p1 p2 p3) (f0_e12 p0 p1 p2 p3) (f0_e13 p0 p1 p2 p3))), .val (.int (2 : Int32)), .val (.int (f1 p1)), .unset, .unset] [])) _
                    refine XS.goto X43.here hx rfl (pc0 := 358) (pc' := 395) rfl (hb hby at_358) (by decide) (by decide) ?_
                    exact kt
              refine ⟨T43, _, X43, e43, N43, fun t kt => ?_⟩
              have hj : (f0_l12_395013 p0 p1 p2) = (f0_l12_395009 p1 p2) := by unfold f0_l12_395013; rw [if_neg hc23, if_pos hc37, if_neg hc39, if_neg hc45]
              rw [hj] at kt
              have hj : (f0_l13_395014 p0 p1 p2) = (f1 p1) := by unfold f0_l13_395014; rw [if_neg hc23, if_pos hc37, if_neg hc39, if_neg hc45]
              rw [hj] at kt
              refine pre55 t ?_
              exact kt
        · have pre56 : ∀ t, Steps p.tables e below (T35.setTop (mkF m 200 #[.val (.int p0), .val (.int p1), .val (.int p2), .val (.int p3), .val (.int (f1 p0)), .val (.int (f1 p1)), .val (.int (f1 p2)), .val (.int (f0_s0_29001 p3)), .val (.int (f0_s0_44002 p3)), .val (.ref b10), .val (.int (f0_e7 p0 p1 p2)), .val (.int (f6 (f0_e11 p0 p1 p2 p3) (f0_e12 p0 p1 p2 p3) (f0_e13 p0 p1 p2 p3))), .unset, .val (.int (32 : Int32)), .unset, .unset] [(.int (92 : Int32)), (.int (f1 p1))])) t → Steps p.tables e below (s₁.setTop (entryFrame m #[(.int p0), (.int p1), (.int p2), (.int p3)] maxLocals)) t := fun t kt => pre36 t (by
            show Steps p.tables e below (T35.setTop (mkF m 193 #[.val (.int p0), .val (.int p1), .val (.int p2), .val (.int p3), .val (.int (f1 p0)), .val (.int (f1 p1)), .val (.int (f1 p2)), .val (.int (f0_s0_29001 p3)), .val (.int (f0_s0_44002 p3)), .val (.ref b10), .val (.int (f0_e7 p0 p1 p2)), .val (.int (f6 (f0_e11 p0 p1 p2 p3) (f0_e12 p0 p1 p2 p3) (f0_e13 p0 p1 p2 p3))), .unset, .val (.int (32 : Int32)), .unset, .unset] [(.int (f7 (f1 p0)))])) _
            refine XS.ifNo X35.here hx rfl (hb hby at_193) rfl ((if0 _ _).trans (feq hc37).1) ?_
            show Steps p.tables e below (T35.setTop (mkF m 196 #[.val (.int p0), .val (.int p1), .val (.int p2), .val (.int p3), .val (.int (f1 p0)), .val (.int (f1 p1)), .val (.int (f1 p2)), .val (.int (f0_s0_29001 p3)), .val (.int (f0_s0_44002 p3)), .val (.ref b10), .val (.int (f0_e7 p0 p1 p2)), .val (.int (f6 (f0_e11 p0 p1 p2 p3) (f0_e12 p0 p1 p2 p3) (f0_e13 p0 p1 p2 p3))), .unset, .val (.int (32 : Int32)), .unset, .unset] [])) _
            refine XS.iload X35.here hx rfl (hb hby at_196) rfl ?_
            show Steps p.tables e below (T35.setTop (mkF m 198 #[.val (.int p0), .val (.int p1), .val (.int p2), .val (.int p3), .val (.int (f1 p0)), .val (.int (f1 p1)), .val (.int (f1 p2)), .val (.int (f0_s0_29001 p3)), .val (.int (f0_s0_44002 p3)), .val (.ref b10), .val (.int (f0_e7 p0 p1 p2)), .val (.int (f6 (f0_e11 p0 p1 p2 p3) (f0_e12 p0 p1 p2 p3) (f0_e13 p0 p1 p2 p3))), .unset, .val (.int (32 : Int32)), .unset, .unset] [(.int (f1 p1))])) _
            refine XS.bipush X35.here hx rfl (hb hby at_198) ?_
            exact kt)
          by_cases hc57 : (f1 p1) = (92 : Int32)
          · refine ⟨T35, _, X35, e35, N35, fun t kt => ?_⟩
            have hj : (f0_l12_395013 p0 p1 p2) = (2 : Int32) := by unfold f0_l12_395013; rw [if_neg hc23, if_neg hc37, if_pos hc57]
            rw [hj] at kt
            have hj : (f0_l13_395014 p0 p1 p2) = (f1 p0) := by unfold f0_l13_395014; rw [if_neg hc23, if_neg hc37, if_pos hc57]
            rw [hj] at kt
            refine pre56 t ?_
            show Steps p.tables e below (T35.setTop (mkF m 200 #[.val (.int p0), .val (.int p1), .val (.int p2), .val (.int p3), .val (.int (f1 p0)), .val (.int (f1 p1)), .val (.int (f1 p2)), .val (.int (f0_s0_29001 p3)), .val (.int (f0_s0_44002 p3)), .val (.ref b10), .val (.int (f0_e7 p0 p1 p2)), .val (.int (f6 (f0_e11 p0 p1 p2 p3) (f0_e12 p0 p1 p2 p3) (f0_e13 p0 p1 p2 p3))), .unset, .val (.int (32 : Int32)), .unset, .unset] [(.int (92 : Int32)), (.int (f1 p1))])) _
            refine XS.icmpNo X35.here hx rfl (hb hby at_200) rfl (teq hc57).2 ?_
            show Steps p.tables e below (T35.setTop (mkF m 203 #[.val (.int p0), .val (.int p1), .val (.int p2), .val (.int p3), .val (.int (f1 p0)), .val (.int (f1 p1)), .val (.int (f1 p2)), .val (.int (f0_s0_29001 p3)), .val (.int (f0_s0_44002 p3)), .val (.ref b10), .val (.int (f0_e7 p0 p1 p2)), .val (.int (f6 (f0_e11 p0 p1 p2 p3) (f0_e12 p0 p1 p2 p3) (f0_e13 p0 p1 p2 p3))), .unset, .val (.int (32 : Int32)), .unset, .unset] [])) _
            refine XS.iconst X35.here hx rfl (hb hby at_203) ?_
            show Steps p.tables e below (T35.setTop (mkF m 204 #[.val (.int p0), .val (.int p1), .val (.int p2), .val (.int p3), .val (.int (f1 p0)), .val (.int (f1 p1)), .val (.int (f1 p2)), .val (.int (f0_s0_29001 p3)), .val (.int (f0_s0_44002 p3)), .val (.ref b10), .val (.int (f0_e7 p0 p1 p2)), .val (.int (f6 (f0_e11 p0 p1 p2 p3) (f0_e12 p0 p1 p2 p3) (f0_e13 p0 p1 p2 p3))), .unset, .val (.int (32 : Int32)), .unset, .unset] [(.int (2 : Int32))])) _
            refine XS.istore X35.here hx rfl (hb hby at_204) rfl (l' := #[.val (.int p0), .val (.int p1), .val (.int p2), .val (.int p3), .val (.int (f1 p0)), .val (.int (f1 p1)), .val (.int (f1 p2)), .val (.int (f0_s0_29001 p3)), .val (.int (f0_s0_44002 p3)), .val (.ref b10), .val (.int (f0_e7 p0 p1 p2)), .val (.int (f6 (f0_e11 p0 p1 p2 p3) (f0_e12 p0 p1 p2 p3) (f0_e13 p0 p1 p2 p3))), .val (.int (2 : Int32)), .val (.int (32 : Int32)), .unset, .unset]) rfl ?_
            show Steps p.tables e below (T35.setTop (mkF m 206 #[.val (.int p0), .val (.int p1), .val (.int p2), .val (.int p3), .val (.int (f1 p0)), .val (.int (f1 p1)), .val (.int (f1 p2)), .val (.int (f0_s0_29001 p3)), .val (.int (f0_s0_44002 p3)), .val (.ref b10), .val (.int (f0_e7 p0 p1 p2)), .val (.int (f6 (f0_e11 p0 p1 p2 p3) (f0_e12 p0 p1 p2 p3) (f0_e13 p0 p1 p2 p3))), .val (.int (2 : Int32)), .val (.int (32 : Int32)), .unset, .unset] [])) _
            refine XS.iload X35.here hx rfl (hb hby at_206) rfl ?_
            show Steps p.tables e below (T35.setTop (mkF m 208 #[.val (.int p0), .val (.int p1), .val (.int p2), .val (.int p3), .val (.int (f1 p0)), .val (.int (f1 p1)), .val (.int (f1 p2)), .val (.int (f0_s0_29001 p3)), .val (.int (f0_s0_44002 p3)), .val (.ref b10), .val (.int (f0_e7 p0 p1 p2)), .val (.int (f6 (f0_e11 p0 p1 p2 p3) (f0_e12 p0 p1 p2 p3) (f0_e13 p0 p1 p2 p3))), .val (.int (2 : Int32)), .val (.int (32 : Int32)), .unset, .unset] [(.int (f1 p0))])) _
            refine XS.istore X35.here hx rfl (hb hby at_208) rfl (l' := #[.val (.int p0), .val (.int p1), .val (.int p2), .val (.int p3), .val (.int (f1 p0)), .val (.int (f1 p1)), .val (.int (f1 p2)), .val (.int (f0_s0_29001 p3)), .val (.int (f0_s0_44002 p3)), .val (.ref b10), .val (.int (f0_e7 p0 p1 p2)), .val (.int (f6 (f0_e11 p0 p1 p2 p3) (f0_e12 p0 p1 p2 p3) (f0_e13 p0 p1 p2 p3))), .val (.int (2 : Int32)), .val (.int (f1 p0)), .unset, .unset]) rfl ?_
            show Steps p.tables e below (T35.setTop (mkF m 210 #[.val (.int p0), .val (.int p1), .val (.int p2), .val (.int p3), .val (.int (f1 p0)), .val (.int (f1 p1)), .val (.int (f1 p2)), .val (.int (f0_s0_29001 p3)), .val (.int (f0_s0_44002 p3)), .val (.ref b10), .val (.int (f0_e7 p0 p1 p2)), .val (.int (f6 (f0_e11 p0 p1 p2 p3) (f0_e12 p0 p1 p2 p3) (f0_e13 p0 p1 p2 p3))), .val (.int (2 : Int32)), .val (.int (f1 p0)), .unset, .unset] [])) _
            refine XS.goto X35.here hx rfl (pc0 := 210) (pc' := 395) rfl (hb hby at_210) (by decide) (by decide) ?_
            exact kt
          · have pre58 : ∀ t, Steps p.tables e below (T35.setTop (mkF m 217 #[.val (.int p0), .val (.int p1), .val (.int p2), .val (.int p3), .val (.int (f1 p0)), .val (.int (f1 p1)), .val (.int (f1 p2)), .val (.int (f0_s0_29001 p3)), .val (.int (f0_s0_44002 p3)), .val (.ref b10), .val (.int (f0_e7 p0 p1 p2)), .val (.int (f6 (f0_e11 p0 p1 p2 p3) (f0_e12 p0 p1 p2 p3) (f0_e13 p0 p1 p2 p3))), .unset, .val (.int (32 : Int32)), .unset, .unset] [(.int (f1 p0)), (.int (f1 p1))])) t → Steps p.tables e below (s₁.setTop (entryFrame m #[(.int p0), (.int p1), (.int p2), (.int p3)] maxLocals)) t := fun t kt => pre56 t (by
              show Steps p.tables e below (T35.setTop (mkF m 200 #[.val (.int p0), .val (.int p1), .val (.int p2), .val (.int p3), .val (.int (f1 p0)), .val (.int (f1 p1)), .val (.int (f1 p2)), .val (.int (f0_s0_29001 p3)), .val (.int (f0_s0_44002 p3)), .val (.ref b10), .val (.int (f0_e7 p0 p1 p2)), .val (.int (f6 (f0_e11 p0 p1 p2 p3) (f0_e12 p0 p1 p2 p3) (f0_e13 p0 p1 p2 p3))), .unset, .val (.int (32 : Int32)), .unset, .unset] [(.int (92 : Int32)), (.int (f1 p1))])) _
              refine XS.icmpYes X35.here hx rfl (pc0 := 200) (pc' := 213) rfl (hb hby at_200) rfl (feq hc57).2 (by decide) (by decide) ?_
              show Steps p.tables e below (T35.setTop (mkF m 213 #[.val (.int p0), .val (.int p1), .val (.int p2), .val (.int p3), .val (.int (f1 p0)), .val (.int (f1 p1)), .val (.int (f1 p2)), .val (.int (f0_s0_29001 p3)), .val (.int (f0_s0_44002 p3)), .val (.ref b10), .val (.int (f0_e7 p0 p1 p2)), .val (.int (f6 (f0_e11 p0 p1 p2 p3) (f0_e12 p0 p1 p2 p3) (f0_e13 p0 p1 p2 p3))), .unset, .val (.int (32 : Int32)), .unset, .unset] [])) _
              refine XS.iload X35.here hx rfl (hb hby at_213) rfl ?_
              show Steps p.tables e below (T35.setTop (mkF m 215 #[.val (.int p0), .val (.int p1), .val (.int p2), .val (.int p3), .val (.int (f1 p0)), .val (.int (f1 p1)), .val (.int (f1 p2)), .val (.int (f0_s0_29001 p3)), .val (.int (f0_s0_44002 p3)), .val (.ref b10), .val (.int (f0_e7 p0 p1 p2)), .val (.int (f6 (f0_e11 p0 p1 p2 p3) (f0_e12 p0 p1 p2 p3) (f0_e13 p0 p1 p2 p3))), .unset, .val (.int (32 : Int32)), .unset, .unset] [(.int (f1 p1))])) _
              refine XS.iload X35.here hx rfl (hb hby at_215) rfl ?_
              exact kt)
            by_cases hc59 : (f1 p1) = (f1 p0)
            · have pre60 : ∀ t, Steps p.tables e below (T35.setTop (mkF m 224 #[.val (.int p0), .val (.int p1), .val (.int p2), .val (.int p3), .val (.int (f1 p0)), .val (.int (f1 p1)), .val (.int (f1 p2)), .val (.int (f0_s0_29001 p3)), .val (.int (f0_s0_44002 p3)), .val (.ref b10), .val (.int (f0_e7 p0 p1 p2)), .val (.int (f6 (f0_e11 p0 p1 p2 p3) (f0_e12 p0 p1 p2 p3) (f0_e13 p0 p1 p2 p3))), .unset, .val (.int (32 : Int32)), .unset, .unset] [(.int (93 : Int32)), (.int (f1 p2))])) t → Steps p.tables e below (s₁.setTop (entryFrame m #[(.int p0), (.int p1), (.int p2), (.int p3)] maxLocals)) t := fun t kt => pre58 t (by
                show Steps p.tables e below (T35.setTop (mkF m 217 #[.val (.int p0), .val (.int p1), .val (.int p2), .val (.int p3), .val (.int (f1 p0)), .val (.int (f1 p1)), .val (.int (f1 p2)), .val (.int (f0_s0_29001 p3)), .val (.int (f0_s0_44002 p3)), .val (.ref b10), .val (.int (f0_e7 p0 p1 p2)), .val (.int (f6 (f0_e11 p0 p1 p2 p3) (f0_e12 p0 p1 p2 p3) (f0_e13 p0 p1 p2 p3))), .unset, .val (.int (32 : Int32)), .unset, .unset] [(.int (f1 p0)), (.int (f1 p1))])) _
                refine XS.icmpNo X35.here hx rfl (hb hby at_217) rfl (teq hc59).2 ?_
                show Steps p.tables e below (T35.setTop (mkF m 220 #[.val (.int p0), .val (.int p1), .val (.int p2), .val (.int p3), .val (.int (f1 p0)), .val (.int (f1 p1)), .val (.int (f1 p2)), .val (.int (f0_s0_29001 p3)), .val (.int (f0_s0_44002 p3)), .val (.ref b10), .val (.int (f0_e7 p0 p1 p2)), .val (.int (f6 (f0_e11 p0 p1 p2 p3) (f0_e12 p0 p1 p2 p3) (f0_e13 p0 p1 p2 p3))), .unset, .val (.int (32 : Int32)), .unset, .unset] [])) _
                refine XS.iload X35.here hx rfl (hb hby at_220) rfl ?_
                show Steps p.tables e below (T35.setTop (mkF m 222 #[.val (.int p0), .val (.int p1), .val (.int p2), .val (.int p3), .val (.int (f1 p0)), .val (.int (f1 p1)), .val (.int (f1 p2)), .val (.int (f0_s0_29001 p3)), .val (.int (f0_s0_44002 p3)), .val (.ref b10), .val (.int (f0_e7 p0 p1 p2)), .val (.int (f6 (f0_e11 p0 p1 p2 p3) (f0_e12 p0 p1 p2 p3) (f0_e13 p0 p1 p2 p3))), .unset, .val (.int (32 : Int32)), .unset, .unset] [(.int (f1 p2))])) _
                refine XS.bipush X35.here hx rfl (hb hby at_222) ?_
                exact kt)
              by_cases hc61 : (f1 p2) = (93 : Int32)
              · refine ⟨T35, _, X35, e35, N35, fun t kt => ?_⟩
                have hj : (f0_l12_395013 p0 p1 p2) = (0 : Int32) := by unfold f0_l12_395013; rw [if_neg hc23, if_neg hc37, if_neg hc57, if_pos hc59, if_pos hc61]
                rw [hj] at kt
                have hj : (f0_l13_395014 p0 p1 p2) = (32 : Int32) := by unfold f0_l13_395014; rw [if_neg hc23, if_neg hc37, if_neg hc57, if_pos hc59, if_pos hc61]
                rw [hj] at kt
                refine pre60 t ?_
                show Steps p.tables e below (T35.setTop (mkF m 224 #[.val (.int p0), .val (.int p1), .val (.int p2), .val (.int p3), .val (.int (f1 p0)), .val (.int (f1 p1)), .val (.int (f1 p2)), .val (.int (f0_s0_29001 p3)), .val (.int (f0_s0_44002 p3)), .val (.ref b10), .val (.int (f0_e7 p0 p1 p2)), .val (.int (f6 (f0_e11 p0 p1 p2 p3) (f0_e12 p0 p1 p2 p3) (f0_e13 p0 p1 p2 p3))), .unset, .val (.int (32 : Int32)), .unset, .unset] [(.int (93 : Int32)), (.int (f1 p2))])) _
                refine XS.icmpNo X35.here hx rfl (hb hby at_224) rfl (teq hc61).2 ?_
                show Steps p.tables e below (T35.setTop (mkF m 227 #[.val (.int p0), .val (.int p1), .val (.int p2), .val (.int p3), .val (.int (f1 p0)), .val (.int (f1 p1)), .val (.int (f1 p2)), .val (.int (f0_s0_29001 p3)), .val (.int (f0_s0_44002 p3)), .val (.ref b10), .val (.int (f0_e7 p0 p1 p2)), .val (.int (f6 (f0_e11 p0 p1 p2 p3) (f0_e12 p0 p1 p2 p3) (f0_e13 p0 p1 p2 p3))), .unset, .val (.int (32 : Int32)), .unset, .unset] [])) _
                refine XS.iconst X35.here hx rfl (hb hby at_227) ?_
                show Steps p.tables e below (T35.setTop (mkF m 228 #[.val (.int p0), .val (.int p1), .val (.int p2), .val (.int p3), .val (.int (f1 p0)), .val (.int (f1 p1)), .val (.int (f1 p2)), .val (.int (f0_s0_29001 p3)), .val (.int (f0_s0_44002 p3)), .val (.ref b10), .val (.int (f0_e7 p0 p1 p2)), .val (.int (f6 (f0_e11 p0 p1 p2 p3) (f0_e12 p0 p1 p2 p3) (f0_e13 p0 p1 p2 p3))), .unset, .val (.int (32 : Int32)), .unset, .unset] [(.int (0 : Int32))])) _
                refine XS.istore X35.here hx rfl (hb hby at_228) rfl (l' := #[.val (.int p0), .val (.int p1), .val (.int p2), .val (.int p3), .val (.int (f1 p0)), .val (.int (f1 p1)), .val (.int (f1 p2)), .val (.int (f0_s0_29001 p3)), .val (.int (f0_s0_44002 p3)), .val (.ref b10), .val (.int (f0_e7 p0 p1 p2)), .val (.int (f6 (f0_e11 p0 p1 p2 p3) (f0_e12 p0 p1 p2 p3) (f0_e13 p0 p1 p2 p3))), .val (.int (0 : Int32)), .val (.int (32 : Int32)), .unset, .unset]) rfl ?_
                show Steps p.tables e below (T35.setTop (mkF m 230 #[.val (.int p0), .val (.int p1), .val (.int p2), .val (.int p3), .val (.int (f1 p0)), .val (.int (f1 p1)), .val (.int (f1 p2)), .val (.int (f0_s0_29001 p3)), .val (.int (f0_s0_44002 p3)), .val (.ref b10), .val (.int (f0_e7 p0 p1 p2)), .val (.int (f6 (f0_e11 p0 p1 p2 p3) (f0_e12 p0 p1 p2 p3) (f0_e13 p0 p1 p2 p3))), .val (.int (0 : Int32)), .val (.int (32 : Int32)), .unset, .unset] [])) _
                refine XS.goto X35.here hx rfl (pc0 := 230) (pc' := 395) rfl (hb hby at_230) (by decide) (by decide) ?_
                exact kt
              · obtain ⟨_, _, ⟨T62, L62, k62, n62⟩, -, X62, ⟨Lc62, hQ62, l62, y62, z62⟩, st62⟩ := Jvm.LawKit.callS X35 hx (y := (⟨"com/example/libinterp/libinterp/SelectorScanReadPinLaw", "isQuote", "(C)Z"⟩ : MethodName)) hown (mvT hZ (hw _ (List.mem_of_getElem? (i := 31) rfl))) (mvT hZ (hw _ (List.mem_of_getElem? (i := 32) rfl))) (mvT hZ (hw _ (List.mem_of_getElem? (i := 2) rfl))) (mvT hZ (hw _ (List.mem_of_getElem? (i := 33) rfl))) (by decide) (backOf (W := 0) (rm7 l Z a0 hw [] (f1 p2) T20.heap n0 Zz20) hZ (hw _ (List.mem_of_getElem? (i := 33) rfl)) (hw _ (List.mem_of_getElem? (i := 2) rfl)) (by decide) (by decide)) (g := (mkF m 235 #[.val (.int p0), .val (.int p1), .val (.int p2), .val (.int p3), .val (.int (f1 p0)), .val (.int (f1 p1)), .val (.int (f1 p2)), .val (.int (f0_s0_29001 p3)), .val (.int (f0_s0_44002 p3)), .val (.ref b10), .val (.int (f0_e7 p0 p1 p2)), .val (.int (f6 (f0_e11 p0 p1 p2 p3) (f0_e12 p0 p1 p2 p3) (f0_e13 p0 p1 p2 p3))), .unset, .val (.int (32 : Int32)), .unset, .unset] [(.int (f1 p2))])) rfl (by rw [hml]; rfl) (argsL := [(.int (f1 p2))]) (rest := []) (lenOf pd_0 rfl) rfl (by show 2 * 0 + _ ≤ _; exact Nat.le_of_eq rfl) (hb hby at_235) (fun _ _ => ⟨rfl, e35, (by decide : 1 + 0 ≤ _), (by decide : 3 + 0 ≤ _)⟩)
                dsimp only [Pt.U, Pt.locs, Pt.cells, Pt.slots] at X62 l62 y62 z62 st62 hQ62
                subst l62 y62 z62
                obtain ⟨rfl, N62q, e62⟩ := hQ62
                have N62 := Fr.app N35 N62q
                have pre63 : ∀ t, Steps p.tables e below (T62.setTop (mkF m 238 #[.val (.int p0), .val (.int p1), .val (.int p2), .val (.int p3), .val (.int (f1 p0)), .val (.int (f1 p1)), .val (.int (f1 p2)), .val (.int (f0_s0_29001 p3)), .val (.int (f0_s0_44002 p3)), .val (.ref b10), .val (.int (f0_e7 p0 p1 p2)), .val (.int (f6 (f0_e11 p0 p1 p2 p3) (f0_e12 p0 p1 p2 p3) (f0_e13 p0 p1 p2 p3))), .unset, .val (.int (32 : Int32)), .unset, .unset] [(.int (f7 (f1 p2)))])) t → Steps p.tables e below (s₁.setTop (entryFrame m #[(.int p0), (.int p1), (.int p2), (.int p3)] maxLocals)) t := fun t kt => pre60 t (by
                  show Steps p.tables e below (T35.setTop (mkF m 224 #[.val (.int p0), .val (.int p1), .val (.int p2), .val (.int p3), .val (.int (f1 p0)), .val (.int (f1 p1)), .val (.int (f1 p2)), .val (.int (f0_s0_29001 p3)), .val (.int (f0_s0_44002 p3)), .val (.ref b10), .val (.int (f0_e7 p0 p1 p2)), .val (.int (f6 (f0_e11 p0 p1 p2 p3) (f0_e12 p0 p1 p2 p3) (f0_e13 p0 p1 p2 p3))), .unset, .val (.int (32 : Int32)), .unset, .unset] [(.int (93 : Int32)), (.int (f1 p2))])) _
                  refine XS.icmpYes X35.here hx rfl (pc0 := 224) (pc' := 233) rfl (hb hby at_224) rfl (feq hc61).2 (by decide) (by decide) ?_
                  show Steps p.tables e below (T35.setTop (mkF m 233 #[.val (.int p0), .val (.int p1), .val (.int p2), .val (.int p3), .val (.int (f1 p0)), .val (.int (f1 p1)), .val (.int (f1 p2)), .val (.int (f0_s0_29001 p3)), .val (.int (f0_s0_44002 p3)), .val (.ref b10), .val (.int (f0_e7 p0 p1 p2)), .val (.int (f6 (f0_e11 p0 p1 p2 p3) (f0_e12 p0 p1 p2 p3) (f0_e13 p0 p1 p2 p3))), .unset, .val (.int (32 : Int32)), .unset, .unset] [])) _
                  refine XS.iload X35.here hx rfl (hb hby at_233) rfl ?_
                  show Steps p.tables e below (T35.setTop (mkF m 235 #[.val (.int p0), .val (.int p1), .val (.int p2), .val (.int p3), .val (.int (f1 p0)), .val (.int (f1 p1)), .val (.int (f1 p2)), .val (.int (f0_s0_29001 p3)), .val (.int (f0_s0_44002 p3)), .val (.ref b10), .val (.int (f0_e7 p0 p1 p2)), .val (.int (f6 (f0_e11 p0 p1 p2 p3) (f0_e12 p0 p1 p2 p3) (f0_e13 p0 p1 p2 p3))), .unset, .val (.int (32 : Int32)), .unset, .unset] [(.int (f1 p2))])) _
                  refine st62 _ ?_
                  exact kt)
                have pre65 : ∀ t, Steps p.tables e below (T62.setTop (mkF m 395 #[.val (.int p0), .val (.int p1), .val (.int p2), .val (.int p3), .val (.int (f1 p0)), .val (.int (f1 p1)), .val (.int (f1 p2)), .val (.int (f0_s0_29001 p3)), .val (.int (f0_s0_44002 p3)), .val (.ref b10), .val (.int (f0_e7 p0 p1 p2)), .val (.int (f6 (f0_e11 p0 p1 p2 p3) (f0_e12 p0 p1 p2 p3) (f0_e13 p0 p1 p2 p3))), .val (.int (f0_l12_395010 p2)), .val (.int (f0_l13_395011 p2)), .unset, .unset] [])) t → Steps p.tables e below (s₁.setTop (entryFrame m #[(.int p0), (.int p1), (.int p2), (.int p3)] maxLocals)) t := by
                  intro t kt
                  by_cases hc64 : (f7 (f1 p2)) = (0 : Int32)
                  · have hj : (f0_l12_395010 p2) = (1 : Int32) := by unfold f0_l12_395010; rw [if_pos hc64]
                    rw [hj] at kt
                    have hj : (f0_l13_395011 p2) = (32 : Int32) := by unfold f0_l13_395011; rw [if_pos hc64]
                    rw [hj] at kt
                    refine pre63 t ?_
                    show Steps p.tables e below (T62.setTop (mkF m 238 #[.val (.int p0), .val (.int p1), .val (.int p2), .val (.int p3), .val (.int (f1 p0)), .val (.int (f1 p1)), .val (.int (f1 p2)), .val (.int (f0_s0_29001 p3)), .val (.int (f0_s0_44002 p3)), .val (.ref b10), .val (.int (f0_e7 p0 p1 p2)), .val (.int (f6 (f0_e11 p0 p1 p2 p3) (f0_e12 p0 p1 p2 p3) (f0_e13 p0 p1 p2 p3))), .unset, .val (.int (32 : Int32)), .unset, .unset] [(.int (f7 (f1 p2)))])) _
                    refine XS.ifYes X62.here hx rfl (pc0 := 238) (pc' := 251) rfl (hb hby at_238) rfl ((if0 _ _).trans (teq hc64).1) (by decide) (by decide) ?_
                    show Steps p.tables e below (T62.setTop (mkF m 251 #[.val (.int p0), .val (.int p1), .val (.int p2), .val (.int p3), .val (.int (f1 p0)), .val (.int (f1 p1)), .val (.int (f1 p2)), .val (.int (f0_s0_29001 p3)), .val (.int (f0_s0_44002 p3)), .val (.ref b10), .val (.int (f0_e7 p0 p1 p2)), .val (.int (f6 (f0_e11 p0 p1 p2 p3) (f0_e12 p0 p1 p2 p3) (f0_e13 p0 p1 p2 p3))), .unset, .val (.int (32 : Int32)), .unset, .unset] [])) _
                    refine XS.iconst X62.here hx rfl (hb hby at_251) ?_
                    show Steps p.tables e below (T62.setTop (mkF m 252 #[.val (.int p0), .val (.int p1), .val (.int p2), .val (.int p3), .val (.int (f1 p0)), .val (.int (f1 p1)), .val (.int (f1 p2)), .val (.int (f0_s0_29001 p3)), .val (.int (f0_s0_44002 p3)), .val (.ref b10), .val (.int (f0_e7 p0 p1 p2)), .val (.int (f6 (f0_e11 p0 p1 p2 p3) (f0_e12 p0 p1 p2 p3) (f0_e13 p0 p1 p2 p3))), .unset, .val (.int (32 : Int32)), .unset, .unset] [(.int (1 : Int32))])) _
                    refine XS.istore X62.here hx rfl (hb hby at_252) rfl (l' := #[.val (.int p0), .val (.int p1), .val (.int p2), .val (.int p3), .val (.int (f1 p0)), .val (.int (f1 p1)), .val (.int (f1 p2)), .val (.int (f0_s0_29001 p3)), .val (.int (f0_s0_44002 p3)), .val (.ref b10), .val (.int (f0_e7 p0 p1 p2)), .val (.int (f6 (f0_e11 p0 p1 p2 p3) (f0_e12 p0 p1 p2 p3) (f0_e13 p0 p1 p2 p3))), .val (.int (1 : Int32)), .val (.int (32 : Int32)), .unset, .unset]) rfl ?_
                    show Steps p.tables e below (T62.setTop (mkF m 254 #[.val (.int p0), .val (.int p1), .val (.int p2), .val (.int p3), .val (.int (f1 p0)), .val (.int (f1 p1)), .val (.int (f1 p2)), .val (.int (f0_s0_29001 p3)), .val (.int (f0_s0_44002 p3)), .val (.ref b10), .val (.int (f0_e7 p0 p1 p2)), .val (.int (f6 (f0_e11 p0 p1 p2 p3) (f0_e12 p0 p1 p2 p3) (f0_e13 p0 p1 p2 p3))), .val (.int (1 : Int32)), .val (.int (32 : Int32)), .unset, .unset] [])) _
                    refine XS.goto X62.here hx rfl (pc0 := 254) (pc' := 395) rfl (hb hby at_254) (by decide) (by decide) ?_
                    exact kt
                  · have hj : (f0_l12_395010 p2) = (2 : Int32) := by unfold f0_l12_395010; rw [if_neg hc64]
                    rw [hj] at kt
                    have hj : (f0_l13_395011 p2) = (f1 p2) := by unfold f0_l13_395011; rw [if_neg hc64]
                    rw [hj] at kt
                    refine pre63 t ?_
                    show Steps p.tables e below (T62.setTop (mkF m 238 #[.val (.int p0), .val (.int p1), .val (.int p2), .val (.int p3), .val (.int (f1 p0)), .val (.int (f1 p1)), .val (.int (f1 p2)), .val (.int (f0_s0_29001 p3)), .val (.int (f0_s0_44002 p3)), .val (.ref b10), .val (.int (f0_e7 p0 p1 p2)), .val (.int (f6 (f0_e11 p0 p1 p2 p3) (f0_e12 p0 p1 p2 p3) (f0_e13 p0 p1 p2 p3))), .unset, .val (.int (32 : Int32)), .unset, .unset] [(.int (f7 (f1 p2)))])) _
                    refine XS.ifNo X62.here hx rfl (hb hby at_238) rfl ((if0 _ _).trans (feq hc64).1) ?_
                    show Steps p.tables e below (T62.setTop (mkF m 241 #[.val (.int p0), .val (.int p1), .val (.int p2), .val (.int p3), .val (.int (f1 p0)), .val (.int (f1 p1)), .val (.int (f1 p2)), .val (.int (f0_s0_29001 p3)), .val (.int (f0_s0_44002 p3)), .val (.ref b10), .val (.int (f0_e7 p0 p1 p2)), .val (.int (f6 (f0_e11 p0 p1 p2 p3) (f0_e12 p0 p1 p2 p3) (f0_e13 p0 p1 p2 p3))), .unset, .val (.int (32 : Int32)), .unset, .unset] [])) _
                    refine XS.iconst X62.here hx rfl (hb hby at_241) ?_
                    show Steps p.tables e below (T62.setTop (mkF m 242 #[.val (.int p0), .val (.int p1), .val (.int p2), .val (.int p3), .val (.int (f1 p0)), .val (.int (f1 p1)), .val (.int (f1 p2)), .val (.int (f0_s0_29001 p3)), .val (.int (f0_s0_44002 p3)), .val (.ref b10), .val (.int (f0_e7 p0 p1 p2)), .val (.int (f6 (f0_e11 p0 p1 p2 p3) (f0_e12 p0 p1 p2 p3) (f0_e13 p0 p1 p2 p3))), .unset, .val (.int (32 : Int32)), .unset, .unset] [(.int (2 : Int32))])) _
                    refine XS.istore X62.here hx rfl (hb hby at_242) rfl (l' := #[.val (.int p0), .val (.int p1), .val (.int p2), .val (.int p3), .val (.int (f1 p0)), .val (.int (f1 p1)), .val (.int (f1 p2)), .val (.int (f0_s0_29001 p3)), .val (.int (f0_s0_44002 p3)), .val (.ref b10), .val (.int (f0_e7 p0 p1 p2)), .val (.int (f6 (f0_e11 p0 p1 p2 p3) (f0_e12 p0 p1 p2 p3) (f0_e13 p0 p1 p2 p3))), .val (.int (2 : Int32)), .val (.int (32 : Int32)), .unset, .unset]) rfl ?_
                    show Steps p.tables e below (T62.setTop (mkF m 244 #[.val (.int p0), .val (.int p1), .val (.int p2), .val (.int p3), .val (.int (f1 p0)), .val (.int (f1 p1)), .val (.int (f1 p2)), .val (.int (f0_s0_29001 p3)), .val (.int (f0_s0_44002 p3)), .val (.ref b10), .val (.int (f0_e7 p0 p1 p2)), .val (.int (f6 (f0_e11 p0 p1 p2 p3) (f0_e12 p0 p1 p2 p3) (f0_e13 p0 p1 p2 p3))), .val (.int (2 : Int32)), .val (.int (32 : Int32)), .unset, .unset] [])) _
                    refine XS.iload X62.here hx rfl (hb hby at_244) rfl ?_
                    show Steps p.tables e below (T62.setTop (mkF m 246 #[.val (.int p0), .val (.int p1), .val (.int p2), .val (.int p3), .val (.int (f1 p0)), .val (.int (f1 p1)), .val (.int (f1 p2)), .val (.int (f0_s0_29001 p3)), .val (.int (f0_s0_44002 p3)), .val (.ref b10), .val (.int (f0_e7 p0 p1 p2)), .val (.int (f6 (f0_e11 p0 p1 p2 p3) (f0_e12 p0 p1 p2 p3) (f0_e13 p0 p1 p2 p3))), .val (.int (2 : Int32)), .val (.int (32 : Int32)), .unset, .unset] [(.int (f1 p2))])) _
                    refine XS.istore X62.here hx rfl (hb hby at_246) rfl (l' := #[.val (.int p0), .val (.int p1), .val (.int p2), .val (.int p3), .val (.int (f1 p0)), .val (.int (f1 p1)), .val (.int (f1 p2)), .val (.int (f0_s0_29001 p3)), .val (.int (f0_s0_44002 p3)), .val (.ref b10), .val (.int (f0_e7 p0 p1 p2)), .val (.int (f6 (f0_e11 p0 p1 p2 p3) (f0_e12 p0 p1 p2 p3) (f0_e13 p0 p1 p2 p3))), .val (.int (2 : Int32)), .val (.int (f1 p2)), .unset, .unset]) rfl ?_
                    show Steps p.tables e below (T62.setTop (mkF m 248 #[.val (.int p0), .val (.int p1), .val (.int p2), .val (.int p3), .val (.int (f1 p0)), .val (.int (f1 p1)), .val (.int (f1 p2)), .val (.int (f0_s0_29001 p3)), .val (.int (f0_s0_44002 p3)), .val (.ref b10), .val (.int (f0_e7 p0 p1 p2)), .val (.int (f6 (f0_e11 p0 p1 p2 p3) (f0_e12 p0 p1 p2 p3) (f0_e13 p0 p1 p2 p3))), .val (.int (2 : Int32)), .val (.int (f1 p2)), .unset, .unset] [])) _
                    refine XS.goto X62.here hx rfl (pc0 := 248) (pc' := 395) rfl (hb hby at_248) (by decide) (by decide) ?_
                    exact kt
                refine ⟨T62, _, X62, e62, N62, fun t kt => ?_⟩
                have hj : (f0_l12_395013 p0 p1 p2) = (f0_l12_395010 p2) := by unfold f0_l12_395013; rw [if_neg hc23, if_neg hc37, if_neg hc57, if_pos hc59, if_neg hc61]
                rw [hj] at kt
                have hj : (f0_l13_395014 p0 p1 p2) = (f0_l13_395011 p2) := by unfold f0_l13_395014; rw [if_neg hc23, if_neg hc37, if_neg hc57, if_pos hc59, if_neg hc61]
                rw [hj] at kt
                refine pre65 t ?_
                exact kt
            · have pre66 : ∀ t, Steps p.tables e below (T35.setTop (mkF m 265 #[.val (.int p0), .val (.int p1), .val (.int p2), .val (.int p3), .val (.int (f1 p0)), .val (.int (f1 p1)), .val (.int (f1 p2)), .val (.int (f0_s0_29001 p3)), .val (.int (f0_s0_44002 p3)), .val (.ref b10), .val (.int (f0_e7 p0 p1 p2)), .val (.int (f6 (f0_e11 p0 p1 p2 p3) (f0_e12 p0 p1 p2 p3) (f0_e13 p0 p1 p2 p3))), .unset, .val (.int (f1 p0)), .unset, .unset] [(.int (92 : Int32)), (.int (f1 p2))])) t → Steps p.tables e below (s₁.setTop (entryFrame m #[(.int p0), (.int p1), (.int p2), (.int p3)] maxLocals)) t := fun t kt => pre58 t (by
                show Steps p.tables e below (T35.setTop (mkF m 217 #[.val (.int p0), .val (.int p1), .val (.int p2), .val (.int p3), .val (.int (f1 p0)), .val (.int (f1 p1)), .val (.int (f1 p2)), .val (.int (f0_s0_29001 p3)), .val (.int (f0_s0_44002 p3)), .val (.ref b10), .val (.int (f0_e7 p0 p1 p2)), .val (.int (f6 (f0_e11 p0 p1 p2 p3) (f0_e12 p0 p1 p2 p3) (f0_e13 p0 p1 p2 p3))), .unset, .val (.int (32 : Int32)), .unset, .unset] [(.int (f1 p0)), (.int (f1 p1))])) _
                refine XS.icmpYes X35.here hx rfl (pc0 := 217) (pc' := 257) rfl (hb hby at_217) rfl (feq hc59).2 (by decide) (by decide) ?_
                show Steps p.tables e below (T35.setTop (mkF m 257 #[.val (.int p0), .val (.int p1), .val (.int p2), .val (.int p3), .val (.int (f1 p0)), .val (.int (f1 p1)), .val (.int (f1 p2)), .val (.int (f0_s0_29001 p3)), .val (.int (f0_s0_44002 p3)), .val (.ref b10), .val (.int (f0_e7 p0 p1 p2)), .val (.int (f6 (f0_e11 p0 p1 p2 p3) (f0_e12 p0 p1 p2 p3) (f0_e13 p0 p1 p2 p3))), .unset, .val (.int (32 : Int32)), .unset, .unset] [])) _
                refine XS.iload X35.here hx rfl (hb hby at_257) rfl ?_
                show Steps p.tables e below (T35.setTop (mkF m 259 #[.val (.int p0), .val (.int p1), .val (.int p2), .val (.int p3), .val (.int (f1 p0)), .val (.int (f1 p1)), .val (.int (f1 p2)), .val (.int (f0_s0_29001 p3)), .val (.int (f0_s0_44002 p3)), .val (.ref b10), .val (.int (f0_e7 p0 p1 p2)), .val (.int (f6 (f0_e11 p0 p1 p2 p3) (f0_e12 p0 p1 p2 p3) (f0_e13 p0 p1 p2 p3))), .unset, .val (.int (32 : Int32)), .unset, .unset] [(.int (f1 p0))])) _
                refine XS.istore X35.here hx rfl (hb hby at_259) rfl (l' := #[.val (.int p0), .val (.int p1), .val (.int p2), .val (.int p3), .val (.int (f1 p0)), .val (.int (f1 p1)), .val (.int (f1 p2)), .val (.int (f0_s0_29001 p3)), .val (.int (f0_s0_44002 p3)), .val (.ref b10), .val (.int (f0_e7 p0 p1 p2)), .val (.int (f6 (f0_e11 p0 p1 p2 p3) (f0_e12 p0 p1 p2 p3) (f0_e13 p0 p1 p2 p3))), .unset, .val (.int (f1 p0)), .unset, .unset]) rfl ?_
                show Steps p.tables e below (T35.setTop (mkF m 261 #[.val (.int p0), .val (.int p1), .val (.int p2), .val (.int p3), .val (.int (f1 p0)), .val (.int (f1 p1)), .val (.int (f1 p2)), .val (.int (f0_s0_29001 p3)), .val (.int (f0_s0_44002 p3)), .val (.ref b10), .val (.int (f0_e7 p0 p1 p2)), .val (.int (f6 (f0_e11 p0 p1 p2 p3) (f0_e12 p0 p1 p2 p3) (f0_e13 p0 p1 p2 p3))), .unset, .val (.int (f1 p0)), .unset, .unset] [])) _
                refine XS.iload X35.here hx rfl (hb hby at_261) rfl ?_
                show Steps p.tables e below (T35.setTop (mkF m 263 #[.val (.int p0), .val (.int p1), .val (.int p2), .val (.int p3), .val (.int (f1 p0)), .val (.int (f1 p1)), .val (.int (f1 p2)), .val (.int (f0_s0_29001 p3)), .val (.int (f0_s0_44002 p3)), .val (.ref b10), .val (.int (f0_e7 p0 p1 p2)), .val (.int (f6 (f0_e11 p0 p1 p2 p3) (f0_e12 p0 p1 p2 p3) (f0_e13 p0 p1 p2 p3))), .unset, .val (.int (f1 p0)), .unset, .unset] [(.int (f1 p2))])) _
                refine XS.bipush X35.here hx rfl (hb hby at_263) ?_
                exact kt)
              have pre69 : ∀ t, Steps p.tables e below (T35.setTop (mkF m 395 #[.val (.int p0), .val (.int p1), .val (.int p2), .val (.int p3), .val (.int (f1 p0)), .val (.int (f1 p1)), .val (.int (f1 p2)), .val (.int (f0_s0_29001 p3)), .val (.int (f0_s0_44002 p3)), .val (.ref b10), .val (.int (f0_e7 p0 p1 p2)), .val (.int (f6 (f0_e11 p0 p1 p2 p3) (f0_e12 p0 p1 p2 p3) (f0_e13 p0 p1 p2 p3))), .val (.int (f0_l12_395012 p0 p2)), .val (.int (f1 p0)), .unset, .unset] [])) t → Steps p.tables e below (s₁.setTop (entryFrame m #[(.int p0), (.int p1), (.int p2), (.int p3)] maxLocals)) t := by
                intro t kt
                by_cases hc67 : (f1 p2) = (92 : Int32)
                · have hj : (f0_l12_395012 p0 p2) = (3 : Int32) := by unfold f0_l12_395012; rw [if_pos hc67]
                  rw [hj] at kt
                  refine pre66 t ?_
                  show Steps p.tables e below (T35.setTop (mkF m 265 #[.val (.int p0), .val (.int p1), .val (.int p2), .val (.int p3), .val (.int (f1 p0)), .val (.int (f1 p1)), .val (.int (f1 p2)), .val (.int (f0_s0_29001 p3)), .val (.int (f0_s0_44002 p3)), .val (.ref b10), .val (.int (f0_e7 p0 p1 p2)), .val (.int (f6 (f0_e11 p0 p1 p2 p3) (f0_e12 p0 p1 p2 p3) (f0_e13 p0 p1 p2 p3))), .unset, .val (.int (f1 p0)), .unset, .unset] [(.int (92 : Int32)), (.int (f1 p2))])) _
                  refine XS.icmpNo X35.here hx rfl (hb hby at_265) rfl (teq hc67).2 ?_
                  show Steps p.tables e below (T35.setTop (mkF m 268 #[.val (.int p0), .val (.int p1), .val (.int p2), .val (.int p3), .val (.int (f1 p0)), .val (.int (f1 p1)), .val (.int (f1 p2)), .val (.int (f0_s0_29001 p3)), .val (.int (f0_s0_44002 p3)), .val (.ref b10), .val (.int (f0_e7 p0 p1 p2)), .val (.int (f6 (f0_e11 p0 p1 p2 p3) (f0_e12 p0 p1 p2 p3) (f0_e13 p0 p1 p2 p3))), .unset, .val (.int (f1 p0)), .unset, .unset] [])) _
                  refine XS.iconst X35.here hx rfl (hb hby at_268) ?_
                  show Steps p.tables e below (T35.setTop (mkF m 269 #[.val (.int p0), .val (.int p1), .val (.int p2), .val (.int p3), .val (.int (f1 p0)), .val (.int (f1 p1)), .val (.int (f1 p2)), .val (.int (f0_s0_29001 p3)), .val (.int (f0_s0_44002 p3)), .val (.ref b10), .val (.int (f0_e7 p0 p1 p2)), .val (.int (f6 (f0_e11 p0 p1 p2 p3) (f0_e12 p0 p1 p2 p3) (f0_e13 p0 p1 p2 p3))), .unset, .val (.int (f1 p0)), .unset, .unset] [(.int (3 : Int32))])) _
                  refine XS.istore X35.here hx rfl (hb hby at_269) rfl (l' := #[.val (.int p0), .val (.int p1), .val (.int p2), .val (.int p3), .val (.int (f1 p0)), .val (.int (f1 p1)), .val (.int (f1 p2)), .val (.int (f0_s0_29001 p3)), .val (.int (f0_s0_44002 p3)), .val (.ref b10), .val (.int (f0_e7 p0 p1 p2)), .val (.int (f6 (f0_e11 p0 p1 p2 p3) (f0_e12 p0 p1 p2 p3) (f0_e13 p0 p1 p2 p3))), .val (.int (3 : Int32)), .val (.int (f1 p0)), .unset, .unset]) rfl ?_
                  show Steps p.tables e below (T35.setTop (mkF m 271 #[.val (.int p0), .val (.int p1), .val (.int p2), .val (.int p3), .val (.int (f1 p0)), .val (.int (f1 p1)), .val (.int (f1 p2)), .val (.int (f0_s0_29001 p3)), .val (.int (f0_s0_44002 p3)), .val (.ref b10), .val (.int (f0_e7 p0 p1 p2)), .val (.int (f6 (f0_e11 p0 p1 p2 p3) (f0_e12 p0 p1 p2 p3) (f0_e13 p0 p1 p2 p3))), .val (.int (3 : Int32)), .val (.int (f1 p0)), .unset, .unset] [])) _
                  refine XS.goto X35.here hx rfl (pc0 := 271) (pc' := 395) rfl (hb hby at_271) (by decide) (by decide) ?_
                  exact kt
                · by_cases hc68 : (f1 p2) = (f1 p0)
                  · have hj : (f0_l12_395012 p0 p2) = (1 : Int32) := by unfold f0_l12_395012; rw [if_neg hc67, if_pos hc68]
                    rw [hj] at kt
                    refine pre66 t ?_
                    show Steps p.tables e below (T35.setTop (mkF m 265 #[.val (.int p0), .val (.int p1), .val (.int p2), .val (.int p3), .val (.int (f1 p0)), .val (.int (f1 p1)), .val (.int (f1 p2)), .val (.int (f0_s0_29001 p3)), .val (.int (f0_s0_44002 p3)), .val (.ref b10), .val (.int (f0_e7 p0 p1 p2)), .val (.int (f6 (f0_e11 p0 p1 p2 p3) (f0_e12 p0 p1 p2 p3) (f0_e13 p0 p1 p2 p3))), .unset, .val (.int (f1 p0)), .unset, .unset] [(.int (92 : Int32)), (.int (f1 p2))])) _
                    refine XS.icmpYes X35.here hx rfl (pc0 := 265) (pc' := 274) rfl (hb hby at_265) rfl (feq hc67).2 (by decide) (by decide) ?_
                    show Steps p.tables e below (T35.setTop (mkF m 274 #[.val (.int p0), .val (.int p1), .val (.int p2), .val (.int p3), .val (.int (f1 p0)), .val (.int (f1 p1)), .val (.int (f1 p2)), .val (.int (f0_s0_29001 p3)), .val (.int (f0_s0_44002 p3)), .val (.ref b10), .val (.int (f0_e7 p0 p1 p2)), .val (.int (f6 (f0_e11 p0 p1 p2 p3) (f0_e12 p0 p1 p2 p3) (f0_e13 p0 p1 p2 p3))), .unset, .val (.int (f1 p0)), .unset, .unset] [])) _
                    refine XS.iload X35.here hx rfl (hb hby at_274) rfl ?_
                    show Steps p.tables e below (T35.setTop (mkF m 276 #[.val (.int p0), .val (.int p1), .val (.int p2), .val (.int p3), .val (.int (f1 p0)), .val (.int (f1 p1)), .val (.int (f1 p2)), .val (.int (f0_s0_29001 p3)), .val (.int (f0_s0_44002 p3)), .val (.ref b10), .val (.int (f0_e7 p0 p1 p2)), .val (.int (f6 (f0_e11 p0 p1 p2 p3) (f0_e12 p0 p1 p2 p3) (f0_e13 p0 p1 p2 p3))), .unset, .val (.int (f1 p0)), .unset, .unset] [(.int (f1 p2))])) _
                    refine XS.iload X35.here hx rfl (hb hby at_276) rfl ?_
                    show Steps p.tables e below (T35.setTop (mkF m 278 #[.val (.int p0), .val (.int p1), .val (.int p2), .val (.int p3), .val (.int (f1 p0)), .val (.int (f1 p1)), .val (.int (f1 p2)), .val (.int (f0_s0_29001 p3)), .val (.int (f0_s0_44002 p3)), .val (.ref b10), .val (.int (f0_e7 p0 p1 p2)), .val (.int (f6 (f0_e11 p0 p1 p2 p3) (f0_e12 p0 p1 p2 p3) (f0_e13 p0 p1 p2 p3))), .unset, .val (.int (f1 p0)), .unset, .unset] [(.int (f1 p0)), (.int (f1 p2))])) _
                    refine XS.icmpNo X35.here hx rfl (hb hby at_278) rfl (teq hc68).2 ?_
                    show Steps p.tables e below (T35.setTop (mkF m 281 #[.val (.int p0), .val (.int p1), .val (.int p2), .val (.int p3), .val (.int (f1 p0)), .val (.int (f1 p1)), .val (.int (f1 p2)), .val (.int (f0_s0_29001 p3)), .val (.int (f0_s0_44002 p3)), .val (.ref b10), .val (.int (f0_e7 p0 p1 p2)), .val (.int (f6 (f0_e11 p0 p1 p2 p3) (f0_e12 p0 p1 p2 p3) (f0_e13 p0 p1 p2 p3))), .unset, .val (.int (f1 p0)), .unset, .unset] [])) _
                    refine XS.iconst X35.here hx rfl (hb hby at_281) ?_
                    show Steps p.tables e below (T35.setTop (mkF m 282 #[.val (.int p0), .val (.int p1), .val (.int p2), .val (.int p3), .val (.int (f1 p0)), .val (.int (f1 p1)), .val (.int (f1 p2)), .val (.int (f0_s0_29001 p3)), .val (.int (f0_s0_44002 p3)), .val (.ref b10), .val (.int (f0_e7 p0 p1 p2)), .val (.int (f6 (f0_e11 p0 p1 p2 p3) (f0_e12 p0 p1 p2 p3) (f0_e13 p0 p1 p2 p3))), .unset, .val (.int (f1 p0)), .unset, .unset] [(.int (1 : Int32))])) _
                    refine XS.istore X35.here hx rfl (hb hby at_282) rfl (l' := #[.val (.int p0), .val (.int p1), .val (.int p2), .val (.int p3), .val (.int (f1 p0)), .val (.int (f1 p1)), .val (.int (f1 p2)), .val (.int (f0_s0_29001 p3)), .val (.int (f0_s0_44002 p3)), .val (.ref b10), .val (.int (f0_e7 p0 p1 p2)), .val (.int (f6 (f0_e11 p0 p1 p2 p3) (f0_e12 p0 p1 p2 p3) (f0_e13 p0 p1 p2 p3))), .val (.int (1 : Int32)), .val (.int (f1 p0)), .unset, .unset]) rfl ?_
                    show Steps p.tables e below (T35.setTop (mkF m 284 #[.val (.int p0), .val (.int p1), .val (.int p2), .val (.int p3), .val (.int (f1 p0)), .val (.int (f1 p1)), .val (.int (f1 p2)), .val (.int (f0_s0_29001 p3)), .val (.int (f0_s0_44002 p3)), .val (.ref b10), .val (.int (f0_e7 p0 p1 p2)), .val (.int (f6 (f0_e11 p0 p1 p2 p3) (f0_e12 p0 p1 p2 p3) (f0_e13 p0 p1 p2 p3))), .val (.int (1 : Int32)), .val (.int (f1 p0)), .unset, .unset] [])) _
                    refine XS.goto X35.here hx rfl (pc0 := 284) (pc' := 395) rfl (hb hby at_284) (by decide) (by decide) ?_
                    exact kt
                  · have hj : (f0_l12_395012 p0 p2) = (2 : Int32) := by unfold f0_l12_395012; rw [if_neg hc67, if_neg hc68]
                    rw [hj] at kt
                    refine pre66 t ?_
                    show Steps p.tables e below (T35.setTop (mkF m 265 #[.val (.int p0), .val (.int p1), .val (.int p2), .val (.int p3), .val (.int (f1 p0)), .val (.int (f1 p1)), .val (.int (f1 p2)), .val (.int (f0_s0_29001 p3)), .val (.int (f0_s0_44002 p3)), .val (.ref b10), .val (.int (f0_e7 p0 p1 p2)), .val (.int (f6 (f0_e11 p0 p1 p2 p3) (f0_e12 p0 p1 p2 p3) (f0_e13 p0 p1 p2 p3))), .unset, .val (.int (f1 p0)), .unset, .unset] [(.int (92 : Int32)), (.int (f1 p2))])) _
                    refine XS.icmpYes X35.here hx rfl (pc0 := 265) (pc' := 274) rfl (hb hby at_265) rfl (feq hc67).2 (by decide) (by decide) ?_
                    show Steps p.tables e below (T35.setTop (mkF m 274 #[.val (.int p0), .val (.int p1), .val (.int p2), .val (.int p3), .val (.int (f1 p0)), .val (.int (f1 p1)), .val (.int (f1 p2)), .val (.int (f0_s0_29001 p3)), .val (.int (f0_s0_44002 p3)), .val (.ref b10), .val (.int (f0_e7 p0 p1 p2)), .val (.int (f6 (f0_e11 p0 p1 p2 p3) (f0_e12 p0 p1 p2 p3) (f0_e13 p0 p1 p2 p3))), .unset, .val (.int (f1 p0)), .unset, .unset] [])) _
                    refine XS.iload X35.here hx rfl (hb hby at_274) rfl ?_
                    show Steps p.tables e below (T35.setTop (mkF m 276 #[.val (.int p0), .val (.int p1), .val (.int p2), .val (.int p3), .val (.int (f1 p0)), .val (.int (f1 p1)), .val (.int (f1 p2)), .val (.int (f0_s0_29001 p3)), .val (.int (f0_s0_44002 p3)), .val (.ref b10), .val (.int (f0_e7 p0 p1 p2)), .val (.int (f6 (f0_e11 p0 p1 p2 p3) (f0_e12 p0 p1 p2 p3) (f0_e13 p0 p1 p2 p3))), .unset, .val (.int (f1 p0)), .unset, .unset] [(.int (f1 p2))])) _
                    refine XS.iload X35.here hx rfl (hb hby at_276) rfl ?_
                    show Steps p.tables e below (T35.setTop (mkF m 278 #[.val (.int p0), .val (.int p1), .val (.int p2), .val (.int p3), .val (.int (f1 p0)), .val (.int (f1 p1)), .val (.int (f1 p2)), .val (.int (f0_s0_29001 p3)), .val (.int (f0_s0_44002 p3)), .val (.ref b10), .val (.int (f0_e7 p0 p1 p2)), .val (.int (f6 (f0_e11 p0 p1 p2 p3) (f0_e12 p0 p1 p2 p3) (f0_e13 p0 p1 p2 p3))), .unset, .val (.int (f1 p0)), .unset, .unset] [(.int (f1 p0)), (.int (f1 p2))])) _
                    refine XS.icmpYes X35.here hx rfl (pc0 := 278) (pc' := 287) rfl (hb hby at_278) rfl (feq hc68).2 (by decide) (by decide) ?_
                    show Steps p.tables e below (T35.setTop (mkF m 287 #[.val (.int p0), .val (.int p1), .val (.int p2), .val (.int p3), .val (.int (f1 p0)), .val (.int (f1 p1)), .val (.int (f1 p2)), .val (.int (f0_s0_29001 p3)), .val (.int (f0_s0_44002 p3)), .val (.ref b10), .val (.int (f0_e7 p0 p1 p2)), .val (.int (f6 (f0_e11 p0 p1 p2 p3) (f0_e12 p0 p1 p2 p3) (f0_e13 p0 p1 p2 p3))), .unset, .val (.int (f1 p0)), .unset, .unset] [])) _
                    refine XS.iconst X35.here hx rfl (hb hby at_287) ?_
                    show Steps p.tables e below (T35.setTop (mkF m 288 #[.val (.int p0), .val (.int p1), .val (.int p2), .val (.int p3), .val (.int (f1 p0)), .val (.int (f1 p1)), .val (.int (f1 p2)), .val (.int (f0_s0_29001 p3)), .val (.int (f0_s0_44002 p3)), .val (.ref b10), .val (.int (f0_e7 p0 p1 p2)), .val (.int (f6 (f0_e11 p0 p1 p2 p3) (f0_e12 p0 p1 p2 p3) (f0_e13 p0 p1 p2 p3))), .unset, .val (.int (f1 p0)), .unset, .unset] [(.int (2 : Int32))])) _
                    refine XS.istore X35.here hx rfl (hb hby at_288) rfl (l' := #[.val (.int p0), .val (.int p1), .val (.int p2), .val (.int p3), .val (.int (f1 p0)), .val (.int (f1 p1)), .val (.int (f1 p2)), .val (.int (f0_s0_29001 p3)), .val (.int (f0_s0_44002 p3)), .val (.ref b10), .val (.int (f0_e7 p0 p1 p2)), .val (.int (f6 (f0_e11 p0 p1 p2 p3) (f0_e12 p0 p1 p2 p3) (f0_e13 p0 p1 p2 p3))), .val (.int (2 : Int32)), .val (.int (f1 p0)), .unset, .unset]) rfl ?_
                    show Steps p.tables e below (T35.setTop (mkF m 290 #[.val (.int p0), .val (.int p1), .val (.int p2), .val (.int p3), .val (.int (f1 p0)), .val (.int (f1 p1)), .val (.int (f1 p2)), .val (.int (f0_s0_29001 p3)), .val (.int (f0_s0_44002 p3)), .val (.ref b10), .val (.int (f0_e7 p0 p1 p2)), .val (.int (f6 (f0_e11 p0 p1 p2 p3) (f0_e12 p0 p1 p2 p3) (f0_e13 p0 p1 p2 p3))), .val (.int (2 : Int32)), .val (.int (f1 p0)), .unset, .unset] [])) _
                    refine XS.goto X35.here hx rfl (pc0 := 290) (pc' := 395) rfl (hb hby at_290) (by decide) (by decide) ?_
                    exact kt
              refine ⟨T35, _, X35, e35, N35, fun t kt => ?_⟩
              have hj : (f0_l12_395013 p0 p1 p2) = (f0_l12_395012 p0 p2) := by unfold f0_l12_395013; rw [if_neg hc23, if_neg hc37, if_neg hc57, if_neg hc59]
              rw [hj] at kt
              have hj : (f0_l13_395014 p0 p1 p2) = (f1 p0) := by unfold f0_l13_395014; rw [if_neg hc23, if_neg hc37, if_neg hc57, if_neg hc59]
              rw [hj] at kt
              refine pre69 t ?_
              exact kt
    have pre71 : ∀ t, Steps p.tables e below (T70.setTop (mkF m 397 #[.val (.int p0), .val (.int p1), .val (.int p2), .val (.int p3), .val (.int (f1 p0)), .val (.int (f1 p1)), .val (.int (f1 p2)), .val (.int (f0_s0_29001 p3)), .val (.int (f0_s0_44002 p3)), .val (.ref b10), .val (.int (f0_e7 p0 p1 p2)), .val (.int (f6 (f0_e11 p0 p1 p2 p3) (f0_e12 p0 p1 p2 p3) (f0_e13 p0 p1 p2 p3))), .val (.int (f0_l12_395013 p0 p1 p2)), .val (.int (f0_l13_395014 p0 p1 p2)), .unset, .unset] [(.int (f0_l12_395013 p0 p1 p2))])) t → Steps p.tables e below (s₁.setTop (entryFrame m #[(.int p0), (.int p1), (.int p2), (.int p3)] maxLocals)) t := fun t kt => pre70 t (by
      show Steps p.tables e below (T70.setTop (mkF m 395 #[.val (.int p0), .val (.int p1), .val (.int p2), .val (.int p3), .val (.int (f1 p0)), .val (.int (f1 p1)), .val (.int (f1 p2)), .val (.int (f0_s0_29001 p3)), .val (.int (f0_s0_44002 p3)), .val (.ref b10), .val (.int (f0_e7 p0 p1 p2)), .val (.int (f6 (f0_e11 p0 p1 p2 p3) (f0_e12 p0 p1 p2 p3) (f0_e13 p0 p1 p2 p3))), .val (.int (f0_l12_395013 p0 p1 p2)), .val (.int (f0_l13_395014 p0 p1 p2)), .unset, .unset] [])) _
      refine XS.iload X70.here hx rfl (hb hby at_395) rfl ?_
      exact kt)
    have pre73 : ∀ t, Steps p.tables e below (T70.setTop (mkF m 405 #[.val (.int p0), .val (.int p1), .val (.int p2), .val (.int p3), .val (.int (f1 p0)), .val (.int (f1 p1)), .val (.int (f1 p2)), .val (.int (f0_s0_29001 p3)), .val (.int (f0_s0_44002 p3)), .val (.ref b10), .val (.int (f0_e7 p0 p1 p2)), .val (.int (f6 (f0_e11 p0 p1 p2 p3) (f0_e12 p0 p1 p2 p3) (f0_e13 p0 p1 p2 p3))), .val (.int (f0_l12_395013 p0 p1 p2)), .val (.int (f0_l13_395014 p0 p1 p2)), .unset, .unset] [(.int (f0_s0_405015 p0 p1 p2))])) t → Steps p.tables e below (s₁.setTop (entryFrame m #[(.int p0), (.int p1), (.int p2), (.int p3)] maxLocals)) t := by
      intro t kt
      by_cases hc72 : (f0_l12_395013 p0 p1 p2) = (0 : Int32)
      · have hj : (f0_s0_405015 p0 p1 p2) = (1 : Int32) := by unfold f0_s0_405015; rw [if_pos hc72]
        rw [hj] at kt
        refine pre71 t ?_
        show Steps p.tables e below (T70.setTop (mkF m 397 #[.val (.int p0), .val (.int p1), .val (.int p2), .val (.int p3), .val (.int (f1 p0)), .val (.int (f1 p1)), .val (.int (f1 p2)), .val (.int (f0_s0_29001 p3)), .val (.int (f0_s0_44002 p3)), .val (.ref b10), .val (.int (f0_e7 p0 p1 p2)), .val (.int (f6 (f0_e11 p0 p1 p2 p3) (f0_e12 p0 p1 p2 p3) (f0_e13 p0 p1 p2 p3))), .val (.int (f0_l12_395013 p0 p1 p2)), .val (.int (f0_l13_395014 p0 p1 p2)), .unset, .unset] [(.int (f0_l12_395013 p0 p1 p2))])) _
        refine XS.ifNo X70.here hx rfl (hb hby at_397) rfl ((if0 _ _).trans (teq hc72).2) ?_
        show Steps p.tables e below (T70.setTop (mkF m 400 #[.val (.int p0), .val (.int p1), .val (.int p2), .val (.int p3), .val (.int (f1 p0)), .val (.int (f1 p1)), .val (.int (f1 p2)), .val (.int (f0_s0_29001 p3)), .val (.int (f0_s0_44002 p3)), .val (.ref b10), .val (.int (f0_e7 p0 p1 p2)), .val (.int (f6 (f0_e11 p0 p1 p2 p3) (f0_e12 p0 p1 p2 p3) (f0_e13 p0 p1 p2 p3))), .val (.int (f0_l12_395013 p0 p1 p2)), .val (.int (f0_l13_395014 p0 p1 p2)), .unset, .unset] [])) _
        refine XS.iconst X70.here hx rfl (hb hby at_400) ?_
        show Steps p.tables e below (T70.setTop (mkF m 401 #[.val (.int p0), .val (.int p1), .val (.int p2), .val (.int p3), .val (.int (f1 p0)), .val (.int (f1 p1)), .val (.int (f1 p2)), .val (.int (f0_s0_29001 p3)), .val (.int (f0_s0_44002 p3)), .val (.ref b10), .val (.int (f0_e7 p0 p1 p2)), .val (.int (f6 (f0_e11 p0 p1 p2 p3) (f0_e12 p0 p1 p2 p3) (f0_e13 p0 p1 p2 p3))), .val (.int (f0_l12_395013 p0 p1 p2)), .val (.int (f0_l13_395014 p0 p1 p2)), .unset, .unset] [(.int (1 : Int32))])) _
        refine XS.goto X70.here hx rfl (pc0 := 401) (pc' := 405) rfl (hb hby at_401) (by decide) (by decide) ?_
        exact kt
      · have hj : (f0_s0_405015 p0 p1 p2) = (0 : Int32) := by unfold f0_s0_405015; rw [if_neg hc72]
        rw [hj] at kt
        refine pre71 t ?_
        show Steps p.tables e below (T70.setTop (mkF m 397 #[.val (.int p0), .val (.int p1), .val (.int p2), .val (.int p3), .val (.int (f1 p0)), .val (.int (f1 p1)), .val (.int (f1 p2)), .val (.int (f0_s0_29001 p3)), .val (.int (f0_s0_44002 p3)), .val (.ref b10), .val (.int (f0_e7 p0 p1 p2)), .val (.int (f6 (f0_e11 p0 p1 p2 p3) (f0_e12 p0 p1 p2 p3) (f0_e13 p0 p1 p2 p3))), .val (.int (f0_l12_395013 p0 p1 p2)), .val (.int (f0_l13_395014 p0 p1 p2)), .unset, .unset] [(.int (f0_l12_395013 p0 p1 p2))])) _
        refine XS.ifYes X70.here hx rfl (pc0 := 397) (pc' := 404) rfl (hb hby at_397) rfl ((if0 _ _).trans (feq hc72).2) (by decide) (by decide) ?_
        show Steps p.tables e below (T70.setTop (mkF m 404 #[.val (.int p0), .val (.int p1), .val (.int p2), .val (.int p3), .val (.int (f1 p0)), .val (.int (f1 p1)), .val (.int (f1 p2)), .val (.int (f0_s0_29001 p3)), .val (.int (f0_s0_44002 p3)), .val (.ref b10), .val (.int (f0_e7 p0 p1 p2)), .val (.int (f6 (f0_e11 p0 p1 p2 p3) (f0_e12 p0 p1 p2 p3) (f0_e13 p0 p1 p2 p3))), .val (.int (f0_l12_395013 p0 p1 p2)), .val (.int (f0_l13_395014 p0 p1 p2)), .unset, .unset] [])) _
        refine XS.iconst X70.here hx rfl (hb hby at_404) ?_
        exact kt
    have pre74 : ∀ t, Steps p.tables e below (T70.setTop (mkF m 430 #[.val (.int p0), .val (.int p1), .val (.int p2), .val (.int p3), .val (.int (f1 p0)), .val (.int (f1 p1)), .val (.int (f1 p2)), .val (.int (f0_s0_29001 p3)), .val (.int (f0_s0_44002 p3)), .val (.ref b10), .val (.int (f0_e7 p0 p1 p2)), .val (.int (f6 (f0_e11 p0 p1 p2 p3) (f0_e12 p0 p1 p2 p3) (f0_e13 p0 p1 p2 p3))), .val (.int (f0_l12_395013 p0 p1 p2)), .val (.int (f0_l13_395014 p0 p1 p2)), .val (.int (f0_s0_405015 p0 p1 p2)), .unset] [(.int (f0_l12_395013 p0 p1 p2))])) t → Steps p.tables e below (s₁.setTop (entryFrame m #[(.int p0), (.int p1), (.int p2), (.int p3)] maxLocals)) t := fun t kt => pre73 t (by
      show Steps p.tables e below (T70.setTop (mkF m 405 #[.val (.int p0), .val (.int p1), .val (.int p2), .val (.int p3), .val (.int (f1 p0)), .val (.int (f1 p1)), .val (.int (f1 p2)), .val (.int (f0_s0_29001 p3)), .val (.int (f0_s0_44002 p3)), .val (.ref b10), .val (.int (f0_e7 p0 p1 p2)), .val (.int (f6 (f0_e11 p0 p1 p2 p3) (f0_e12 p0 p1 p2 p3) (f0_e13 p0 p1 p2 p3))), .val (.int (f0_l12_395013 p0 p1 p2)), .val (.int (f0_l13_395014 p0 p1 p2)), .unset, .unset] [(.int (f0_s0_405015 p0 p1 p2))])) _
      refine XS.istore X70.here hx rfl (hb hby at_405) rfl (l' := #[.val (.int p0), .val (.int p1), .val (.int p2), .val (.int p3), .val (.int (f1 p0)), .val (.int (f1 p1)), .val (.int (f1 p2)), .val (.int (f0_s0_29001 p3)), .val (.int (f0_s0_44002 p3)), .val (.ref b10), .val (.int (f0_e7 p0 p1 p2)), .val (.int (f6 (f0_e11 p0 p1 p2 p3) (f0_e12 p0 p1 p2 p3) (f0_e13 p0 p1 p2 p3))), .val (.int (f0_l12_395013 p0 p1 p2)), .val (.int (f0_l13_395014 p0 p1 p2)), .val (.int (f0_s0_405015 p0 p1 p2)), .unset]) rfl ?_
      show Steps p.tables e below (T70.setTop (mkF m 407 #[.val (.int p0), .val (.int p1), .val (.int p2), .val (.int p3), .val (.int (f1 p0)), .val (.int (f1 p1)), .val (.int (f1 p2)), .val (.int (f0_s0_29001 p3)), .val (.int (f0_s0_44002 p3)), .val (.ref b10), .val (.int (f0_e7 p0 p1 p2)), .val (.int (f6 (f0_e11 p0 p1 p2 p3) (f0_e12 p0 p1 p2 p3) (f0_e13 p0 p1 p2 p3))), .val (.int (f0_l12_395013 p0 p1 p2)), .val (.int (f0_l13_395014 p0 p1 p2)), .val (.int (f0_s0_405015 p0 p1 p2)), .unset] [])) _
      refine XS.iload X70.here hx rfl (hb hby at_407) rfl ?_
      show Steps p.tables e below (T70.setTop (mkF m 409 #[.val (.int p0), .val (.int p1), .val (.int p2), .val (.int p3), .val (.int (f1 p0)), .val (.int (f1 p1)), .val (.int (f1 p2)), .val (.int (f0_s0_29001 p3)), .val (.int (f0_s0_44002 p3)), .val (.ref b10), .val (.int (f0_e7 p0 p1 p2)), .val (.int (f6 (f0_e11 p0 p1 p2 p3) (f0_e12 p0 p1 p2 p3) (f0_e13 p0 p1 p2 p3))), .val (.int (f0_l12_395013 p0 p1 p2)), .val (.int (f0_l13_395014 p0 p1 p2)), .val (.int (f0_s0_405015 p0 p1 p2)), .unset] [(.int (f0_s0_29001 p3))])) _
      refine XS.ifYes X70.here hx rfl (pc0 := 409) (pc' := 428) rfl (hb hby at_409) rfl ((if0 _ _).trans (teq hc18).1) (by decide) (by decide) ?_
      show Steps p.tables e below (T70.setTop (mkF m 428 #[.val (.int p0), .val (.int p1), .val (.int p2), .val (.int p3), .val (.int (f1 p0)), .val (.int (f1 p1)), .val (.int (f1 p2)), .val (.int (f0_s0_29001 p3)), .val (.int (f0_s0_44002 p3)), .val (.ref b10), .val (.int (f0_e7 p0 p1 p2)), .val (.int (f6 (f0_e11 p0 p1 p2 p3) (f0_e12 p0 p1 p2 p3) (f0_e13 p0 p1 p2 p3))), .val (.int (f0_l12_395013 p0 p1 p2)), .val (.int (f0_l13_395014 p0 p1 p2)), .val (.int (f0_s0_405015 p0 p1 p2)), .unset] [])) _
      refine XS.iload X70.here hx rfl (hb hby at_428) rfl ?_
      exact kt)
    have pre78 : ∀ t, Steps p.tables e below (T70.setTop (mkF m 451 #[.val (.int p0), .val (.int p1), .val (.int p2), .val (.int p3), .val (.int (f1 p0)), .val (.int (f1 p1)), .val (.int (f1 p2)), .val (.int (f0_s0_29001 p3)), .val (.int (f0_s0_44002 p3)), .val (.ref b10), .val (.int (f0_e7 p0 p1 p2)), .val (.int (f6 (f0_e11 p0 p1 p2 p3) (f0_e12 p0 p1 p2 p3) (f0_e13 p0 p1 p2 p3))), .val (.int (f0_l12_395013 p0 p1 p2)), .val (.int (f0_l13_395014 p0 p1 p2)), .val (.int (f0_s0_405015 p0 p1 p2)), .unset] [(.int (f0_s0_451016 p0 p1 p2 p3))])) t → Steps p.tables e below (s₁.setTop (entryFrame m #[(.int p0), (.int p1), (.int p2), (.int p3)] maxLocals)) t := by
      intro t kt
      by_cases hc75 : (f0_l12_395013 p0 p1 p2) = (0 : Int32)
      · have hj : (f0_s0_451016 p0 p1 p2 p3) = (1 : Int32) := by unfold f0_s0_451016; rw [if_pos hc75]
        rw [hj] at kt
        refine pre74 t ?_
        show Steps p.tables e below (T70.setTop (mkF m 430 #[.val (.int p0), .val (.int p1), .val (.int p2), .val (.int p3), .val (.int (f1 p0)), .val (.int (f1 p1)), .val (.int (f1 p2)), .val (.int (f0_s0_29001 p3)), .val (.int (f0_s0_44002 p3)), .val (.ref b10), .val (.int (f0_e7 p0 p1 p2)), .val (.int (f6 (f0_e11 p0 p1 p2 p3) (f0_e12 p0 p1 p2 p3) (f0_e13 p0 p1 p2 p3))), .val (.int (f0_l12_395013 p0 p1 p2)), .val (.int (f0_l13_395014 p0 p1 p2)), .val (.int (f0_s0_405015 p0 p1 p2)), .unset] [(.int (f0_l12_395013 p0 p1 p2))])) _
        refine XS.ifYes X70.here hx rfl (pc0 := 430) (pc' := 446) rfl (hb hby at_430) rfl ((if0 _ _).trans (teq hc75).1) (by decide) (by decide) ?_
        show Steps p.tables e below (T70.setTop (mkF m 446 #[.val (.int p0), .val (.int p1), .val (.int p2), .val (.int p3), .val (.int (f1 p0)), .val (.int (f1 p1)), .val (.int (f1 p2)), .val (.int (f0_s0_29001 p3)), .val (.int (f0_s0_44002 p3)), .val (.ref b10), .val (.int (f0_e7 p0 p1 p2)), .val (.int (f6 (f0_e11 p0 p1 p2 p3) (f0_e12 p0 p1 p2 p3) (f0_e13 p0 p1 p2 p3))), .val (.int (f0_l12_395013 p0 p1 p2)), .val (.int (f0_l13_395014 p0 p1 p2)), .val (.int (f0_s0_405015 p0 p1 p2)), .unset] [])) _
        refine XS.iconst X70.here hx rfl (hb hby at_446) ?_
        show Steps p.tables e below (T70.setTop (mkF m 447 #[.val (.int p0), .val (.int p1), .val (.int p2), .val (.int p3), .val (.int (f1 p0)), .val (.int (f1 p1)), .val (.int (f1 p2)), .val (.int (f0_s0_29001 p3)), .val (.int (f0_s0_44002 p3)), .val (.ref b10), .val (.int (f0_e7 p0 p1 p2)), .val (.int (f6 (f0_e11 p0 p1 p2 p3) (f0_e12 p0 p1 p2 p3) (f0_e13 p0 p1 p2 p3))), .val (.int (f0_l12_395013 p0 p1 p2)), .val (.int (f0_l13_395014 p0 p1 p2)), .val (.int (f0_s0_405015 p0 p1 p2)), .unset] [(.int (1 : Int32))])) _
        refine XS.goto X70.here hx rfl (pc0 := 447) (pc' := 451) rfl (hb hby at_447) (by decide) (by decide) ?_
        exact kt
      · by_cases hc76 : (f0_l12_395013 p0 p1 p2) = (2 : Int32)
        · by_cases hc77 : (f0_l13_395014 p0 p1 p2) = (f0_s0_44002 p3)
          · have hj : (f0_s0_451016 p0 p1 p2 p3) = (1 : Int32) := by unfold f0_s0_451016; rw [if_neg hc75, if_pos hc76, if_pos hc77]
            rw [hj] at kt
            refine pre74 t ?_
            show Steps p.tables e below (T70.setTop (mkF m 430 #[.val (.int p0), .val (.int p1), .val (.int p2), .val (.int p3), .val (.int (f1 p0)), .val (.int (f1 p1)), .val (.int (f1 p2)), .val (.int (f0_s0_29001 p3)), .val (.int (f0_s0_44002 p3)), .val (.ref b10), .val (.int (f0_e7 p0 p1 p2)), .val (.int (f6 (f0_e11 p0 p1 p2 p3) (f0_e12 p0 p1 p2 p3) (f0_e13 p0 p1 p2 p3))), .val (.int (f0_l12_395013 p0 p1 p2)), .val (.int (f0_l13_395014 p0 p1 p2)), .val (.int (f0_s0_405015 p0 p1 p2)), .unset] [(.int (f0_l12_395013 p0 p1 p2))])) _
            refine XS.ifNo X70.here hx rfl (hb hby at_430) rfl ((if0 _ _).trans (feq hc75).1) ?_
            show Steps p.tables e below (T70.setTop (mkF m 433 #[.val (.int p0), .val (.int p1), .val (.int p2), .val (.int p3), .val (.int (f1 p0)), .val (.int (f1 p1)), .val (.int (f1 p2)), .val (.int (f0_s0_29001 p3)), .val (.int (f0_s0_44002 p3)), .val (.ref b10), .val (.int (f0_e7 p0 p1 p2)), .val (.int (f6 (f0_e11 p0 p1 p2 p3) (f0_e12 p0 p1 p2 p3) (f0_e13 p0 p1 p2 p3))), .val (.int (f0_l12_395013 p0 p1 p2)), .val (.int (f0_l13_395014 p0 p1 p2)), .val (.int (f0_s0_405015 p0 p1 p2)), .unset] [])) _
            refine XS.iload X70.here hx rfl (hb hby at_433) rfl ?_
            show Steps p.tables e below (T70.setTop (mkF m 435 #[.val (.int p0), .val (.int p1), .val (.int p2), .val (.int p3), .val (.int (f1 p0)), .val (.int (f1 p1)), .val (.int (f1 p2)), .val (.int (f0_s0_29001 p3)), .val (.int (f0_s0_44002 p3)), .val (.ref b10), .val (.int (f0_e7 p0 p1 p2)), .val (.int (f6 (f0_e11 p0 p1 p2 p3) (f0_e12 p0 p1 p2 p3) (f0_e13 p0 p1 p2 p3))), .val (.int (f0_l12_395013 p0 p1 p2)), .val (.int (f0_l13_395014 p0 p1 p2)), .val (.int (f0_s0_405015 p0 p1 p2)), .unset] [(.int (f0_l12_395013 p0 p1 p2))])) _
            refine XS.iconst X70.here hx rfl (hb hby at_435) ?_
            show Steps p.tables e below (T70.setTop (mkF m 436 #[.val (.int p0), .val (.int p1), .val (.int p2), .val (.int p3), .val (.int (f1 p0)), .val (.int (f1 p1)), .val (.int (f1 p2)), .val (.int (f0_s0_29001 p3)), .val (.int (f0_s0_44002 p3)), .val (.ref b10), .val (.int (f0_e7 p0 p1 p2)), .val (.int (f6 (f0_e11 p0 p1 p2 p3) (f0_e12 p0 p1 p2 p3) (f0_e13 p0 p1 p2 p3))), .val (.int (f0_l12_395013 p0 p1 p2)), .val (.int (f0_l13_395014 p0 p1 p2)), .val (.int (f0_s0_405015 p0 p1 p2)), .unset] [(.int (2 : Int32)), (.int (f0_l12_395013 p0 p1 p2))])) _
            refine XS.icmpNo X70.here hx rfl (hb hby at_436) rfl (teq hc76).2 ?_
            show Steps p.tables e below (T70.setTop (mkF m 439 #[.val (.int p0), .val (.int p1), .val (.int p2), .val (.int p3), .val (.int (f1 p0)), .val (.int (f1 p1)), .val (.int (f1 p2)), .val (.int (f0_s0_29001 p3)), .val (.int (f0_s0_44002 p3)), .val (.ref b10), .val (.int (f0_e7 p0 p1 p2)), .val (.int (f6 (f0_e11 p0 p1 p2 p3) (f0_e12 p0 p1 p2 p3) (f0_e13 p0 p1 p2 p3))), .val (.int (f0_l12_395013 p0 p1 p2)), .val (.int (f0_l13_395014 p0 p1 p2)), .val (.int (f0_s0_405015 p0 p1 p2)), .unset] [])) _
            refine XS.iload X70.here hx rfl (hb hby at_439) rfl ?_
            show Steps p.tables e below (T70.setTop (mkF m 441 #[.val (.int p0), .val (.int p1), .val (.int p2), .val (.int p3), .val (.int (f1 p0)), .val (.int (f1 p1)), .val (.int (f1 p2)), .val (.int (f0_s0_29001 p3)), .val (.int (f0_s0_44002 p3)), .val (.ref b10), .val (.int (f0_e7 p0 p1 p2)), .val (.int (f6 (f0_e11 p0 p1 p2 p3) (f0_e12 p0 p1 p2 p3) (f0_e13 p0 p1 p2 p3))), .val (.int (f0_l12_395013 p0 p1 p2)), .val (.int (f0_l13_395014 p0 p1 p2)), .val (.int (f0_s0_405015 p0 p1 p2)), .unset] [(.int (f0_l13_395014 p0 p1 p2))])) _
            refine XS.iload X70.here hx rfl (hb hby at_441) rfl ?_
            show Steps p.tables e below (T70.setTop (mkF m 443 #[.val (.int p0), .val (.int p1), .val (.int p2), .val (.int p3), .val (.int (f1 p0)), .val (.int (f1 p1)), .val (.int (f1 p2)), .val (.int (f0_s0_29001 p3)), .val (.int (f0_s0_44002 p3)), .val (.ref b10), .val (.int (f0_e7 p0 p1 p2)), .val (.int (f6 (f0_e11 p0 p1 p2 p3) (f0_e12 p0 p1 p2 p3) (f0_e13 p0 p1 p2 p3))), .val (.int (f0_l12_395013 p0 p1 p2)), .val (.int (f0_l13_395014 p0 p1 p2)), .val (.int (f0_s0_405015 p0 p1 p2)), .unset] [(.int (f0_s0_44002 p3)), (.int (f0_l13_395014 p0 p1 p2))])) _
            refine XS.icmpNo X70.here hx rfl (hb hby at_443) rfl (teq hc77).2 ?_
            show Steps p.tables e below (T70.setTop (mkF m 446 #[.val (.int p0), .val (.int p1), .val (.int p2), .val (.int p3), .val (.int (f1 p0)), .val (.int (f1 p1)), .val (.int (f1 p2)), .val (.int (f0_s0_29001 p3)), .val (.int (f0_s0_44002 p3)), .val (.ref b10), .val (.int (f0_e7 p0 p1 p2)), .val (.int (f6 (f0_e11 p0 p1 p2 p3) (f0_e12 p0 p1 p2 p3) (f0_e13 p0 p1 p2 p3))), .val (.int (f0_l12_395013 p0 p1 p2)), .val (.int (f0_l13_395014 p0 p1 p2)), .val (.int (f0_s0_405015 p0 p1 p2)), .unset] [])) _
            refine XS.iconst X70.here hx rfl (hb hby at_446) ?_
            show Steps p.tables e below (T70.setTop (mkF m 447 #[.val (.int p0), .val (.int p1), .val (.int p2), .val (.int p3), .val (.int (f1 p0)), .val (.int (f1 p1)), .val (.int (f1 p2)), .val (.int (f0_s0_29001 p3)), .val (.int (f0_s0_44002 p3)), .val (.ref b10), .val (.int (f0_e7 p0 p1 p2)), .val (.int (f6 (f0_e11 p0 p1 p2 p3) (f0_e12 p0 p1 p2 p3) (f0_e13 p0 p1 p2 p3))), .val (.int (f0_l12_395013 p0 p1 p2)), .val (.int (f0_l13_395014 p0 p1 p2)), .val (.int (f0_s0_405015 p0 p1 p2)), .unset] [(.int (1 : Int32))])) _
            refine XS.goto X70.here hx rfl (pc0 := 447) (pc' := 451) rfl (hb hby at_447) (by decide) (by decide) ?_
            exact kt
          · have hj : (f0_s0_451016 p0 p1 p2 p3) = (0 : Int32) := by unfold f0_s0_451016; rw [if_neg hc75, if_pos hc76, if_neg hc77]
            rw [hj] at kt
            refine pre74 t ?_
            show Steps p.tables e below (T70.setTop (mkF m 430 #[.val (.int p0), .val (.int p1), .val (.int p2), .val (.int p3), .val (.int (f1 p0)), .val (.int (f1 p1)), .val (.int (f1 p2)), .val (.int (f0_s0_29001 p3)), .val (.int (f0_s0_44002 p3)), .val (.ref b10), .val (.int (f0_e7 p0 p1 p2)), .val (.int (f6 (f0_e11 p0 p1 p2 p3) (f0_e12 p0 p1 p2 p3) (f0_e13 p0 p1 p2 p3))), .val (.int (f0_l12_395013 p0 p1 p2)), .val (.int (f0_l13_395014 p0 p1 p2)), .val (.int (f0_s0_405015 p0 p1 p2)), .unset] [(.int (f0_l12_395013 p0 p1 p2))])) _
            refine XS.ifNo X70.here hx rfl (hb hby at_430) rfl ((if0 _ _).trans (feq hc75).1) ?_
            show Steps p.tables e below (T70.setTop (mkF m 433 #[.val (.int p0), .val (.int p1), .val (.int p2), .val (.int p3), .val (.int (f1 p0)), .val (.int (f1 p1)), .val (.int (f1 p2)), .val (.int (f0_s0_29001 p3)), .val (.int (f0_s0_44002 p3)), .val (.ref b10), .val (.int (f0_e7 p0 p1 p2)), .val (.int (f6 (f0_e11 p0 p1 p2 p3) (f0_e12 p0 p1 p2 p3) (f0_e13 p0 p1 p2 p3))), .val (.int (f0_l12_395013 p0 p1 p2)), .val (.int (f0_l13_395014 p0 p1 p2)), .val (.int (f0_s0_405015 p0 p1 p2)), .unset] [])) _
            refine XS.iload X70.here hx rfl (hb hby at_433) rfl ?_
            show Steps p.tables e below (T70.setTop (mkF m 435 #[.val (.int p0), .val (.int p1), .val (.int p2), .val (.int p3), .val (.int (f1 p0)), .val (.int (f1 p1)), .val (.int (f1 p2)), .val (.int (f0_s0_29001 p3)), .val (.int (f0_s0_44002 p3)), .val (.ref b10), .val (.int (f0_e7 p0 p1 p2)), .val (.int (f6 (f0_e11 p0 p1 p2 p3) (f0_e12 p0 p1 p2 p3) (f0_e13 p0 p1 p2 p3))), .val (.int (f0_l12_395013 p0 p1 p2)), .val (.int (f0_l13_395014 p0 p1 p2)), .val (.int (f0_s0_405015 p0 p1 p2)), .unset] [(.int (f0_l12_395013 p0 p1 p2))])) _
            refine XS.iconst X70.here hx rfl (hb hby at_435) ?_
            show Steps p.tables e below (T70.setTop (mkF m 436 #[.val (.int p0), .val (.int p1), .val (.int p2), .val (.int p3), .val (.int (f1 p0)), .val (.int (f1 p1)), .val (.int (f1 p2)), .val (.int (f0_s0_29001 p3)), .val (.int (f0_s0_44002 p3)), .val (.ref b10), .val (.int (f0_e7 p0 p1 p2)), .val (.int (f6 (f0_e11 p0 p1 p2 p3) (f0_e12 p0 p1 p2 p3) (f0_e13 p0 p1 p2 p3))), .val (.int (f0_l12_395013 p0 p1 p2)), .val (.int (f0_l13_395014 p0 p1 p2)), .val (.int (f0_s0_405015 p0 p1 p2)), .unset] [(.int (2 : Int32)), (.int (f0_l12_395013 p0 p1 p2))])) _
            refine XS.icmpNo X70.here hx rfl (hb hby at_436) rfl (teq hc76).2 ?_
            show Steps p.tables e below (T70.setTop (mkF m 439 #[.val (.int p0), .val (.int p1), .val (.int p2), .val (.int p3), .val (.int (f1 p0)), .val (.int (f1 p1)), .val (.int (f1 p2)), .val (.int (f0_s0_29001 p3)), .val (.int (f0_s0_44002 p3)), .val (.ref b10), .val (.int (f0_e7 p0 p1 p2)), .val (.int (f6 (f0_e11 p0 p1 p2 p3) (f0_e12 p0 p1 p2 p3) (f0_e13 p0 p1 p2 p3))), .val (.int (f0_l12_395013 p0 p1 p2)), .val (.int (f0_l13_395014 p0 p1 p2)), .val (.int (f0_s0_405015 p0 p1 p2)), .unset] [])) _
            refine XS.iload X70.here hx rfl (hb hby at_439) rfl ?_
            show Steps p.tables e below (T70.setTop (mkF m 441 #[.val (.int p0), .val (.int p1), .val (.int p2), .val (.int p3), .val (.int (f1 p0)), .val (.int (f1 p1)), .val (.int (f1 p2)), .val (.int (f0_s0_29001 p3)), .val (.int (f0_s0_44002 p3)), .val (.ref b10), .val (.int (f0_e7 p0 p1 p2)), .val (.int (f6 (f0_e11 p0 p1 p2 p3) (f0_e12 p0 p1 p2 p3) (f0_e13 p0 p1 p2 p3))), .val (.int (f0_l12_395013 p0 p1 p2)), .val (.int (f0_l13_395014 p0 p1 p2)), .val (.int (f0_s0_405015 p0 p1 p2)), .unset] [(.int (f0_l13_395014 p0 p1 p2))])) _
            refine XS.iload X70.here hx rfl (hb hby at_441) rfl ?_
            show Steps p.tables e below (T70.setTop (mkF m 443 #[.val (.int p0), .val (.int p1), .val (.int p2), .val (.int p3), .val (.int (f1 p0)), .val (.int (f1 p1)), .val (.int (f1 p2)), .val (.int (f0_s0_29001 p3)), .val (.int (f0_s0_44002 p3)), .val (.ref b10), .val (.int (f0_e7 p0 p1 p2)), .val (.int (f6 (f0_e11 p0 p1 p2 p3) (f0_e12 p0 p1 p2 p3) (f0_e13 p0 p1 p2 p3))), .val (.int (f0_l12_395013 p0 p1 p2)), .val (.int (f0_l13_395014 p0 p1 p2)), .val (.int (f0_s0_405015 p0 p1 p2)), .unset] [(.int (f0_s0_44002 p3)), (.int (f0_l13_395014 p0 p1 p2))])) _
            refine XS.icmpYes X70.here hx rfl (pc0 := 443) (pc' := 450) rfl (hb hby at_443) rfl (feq hc77).2 (by decide) (by decide) ?_
            show Steps p.tables e below (T70.setTop (mkF m 450 #[.val (.int p0), .val (.int p1), .val (.int p2), .val (.int p3), .val (.int (f1 p0)), .val (.int (f1 p1)), .val (.int (f1 p2)), .val (.int (f0_s0_29001 p3)), .val (.int (f0_s0_44002 p3)), .val (.ref b10), .val (.int (f0_e7 p0 p1 p2)), .val (.int (f6 (f0_e11 p0 p1 p2 p3) (f0_e12 p0 p1 p2 p3) (f0_e13 p0 p1 p2 p3))), .val (.int (f0_l12_395013 p0 p1 p2)), .val (.int (f0_l13_395014 p0 p1 p2)), .val (.int (f0_s0_405015 p0 p1 p2)), .unset] [])) _
            refine XS.iconst X70.here hx rfl (hb hby at_450) ?_
            exact kt
        · have hj : (f0_s0_451016 p0 p1 p2 p3) = (0 : Int32) := by unfold f0_s0_451016; rw [if_neg hc75, if_neg hc76]
          rw [hj] at kt
          refine pre74 t ?_
          show Steps p.tables e below (T70.setTop (mkF m 430 #[.val (.int p0), .val (.int p1), .val (.int p2), .val (.int p3), .val (.int (f1 p0)), .val (.int (f1 p1)), .val (.int (f1 p2)), .val (.int (f0_s0_29001 p3)), .val (.int (f0_s0_44002 p3)), .val (.ref b10), .val (.int (f0_e7 p0 p1 p2)), .val (.int (f6 (f0_e11 p0 p1 p2 p3) (f0_e12 p0 p1 p2 p3) (f0_e13 p0 p1 p2 p3))), .val (.int (f0_l12_395013 p0 p1 p2)), .val (.int (f0_l13_395014 p0 p1 p2)), .val (.int (f0_s0_405015 p0 p1 p2)), .unset] [(.int (f0_l12_395013 p0 p1 p2))])) _
          refine XS.ifNo X70.here hx rfl (hb hby at_430) rfl ((if0 _ _).trans (feq hc75).1) ?_
          show Steps p.tables e below (T70.setTop (mkF m 433 #[.val (.int p0), .val (.int p1), .val (.int p2), .val (.int p3), .val (.int (f1 p0)), .val (.int (f1 p1)), .val (.int (f1 p2)), .val (.int (f0_s0_29001 p3)), .val (.int (f0_s0_44002 p3)), .val (.ref b10), .val (.int (f0_e7 p0 p1 p2)), .val (.int (f6 (f0_e11 p0 p1 p2 p3) (f0_e12 p0 p1 p2 p3) (f0_e13 p0 p1 p2 p3))), .val (.int (f0_l12_395013 p0 p1 p2)), .val (.int (f0_l13_395014 p0 p1 p2)), .val (.int (f0_s0_405015 p0 p1 p2)), .unset] [])) _
          refine XS.iload X70.here hx rfl (hb hby at_433) rfl ?_
          show Steps p.tables e below (T70.setTop (mkF m 435 #[.val (.int p0), .val (.int p1), .val (.int p2), .val (.int p3), .val (.int (f1 p0)), .val (.int (f1 p1)), .val (.int (f1 p2)), .val (.int (f0_s0_29001 p3)), .val (.int (f0_s0_44002 p3)), .val (.ref b10), .val (.int (f0_e7 p0 p1 p2)), .val (.int (f6 (f0_e11 p0 p1 p2 p3) (f0_e12 p0 p1 p2 p3) (f0_e13 p0 p1 p2 p3))), .val (.int (f0_l12_395013 p0 p1 p2)), .val (.int (f0_l13_395014 p0 p1 p2)), .val (.int (f0_s0_405015 p0 p1 p2)), .unset] [(.int (f0_l12_395013 p0 p1 p2))])) _
          refine XS.iconst X70.here hx rfl (hb hby at_435) ?_
          show Steps p.tables e below (T70.setTop (mkF m 436 #[.val (.int p0), .val (.int p1), .val (.int p2), .val (.int p3), .val (.int (f1 p0)), .val (.int (f1 p1)), .val (.int (f1 p2)), .val (.int (f0_s0_29001 p3)), .val (.int (f0_s0_44002 p3)), .val (.ref b10), .val (.int (f0_e7 p0 p1 p2)), .val (.int (f6 (f0_e11 p0 p1 p2 p3) (f0_e12 p0 p1 p2 p3) (f0_e13 p0 p1 p2 p3))), .val (.int (f0_l12_395013 p0 p1 p2)), .val (.int (f0_l13_395014 p0 p1 p2)), .val (.int (f0_s0_405015 p0 p1 p2)), .unset] [(.int (2 : Int32)), (.int (f0_l12_395013 p0 p1 p2))])) _
          refine XS.icmpYes X70.here hx rfl (pc0 := 436) (pc' := 450) rfl (hb hby at_436) rfl (feq hc76).2 (by decide) (by decide) ?_
          show Steps p.tables e below (T70.setTop (mkF m 450 #[.val (.int p0), .val (.int p1), .val (.int p2), .val (.int p3), .val (.int (f1 p0)), .val (.int (f1 p1)), .val (.int (f1 p2)), .val (.int (f0_s0_29001 p3)), .val (.int (f0_s0_44002 p3)), .val (.ref b10), .val (.int (f0_e7 p0 p1 p2)), .val (.int (f6 (f0_e11 p0 p1 p2 p3) (f0_e12 p0 p1 p2 p3) (f0_e13 p0 p1 p2 p3))), .val (.int (f0_l12_395013 p0 p1 p2)), .val (.int (f0_l13_395014 p0 p1 p2)), .val (.int (f0_s0_405015 p0 p1 p2)), .unset] [])) _
          refine XS.iconst X70.here hx rfl (hb hby at_450) ?_
          exact kt
    have pre79 : ∀ t, Steps p.tables e below (T70.setTop (mkF m 457 #[.val (.int p0), .val (.int p1), .val (.int p2), .val (.int p3), .val (.int (f1 p0)), .val (.int (f1 p1)), .val (.int (f1 p2)), .val (.int (f0_s0_29001 p3)), .val (.int (f0_s0_44002 p3)), .val (.ref b10), .val (.int (f0_e7 p0 p1 p2)), .val (.int (f6 (f0_e11 p0 p1 p2 p3) (f0_e12 p0 p1 p2 p3) (f0_e13 p0 p1 p2 p3))), .val (.int (f0_l12_395013 p0 p1 p2)), .val (.int (f0_l13_395014 p0 p1 p2)), .val (.int (f0_s0_405015 p0 p1 p2)), .val (.int (f0_s0_451016 p0 p1 p2 p3))] [(.int (f0_s0_405015 p0 p1 p2)), (.int (f0_e7 p0 p1 p2))])) t → Steps p.tables e below (s₁.setTop (entryFrame m #[(.int p0), (.int p1), (.int p2), (.int p3)] maxLocals)) t := fun t kt => pre78 t (by
      show Steps p.tables e below (T70.setTop (mkF m 451 #[.val (.int p0), .val (.int p1), .val (.int p2), .val (.int p3), .val (.int (f1 p0)), .val (.int (f1 p1)), .val (.int (f1 p2)), .val (.int (f0_s0_29001 p3)), .val (.int (f0_s0_44002 p3)), .val (.ref b10), .val (.int (f0_e7 p0 p1 p2)), .val (.int (f6 (f0_e11 p0 p1 p2 p3) (f0_e12 p0 p1 p2 p3) (f0_e13 p0 p1 p2 p3))), .val (.int (f0_l12_395013 p0 p1 p2)), .val (.int (f0_l13_395014 p0 p1 p2)), .val (.int (f0_s0_405015 p0 p1 p2)), .unset] [(.int (f0_s0_451016 p0 p1 p2 p3))])) _
      refine XS.istore X70.here hx rfl (hb hby at_451) rfl (l' := #[.val (.int p0), .val (.int p1), .val (.int p2), .val (.int p3), .val (.int (f1 p0)), .val (.int (f1 p1)), .val (.int (f1 p2)), .val (.int (f0_s0_29001 p3)), .val (.int (f0_s0_44002 p3)), .val (.ref b10), .val (.int (f0_e7 p0 p1 p2)), .val (.int (f6 (f0_e11 p0 p1 p2 p3) (f0_e12 p0 p1 p2 p3) (f0_e13 p0 p1 p2 p3))), .val (.int (f0_l12_395013 p0 p1 p2)), .val (.int (f0_l13_395014 p0 p1 p2)), .val (.int (f0_s0_405015 p0 p1 p2)), .val (.int (f0_s0_451016 p0 p1 p2 p3))]) rfl ?_
      show Steps p.tables e below (T70.setTop (mkF m 453 #[.val (.int p0), .val (.int p1), .val (.int p2), .val (.int p3), .val (.int (f1 p0)), .val (.int (f1 p1)), .val (.int (f1 p2)), .val (.int (f0_s0_29001 p3)), .val (.int (f0_s0_44002 p3)), .val (.ref b10), .val (.int (f0_e7 p0 p1 p2)), .val (.int (f6 (f0_e11 p0 p1 p2 p3) (f0_e12 p0 p1 p2 p3) (f0_e13 p0 p1 p2 p3))), .val (.int (f0_l12_395013 p0 p1 p2)), .val (.int (f0_l13_395014 p0 p1 p2)), .val (.int (f0_s0_405015 p0 p1 p2)), .val (.int (f0_s0_451016 p0 p1 p2 p3))] [])) _
      refine XS.iload X70.here hx rfl (hb hby at_453) rfl ?_
      show Steps p.tables e below (T70.setTop (mkF m 455 #[.val (.int p0), .val (.int p1), .val (.int p2), .val (.int p3), .val (.int (f1 p0)), .val (.int (f1 p1)), .val (.int (f1 p2)), .val (.int (f0_s0_29001 p3)), .val (.int (f0_s0_44002 p3)), .val (.ref b10), .val (.int (f0_e7 p0 p1 p2)), .val (.int (f6 (f0_e11 p0 p1 p2 p3) (f0_e12 p0 p1 p2 p3) (f0_e13 p0 p1 p2 p3))), .val (.int (f0_l12_395013 p0 p1 p2)), .val (.int (f0_l13_395014 p0 p1 p2)), .val (.int (f0_s0_405015 p0 p1 p2)), .val (.int (f0_s0_451016 p0 p1 p2 p3))] [(.int (f0_e7 p0 p1 p2))])) _
      refine XS.iload X70.here hx rfl (hb hby at_455) rfl ?_
      exact kt)
    have pre82 : ∀ t, Steps p.tables e below (T70.setTop (mkF m 472 #[.val (.int p0), .val (.int p1), .val (.int p2), .val (.int p3), .val (.int (f1 p0)), .val (.int (f1 p1)), .val (.int (f1 p2)), .val (.int (f0_s0_29001 p3)), .val (.int (f0_s0_44002 p3)), .val (.ref b10), .val (.int (f0_e7 p0 p1 p2)), .val (.int (f6 (f0_e11 p0 p1 p2 p3) (f0_e12 p0 p1 p2 p3) (f0_e13 p0 p1 p2 p3))), .val (.int (f0_l12_395013 p0 p1 p2)), .val (.int (f0_l13_395014 p0 p1 p2)), .val (.int (f0_s0_405015 p0 p1 p2)), .val (.int (f0_s0_451016 p0 p1 p2 p3))] [(.int (f0_s0_472017 p0 p1 p2 p3))])) t → Steps p.tables e below (s₁.setTop (entryFrame m #[(.int p0), (.int p1), (.int p2), (.int p3)] maxLocals)) t := by
      intro t kt
      by_cases hc80 : (f0_e7 p0 p1 p2) = (f0_s0_405015 p0 p1 p2)
      · by_cases hc81 : (f6 (f0_e11 p0 p1 p2 p3) (f0_e12 p0 p1 p2 p3) (f0_e13 p0 p1 p2 p3)) = (f0_s0_451016 p0 p1 p2 p3)
        · have hj : (f0_s0_472017 p0 p1 p2 p3) = (1 : Int32) := by unfold f0_s0_472017; rw [if_pos hc80, if_pos hc81]
          rw [hj] at kt
          refine pre79 t ?_
          show Steps p.tables e below (T70.setTop (mkF m 457 #[.val (.int p0), .val (.int p1), .val (.int p2), .val (.int p3), .val (.int (f1 p0)), .val (.int (f1 p1)), .val (.int (f1 p2)), .val (.int (f0_s0_29001 p3)), .val (.int (f0_s0_44002 p3)), .val (.ref b10), .val (.int (f0_e7 p0 p1 p2)), .val (.int (f6 (f0_e11 p0 p1 p2 p3) (f0_e12 p0 p1 p2 p3) (f0_e13 p0 p1 p2 p3))), .val (.int (f0_l12_395013 p0 p1 p2)), .val (.int (f0_l13_395014 p0 p1 p2)), .val (.int (f0_s0_405015 p0 p1 p2)), .val (.int (f0_s0_451016 p0 p1 p2 p3))] [(.int (f0_s0_405015 p0 p1 p2)), (.int (f0_e7 p0 p1 p2))])) _
          refine XS.icmpNo X70.here hx rfl (hb hby at_457) rfl (teq hc80).2 ?_
          show Steps p.tables e below (T70.setTop (mkF m 460 #[.val (.int p0), .val (.int p1), .val (.int p2), .val (.int p3), .val (.int (f1 p0)), .val (.int (f1 p1)), .val (.int (f1 p2)), .val (.int (f0_s0_29001 p3)), .val (.int (f0_s0_44002 p3)), .val (.ref b10), .val (.int (f0_e7 p0 p1 p2)), .val (.int (f6 (f0_e11 p0 p1 p2 p3) (f0_e12 p0 p1 p2 p3) (f0_e13 p0 p1 p2 p3))), .val (.int (f0_l12_395013 p0 p1 p2)), .val (.int (f0_l13_395014 p0 p1 p2)), .val (.int (f0_s0_405015 p0 p1 p2)), .val (.int (f0_s0_451016 p0 p1 p2 p3))] [])) _
          refine XS.iload X70.here hx rfl (hb hby at_460) rfl ?_
          show Steps p.tables e below (T70.setTop (mkF m 462 #[.val (.int p0), .val (.int p1), .val (.int p2), .val (.int p3), .val (.int (f1 p0)), .val (.int (f1 p1)), .val (.int (f1 p2)), .val (.int (f0_s0_29001 p3)), .val (.int (f0_s0_44002 p3)), .val (.ref b10), .val (.int (f0_e7 p0 p1 p2)), .val (.int (f6 (f0_e11 p0 p1 p2 p3) (f0_e12 p0 p1 p2 p3) (f0_e13 p0 p1 p2 p3))), .val (.int (f0_l12_395013 p0 p1 p2)), .val (.int (f0_l13_395014 p0 p1 p2)), .val (.int (f0_s0_405015 p0 p1 p2)), .val (.int (f0_s0_451016 p0 p1 p2 p3))] [(.int (f6 (f0_e11 p0 p1 p2 p3) (f0_e12 p0 p1 p2 p3) (f0_e13 p0 p1 p2 p3)))])) _
          refine XS.iload X70.here hx rfl (hb hby at_462) rfl ?_
          show Steps p.tables e below (T70.setTop (mkF m 464 #[.val (.int p0), .val (.int p1), .val (.int p2), .val (.int p3), .val (.int (f1 p0)), .val (.int (f1 p1)), .val (.int (f1 p2)), .val (.int (f0_s0_29001 p3)), .val (.int (f0_s0_44002 p3)), .val (.ref b10), .val (.int (f0_e7 p0 p1 p2)), .val (.int (f6 (f0_e11 p0 p1 p2 p3) (f0_e12 p0 p1 p2 p3) (f0_e13 p0 p1 p2 p3))), .val (.int (f0_l12_395013 p0 p1 p2)), .val (.int (f0_l13_395014 p0 p1 p2)), .val (.int (f0_s0_405015 p0 p1 p2)), .val (.int (f0_s0_451016 p0 p1 p2 p3))] [(.int (f0_s0_451016 p0 p1 p2 p3)), (.int (f6 (f0_e11 p0 p1 p2 p3) (f0_e12 p0 p1 p2 p3) (f0_e13 p0 p1 p2 p3)))])) _
          refine XS.icmpNo X70.here hx rfl (hb hby at_464) rfl (teq hc81).2 ?_
          show Steps p.tables e below (T70.setTop (mkF m 467 #[.val (.int p0), .val (.int p1), .val (.int p2), .val (.int p3), .val (.int (f1 p0)), .val (.int (f1 p1)), .val (.int (f1 p2)), .val (.int (f0_s0_29001 p3)), .val (.int (f0_s0_44002 p3)), .val (.ref b10), .val (.int (f0_e7 p0 p1 p2)), .val (.int (f6 (f0_e11 p0 p1 p2 p3) (f0_e12 p0 p1 p2 p3) (f0_e13 p0 p1 p2 p3))), .val (.int (f0_l12_395013 p0 p1 p2)), .val (.int (f0_l13_395014 p0 p1 p2)), .val (.int (f0_s0_405015 p0 p1 p2)), .val (.int (f0_s0_451016 p0 p1 p2 p3))] [])) _
          refine XS.iconst X70.here hx rfl (hb hby at_467) ?_
          show Steps p.tables e below (T70.setTop (mkF m 468 #[.val (.int p0), .val (.int p1), .val (.int p2), .val (.int p3), .val (.int (f1 p0)), .val (.int (f1 p1)), .val (.int (f1 p2)), .val (.int (f0_s0_29001 p3)), .val (.int (f0_s0_44002 p3)), .val (.ref b10), .val (.int (f0_e7 p0 p1 p2)), .val (.int (f6 (f0_e11 p0 p1 p2 p3) (f0_e12 p0 p1 p2 p3) (f0_e13 p0 p1 p2 p3))), .val (.int (f0_l12_395013 p0 p1 p2)), .val (.int (f0_l13_395014 p0 p1 p2)), .val (.int (f0_s0_405015 p0 p1 p2)), .val (.int (f0_s0_451016 p0 p1 p2 p3))] [(.int (1 : Int32))])) _
          refine XS.goto X70.here hx rfl (pc0 := 468) (pc' := 472) rfl (hb hby at_468) (by decide) (by decide) ?_
          exact kt
        · have hj : (f0_s0_472017 p0 p1 p2 p3) = (0 : Int32) := by unfold f0_s0_472017; rw [if_pos hc80, if_neg hc81]
          rw [hj] at kt
          refine pre79 t ?_
          show Steps p.tables e below (T70.setTop (mkF m 457 #[.val (.int p0), .val (.int p1), .val (.int p2), .val (.int p3), .val (.int (f1 p0)), .val (.int (f1 p1)), .val (.int (f1 p2)), .val (.int (f0_s0_29001 p3)), .val (.int (f0_s0_44002 p3)), .val (.ref b10), .val (.int (f0_e7 p0 p1 p2)), .val (.int (f6 (f0_e11 p0 p1 p2 p3) (f0_e12 p0 p1 p2 p3) (f0_e13 p0 p1 p2 p3))), .val (.int (f0_l12_395013 p0 p1 p2)), .val (.int (f0_l13_395014 p0 p1 p2)), .val (.int (f0_s0_405015 p0 p1 p2)), .val (.int (f0_s0_451016 p0 p1 p2 p3))] [(.int (f0_s0_405015 p0 p1 p2)), (.int (f0_e7 p0 p1 p2))])) _
          refine XS.icmpNo X70.here hx rfl (hb hby at_457) rfl (teq hc80).2 ?_
          show Steps p.tables e below (T70.setTop (mkF m 460 #[.val (.int p0), .val (.int p1), .val (.int p2), .val (.int p3), .val (.int (f1 p0)), .val (.int (f1 p1)), .val (.int (f1 p2)), .val (.int (f0_s0_29001 p3)), .val (.int (f0_s0_44002 p3)), .val (.ref b10), .val (.int (f0_e7 p0 p1 p2)), .val (.int (f6 (f0_e11 p0 p1 p2 p3) (f0_e12 p0 p1 p2 p3) (f0_e13 p0 p1 p2 p3))), .val (.int (f0_l12_395013 p0 p1 p2)), .val (.int (f0_l13_395014 p0 p1 p2)), .val (.int (f0_s0_405015 p0 p1 p2)), .val (.int (f0_s0_451016 p0 p1 p2 p3))] [])) _
          refine XS.iload X70.here hx rfl (hb hby at_460) rfl ?_
          show Steps p.tables e below (T70.setTop (mkF m 462 #[.val (.int p0), .val (.int p1), .val (.int p2), .val (.int p3), .val (.int (f1 p0)), .val (.int (f1 p1)), .val (.int (f1 p2)), .val (.int (f0_s0_29001 p3)), .val (.int (f0_s0_44002 p3)), .val (.ref b10), .val (.int (f0_e7 p0 p1 p2)), .val (.int (f6 (f0_e11 p0 p1 p2 p3) (f0_e12 p0 p1 p2 p3) (f0_e13 p0 p1 p2 p3))), .val (.int (f0_l12_395013 p0 p1 p2)), .val (.int (f0_l13_395014 p0 p1 p2)), .val (.int (f0_s0_405015 p0 p1 p2)), .val (.int (f0_s0_451016 p0 p1 p2 p3))] [(.int (f6 (f0_e11 p0 p1 p2 p3) (f0_e12 p0 p1 p2 p3) (f0_e13 p0 p1 p2 p3)))])) _
          refine XS.iload X70.here hx rfl (hb hby at_462) rfl ?_
          show Steps p.tables e below (T70.setTop (mkF m 464 #[.val (.int p0), .val (.int p1), .val (.int p2), .val (.int p3), .val (.int (f1 p0)), .val (.int (f1 p1)), .val (.int (f1 p2)), .val (.int (f0_s0_29001 p3)), .val (.int (f0_s0_44002 p3)), .val (.ref b10), .val (.int (f0_e7 p0 p1 p2)), .val (.int (f6 (f0_e11 p0 p1 p2 p3) (f0_e12 p0 p1 p2 p3) (f0_e13 p0 p1 p2 p3))), .val (.int (f0_l12_395013 p0 p1 p2)), .val (.int (f0_l13_395014 p0 p1 p2)), .val (.int (f0_s0_405015 p0 p1 p2)), .val (.int (f0_s0_451016 p0 p1 p2 p3))] [(.int (f0_s0_451016 p0 p1 p2 p3)), (.int (f6 (f0_e11 p0 p1 p2 p3) (f0_e12 p0 p1 p2 p3) (f0_e13 p0 p1 p2 p3)))])) _
          refine XS.icmpYes X70.here hx rfl (pc0 := 464) (pc' := 471) rfl (hb hby at_464) rfl (feq hc81).2 (by decide) (by decide) ?_
          show Steps p.tables e below (T70.setTop (mkF m 471 #[.val (.int p0), .val (.int p1), .val (.int p2), .val (.int p3), .val (.int (f1 p0)), .val (.int (f1 p1)), .val (.int (f1 p2)), .val (.int (f0_s0_29001 p3)), .val (.int (f0_s0_44002 p3)), .val (.ref b10), .val (.int (f0_e7 p0 p1 p2)), .val (.int (f6 (f0_e11 p0 p1 p2 p3) (f0_e12 p0 p1 p2 p3) (f0_e13 p0 p1 p2 p3))), .val (.int (f0_l12_395013 p0 p1 p2)), .val (.int (f0_l13_395014 p0 p1 p2)), .val (.int (f0_s0_405015 p0 p1 p2)), .val (.int (f0_s0_451016 p0 p1 p2 p3))] [])) _
          refine XS.iconst X70.here hx rfl (hb hby at_471) ?_
          exact kt
      · have hj : (f0_s0_472017 p0 p1 p2 p3) = (0 : Int32) := by unfold f0_s0_472017; rw [if_neg hc80]
        rw [hj] at kt
        refine pre79 t ?_
        show Steps p.tables e below (T70.setTop (mkF m 457 #[.val (.int p0), .val (.int p1), .val (.int p2), .val (.int p3), .val (.int (f1 p0)), .val (.int (f1 p1)), .val (.int (f1 p2)), .val (.int (f0_s0_29001 p3)), .val (.int (f0_s0_44002 p3)), .val (.ref b10), .val (.int (f0_e7 p0 p1 p2)), .val (.int (f6 (f0_e11 p0 p1 p2 p3) (f0_e12 p0 p1 p2 p3) (f0_e13 p0 p1 p2 p3))), .val (.int (f0_l12_395013 p0 p1 p2)), .val (.int (f0_l13_395014 p0 p1 p2)), .val (.int (f0_s0_405015 p0 p1 p2)), .val (.int (f0_s0_451016 p0 p1 p2 p3))] [(.int (f0_s0_405015 p0 p1 p2)), (.int (f0_e7 p0 p1 p2))])) _
        refine XS.icmpYes X70.here hx rfl (pc0 := 457) (pc' := 471) rfl (hb hby at_457) rfl (feq hc80).2 (by decide) (by decide) ?_
        show Steps p.tables e below (T70.setTop (mkF m 471 #[.val (.int p0), .val (.int p1), .val (.int p2), .val (.int p3), .val (.int (f1 p0)), .val (.int (f1 p1)), .val (.int (f1 p2)), .val (.int (f0_s0_29001 p3)), .val (.int (f0_s0_44002 p3)), .val (.ref b10), .val (.int (f0_e7 p0 p1 p2)), .val (.int (f6 (f0_e11 p0 p1 p2 p3) (f0_e12 p0 p1 p2 p3) (f0_e13 p0 p1 p2 p3))), .val (.int (f0_l12_395013 p0 p1 p2)), .val (.int (f0_l13_395014 p0 p1 p2)), .val (.int (f0_s0_405015 p0 p1 p2)), .val (.int (f0_s0_451016 p0 p1 p2 p3))] [])) _
        refine XS.iconst X70.here hx rfl (hb hby at_471) ?_
        exact kt
    obtain ⟨fs, hr, hrun, hended, hW, hsame⟩ := X70.leave (v := some (.int ((f0_s0_472017 p0 p1 p2 p3) &&& 1))) (fun h => by rw [Bd.returns] at h; cases h)
    refine ⟨_, _, pre82 _ ?_, hrun, hended, _, _, rfl, ?_, ⟨_, rfl⟩, hW, hsame.mono (by decide) (by decide)⟩
    · show Steps p.tables e below (T70.setTop (mkF m 472 #[.val (.int p0), .val (.int p1), .val (.int p2), .val (.int p3), .val (.int (f1 p0)), .val (.int (f1 p1)), .val (.int (f1 p2)), .val (.int (f0_s0_29001 p3)), .val (.int (f0_s0_44002 p3)), .val (.ref b10), .val (.int (f0_e7 p0 p1 p2)), .val (.int (f6 (f0_e11 p0 p1 p2 p3) (f0_e12 p0 p1 p2 p3) (f0_e13 p0 p1 p2 p3))), .val (.int (f0_l12_395013 p0 p1 p2)), .val (.int (f0_l13_395014 p0 p1 p2)), .val (.int (f0_s0_405015 p0 p1 p2)), .val (.int (f0_s0_451016 p0 p1 p2 p3))] [(.int (f0_s0_472017 p0 p1 p2 p3))])) _
      exact retN X70 hx (t := .boolean) Bd.returns (by simp) (hb hby at_472) hr
    · show Q0 Z p0 p1 p2 p3 h0 n0 _ T70.heap _
      rw [e70]
      exact ⟨by rw [show f0 p0 p1 p2 p3 = ((f0_s0_472017 p0 p1 p2 p3) &&& 1) from by unfold f0; rw [if_pos hc18]], N70⟩
  · obtain ⟨cq83, kq83, q83a, q83b, q83c⟩ := isOf hZ e16 E15q
    obtain ⟨_, _, ⟨T83, L83, k83, n83⟩, -, X83, ⟨Lc83, hQ83, l83, y83, z83⟩, st83⟩ := X16.virtualBack hx (y := (⟨"com/example/libinterp/libinterp/PathParser$SelectorScan", "read", "(C)V"⟩ : MethodName)) (z := (⟨"com/example/libinterp/libinterp/PathParser$SelectorScan", "read", "(C)V"⟩ : MethodName)) hown (mvT hZ (hw _ (List.mem_of_getElem? (i := 15) rfl))) (mvT hZ (hw _ (List.mem_of_getElem? (i := 16) rfl))) (notFace_of_selects (args := #[]) (mvT hZ (hw _ (List.mem_of_getElem? (i := 18) rfl)))) (mvT hZ (hw _ (List.mem_of_getElem? (i := 18) rfl))) (mvT hZ (hw _ (List.mem_of_getElem? (i := 17) rfl))) (by decide) (backOf (W := 0) (rm4 l Z a0 hw [] b10 (93 : Int32) (f4_quote (f1 p2) (f0_e4 p0 p1) (f0_e5 p0 p1) (f0_e6 p0 p1)) (f4_inSelector (f1 p2) (f0_e4 p0 p1) (f0_e5 p0 p1) (f0_e6 p0 p1)) (f4_escaping (f1 p2) (f0_e4 p0 p1) (f0_e5 p0 p1) (f0_e6 p0 p1)) T15.heap n0 Zz15 E15q gn_b10 F15q_quote F15q_inSelector F15q_escaping) hZ (hw _ (List.mem_of_getElem? (i := 19) rfl)) (hw _ (List.mem_of_getElem? (i := 6) rfl)) (by decide) (by decide)) q83a q83c (g := (mkF m 106 #[.val (.int p0), .val (.int p1), .val (.int p2), .val (.int p3), .val (.int (f1 p0)), .val (.int (f1 p1)), .val (.int (f1 p2)), .val (.int (f0_s0_29001 p3)), .val (.int (f0_s0_44002 p3)), .val (.ref b10), .val (.int (f0_e7 p0 p1 p2)), .unset, .unset, .unset, .unset, .unset] [(.int (93 : Int32)), (.ref b10)])) rfl (by rw [hml]; rfl) (Steps.refl _) (argsL := [(.int (93 : Int32))]) (rest := []) (lenOf pd_1 rfl) rfl (by show 2 * 0 + _ ≤ _; exact Nat.le_of_eq rfl) (hb hby at_106) (fun _ _ => ⟨rfl, e16, (by decide : 1 + 0 ≤ _), (by decide : 3 + 0 ≤ _)⟩)
    dsimp only [Pt.U, Pt.locs, Pt.cells, Pt.slots] at X83 l83 y83 z83 st83 hQ83
    subst l83 y83 z83
    obtain ⟨rfl, N83q, K83q, E83q, F83q_quote, F83q_inSelector, F83q_escaping⟩ := hQ83
    have F83n_quote : Fld Z T83.heap b10 "com/example/libinterp/libinterp/PathParser$SelectorScan" "quote" "C" (.int (f0_e14 p0 p1 p2)) := F83q_quote
    have F83n_inSelector : Fld Z T83.heap b10 "com/example/libinterp/libinterp/PathParser$SelectorScan" "inSelector" "Z" (.int (f0_e15 p0 p1 p2)) := F83q_inSelector
    have F83n_escaping : Fld Z T83.heap b10 "com/example/libinterp/libinterp/PathParser$SelectorScan" "escaping" "Z" (.int (f0_e16 p0 p1 p2)) := F83q_escaping
    have Zz83 := Nat.le_trans Zz15 K83q.1
    have K83 : Keep h0 T83.heap [] := K15.trans K83q (allS (Or.inr sz_b10) all0)
    have N83 := Fr.app N16 N83q
    obtain ⟨cq84, kq84, q84a, q84b, q84c⟩ := isOf hZ rfl E83q
    obtain ⟨_, _, ⟨T84, L84, k84, n84⟩, -, X84, ⟨Lc84, hQ84, l84, y84, z84⟩, st84⟩ := X83.virtualBack hx (y := (⟨"com/example/libinterp/libinterp/PathParser$SelectorScan", "isOutside", "()Z"⟩ : MethodName)) (z := (⟨"com/example/libinterp/libinterp/PathParser$SelectorScan", "isOutside", "()Z"⟩ : MethodName)) hown (mvT hZ (hw _ (List.mem_of_getElem? (i := 26) rfl))) (mvT hZ (hw _ (List.mem_of_getElem? (i := 27) rfl))) (notFace_of_selects (args := #[]) (mvT hZ (hw _ (List.mem_of_getElem? (i := 29) rfl)))) (mvT hZ (hw _ (List.mem_of_getElem? (i := 29) rfl))) (mvT hZ (hw _ (List.mem_of_getElem? (i := 28) rfl))) (by decide) (backOf (W := 0) (rm6 l Z a0 hw [] b10 (f0_e14 p0 p1 p2) (f0_e15 p0 p1 p2) (f0_e16 p0 p1 p2) T83.heap n0 Zz83 E83q gn_b10 F83n_quote F83n_inSelector F83n_escaping) hZ (hw _ (List.mem_of_getElem? (i := 30) rfl)) (hw _ (List.mem_of_getElem? (i := 6) rfl)) (by decide) (by decide)) q84a q84c (g := (mkF m 111 #[.val (.int p0), .val (.int p1), .val (.int p2), .val (.int p3), .val (.int (f1 p0)), .val (.int (f1 p1)), .val (.int (f1 p2)), .val (.int (f0_s0_29001 p3)), .val (.int (f0_s0_44002 p3)), .val (.ref b10), .val (.int (f0_e7 p0 p1 p2)), .unset, .unset, .unset, .unset, .unset] [(.ref b10)])) rfl (by rw [hml]; rfl) (Steps.refl _) (argsL := []) (rest := []) (lenOf pd_4 rfl) rfl (by show 2 * 0 + _ ≤ _; exact Nat.le_of_eq rfl) (hb hby at_111) (fun _ _ => ⟨rfl, rfl, (by decide : 1 + 0 ≤ _), (by decide : 3 + 0 ≤ _)⟩)
    dsimp only [Pt.U, Pt.locs, Pt.cells, Pt.slots] at X84 l84 y84 z84 st84 hQ84
    subst l84 y84 z84
    obtain ⟨rfl, N84q, e84⟩ := hQ84
    have N84 := Fr.app N83 N84q
    have pre85 : ∀ t, Steps p.tables e below (T84.setTop (mkF m 124 #[.val (.int p0), .val (.int p1), .val (.int p2), .val (.int p3), .val (.int (f1 p0)), .val (.int (f1 p1)), .val (.int (f1 p2)), .val (.int (f0_s0_29001 p3)), .val (.int (f0_s0_44002 p3)), .val (.ref b10), .val (.int (f0_e7 p0 p1 p2)), .val (.int (f6 (f0_e14 p0 p1 p2) (f0_e15 p0 p1 p2) (f0_e16 p0 p1 p2))), .unset, .val (.int (32 : Int32)), .unset, .unset] [(.int (93 : Int32)), (.int (f1 p0))])) t → Steps p.tables e below (s₁.setTop (entryFrame m #[(.int p0), (.int p1), (.int p2), (.int p3)] maxLocals)) t := fun t kt => pre17 t (by
      show Steps p.tables e below (T16.setTop (mkF m 92 #[.val (.int p0), .val (.int p1), .val (.int p2), .val (.int p3), .val (.int (f1 p0)), .val (.int (f1 p1)), .val (.int (f1 p2)), .val (.int (f0_s0_29001 p3)), .val (.int (f0_s0_44002 p3)), .val (.ref b10), .val (.int (f0_e7 p0 p1 p2)), .unset, .unset, .unset, .unset, .unset] [(.int (f0_s0_29001 p3))])) _
      refine XS.ifYes X16.here hx rfl (pc0 := 92) (pc' := 102) rfl (hb hby at_92) rfl ((if0 _ _).trans (feq hc18).2) (by decide) (by decide) ?_
      show Steps p.tables e below (T16.setTop (mkF m 102 #[.val (.int p0), .val (.int p1), .val (.int p2), .val (.int p3), .val (.int (f1 p0)), .val (.int (f1 p1)), .val (.int (f1 p2)), .val (.int (f0_s0_29001 p3)), .val (.int (f0_s0_44002 p3)), .val (.ref b10), .val (.int (f0_e7 p0 p1 p2)), .unset, .unset, .unset, .unset, .unset] [])) _
      refine XS.aload X16.here hx rfl (hb hby at_102) rfl rfl ?_
      show Steps p.tables e below (T16.setTop (mkF m 104 #[.val (.int p0), .val (.int p1), .val (.int p2), .val (.int p3), .val (.int (f1 p0)), .val (.int (f1 p1)), .val (.int (f1 p2)), .val (.int (f0_s0_29001 p3)), .val (.int (f0_s0_44002 p3)), .val (.ref b10), .val (.int (f0_e7 p0 p1 p2)), .unset, .unset, .unset, .unset, .unset] [(.ref b10)])) _
      refine XS.bipush X16.here hx rfl (hb hby at_104) ?_
      show Steps p.tables e below (T16.setTop (mkF m 106 #[.val (.int p0), .val (.int p1), .val (.int p2), .val (.int p3), .val (.int (f1 p0)), .val (.int (f1 p1)), .val (.int (f1 p2)), .val (.int (f0_s0_29001 p3)), .val (.int (f0_s0_44002 p3)), .val (.ref b10), .val (.int (f0_e7 p0 p1 p2)), .unset, .unset, .unset, .unset, .unset] [(.int (93 : Int32)), (.ref b10)])) _
      refine st83.trans ?_
      show Steps p.tables e below (T83.setTop (mkF m 109 #[.val (.int p0), .val (.int p1), .val (.int p2), .val (.int p3), .val (.int (f1 p0)), .val (.int (f1 p1)), .val (.int (f1 p2)), .val (.int (f0_s0_29001 p3)), .val (.int (f0_s0_44002 p3)), .val (.ref b10), .val (.int (f0_e7 p0 p1 p2)), .unset, .unset, .unset, .unset, .unset] [])) _
      refine XS.aload X83.here hx rfl (hb hby at_109) rfl rfl ?_
      show Steps p.tables e below (T83.setTop (mkF m 111 #[.val (.int p0), .val (.int p1), .val (.int p2), .val (.int p3), .val (.int (f1 p0)), .val (.int (f1 p1)), .val (.int (f1 p2)), .val (.int (f0_s0_29001 p3)), .val (.int (f0_s0_44002 p3)), .val (.ref b10), .val (.int (f0_e7 p0 p1 p2)), .unset, .unset, .unset, .unset, .unset] [(.ref b10)])) _
      refine st84.trans ?_
      show Steps p.tables e below (T84.setTop (mkF m 114 #[.val (.int p0), .val (.int p1), .val (.int p2), .val (.int p3), .val (.int (f1 p0)), .val (.int (f1 p1)), .val (.int (f1 p2)), .val (.int (f0_s0_29001 p3)), .val (.int (f0_s0_44002 p3)), .val (.ref b10), .val (.int (f0_e7 p0 p1 p2)), .unset, .unset, .unset, .unset, .unset] [(.int (f6 (f0_e14 p0 p1 p2) (f0_e15 p0 p1 p2) (f0_e16 p0 p1 p2)))])) _
      refine XS.istore X84.here hx rfl (hb hby at_114) rfl (l' := #[.val (.int p0), .val (.int p1), .val (.int p2), .val (.int p3), .val (.int (f1 p0)), .val (.int (f1 p1)), .val (.int (f1 p2)), .val (.int (f0_s0_29001 p3)), .val (.int (f0_s0_44002 p3)), .val (.ref b10), .val (.int (f0_e7 p0 p1 p2)), .val (.int (f6 (f0_e14 p0 p1 p2) (f0_e15 p0 p1 p2) (f0_e16 p0 p1 p2))), .unset, .unset, .unset, .unset]) rfl ?_
      show Steps p.tables e below (T84.setTop (mkF m 116 #[.val (.int p0), .val (.int p1), .val (.int p2), .val (.int p3), .val (.int (f1 p0)), .val (.int (f1 p1)), .val (.int (f1 p2)), .val (.int (f0_s0_29001 p3)), .val (.int (f0_s0_44002 p3)), .val (.ref b10), .val (.int (f0_e7 p0 p1 p2)), .val (.int (f6 (f0_e14 p0 p1 p2) (f0_e15 p0 p1 p2) (f0_e16 p0 p1 p2))), .unset, .unset, .unset, .unset] [])) _
      refine XS.bipush X84.here hx rfl (hb hby at_116) ?_
      show Steps p.tables e below (T84.setTop (mkF m 118 #[.val (.int p0), .val (.int p1), .val (.int p2), .val (.int p3), .val (.int (f1 p0)), .val (.int (f1 p1)), .val (.int (f1 p2)), .val (.int (f0_s0_29001 p3)), .val (.int (f0_s0_44002 p3)), .val (.ref b10), .val (.int (f0_e7 p0 p1 p2)), .val (.int (f6 (f0_e14 p0 p1 p2) (f0_e15 p0 p1 p2) (f0_e16 p0 p1 p2))), .unset, .unset, .unset, .unset] [(.int (32 : Int32))])) _
      refine XS.istore X84.here hx rfl (hb hby at_118) rfl (l' := #[.val (.int p0), .val (.int p1), .val (.int p2), .val (.int p3), .val (.int (f1 p0)), .val (.int (f1 p1)), .val (.int (f1 p2)), .val (.int (f0_s0_29001 p3)), .val (.int (f0_s0_44002 p3)), .val (.ref b10), .val (.int (f0_e7 p0 p1 p2)), .val (.int (f6 (f0_e14 p0 p1 p2) (f0_e15 p0 p1 p2) (f0_e16 p0 p1 p2))), .unset, .val (.int (32 : Int32)), .unset, .unset]) rfl ?_
      show Steps p.tables e below (T84.setTop (mkF m 120 #[.val (.int p0), .val (.int p1), .val (.int p2), .val (.int p3), .val (.int (f1 p0)), .val (.int (f1 p1)), .val (.int (f1 p2)), .val (.int (f0_s0_29001 p3)), .val (.int (f0_s0_44002 p3)), .val (.ref b10), .val (.int (f0_e7 p0 p1 p2)), .val (.int (f6 (f0_e14 p0 p1 p2) (f0_e15 p0 p1 p2) (f0_e16 p0 p1 p2))), .unset, .val (.int (32 : Int32)), .unset, .unset] [])) _
      refine XS.iload X84.here hx rfl (hb hby at_120) rfl ?_
      show Steps p.tables e below (T84.setTop (mkF m 122 #[.val (.int p0), .val (.int p1), .val (.int p2), .val (.int p3), .val (.int (f1 p0)), .val (.int (f1 p1)), .val (.int (f1 p2)), .val (.int (f0_s0_29001 p3)), .val (.int (f0_s0_44002 p3)), .val (.ref b10), .val (.int (f0_e7 p0 p1 p2)), .val (.int (f6 (f0_e14 p0 p1 p2) (f0_e15 p0 p1 p2) (f0_e16 p0 p1 p2))), .unset, .val (.int (32 : Int32)), .unset, .unset] [(.int (f1 p0))])) _
      refine XS.bipush X84.here hx rfl (hb hby at_122) ?_
      exact kt)
    obtain ⟨T133, L133, X133, e133, N133, pre133⟩ : ∃ (T' : State) (L' : List Loc), Stand p l e room_1 s m #[(.int p0), (.int p1), (.int p2), (.int p3)] below meth c T' L' 1 3 ∧ T'.heap = T83.heap ∧ Fr n0 L' ∧ ∀ t, Steps p.tables e below (T'.setTop (mkF m 395 #[.val (.int p0), .val (.int p1), .val (.int p2), .val (.int p3), .val (.int (f1 p0)), .val (.int (f1 p1)), .val (.int (f1 p2)), .val (.int (f0_s0_29001 p3)), .val (.int (f0_s0_44002 p3)), .val (.ref b10), .val (.int (f0_e7 p0 p1 p2)), .val (.int (f6 (f0_e14 p0 p1 p2) (f0_e15 p0 p1 p2) (f0_e16 p0 p1 p2))), .val (.int (f0_l12_395028 p0 p1 p2)), .val (.int (f0_l13_395029 p0 p1 p2)), .unset, .unset] [])) t → Steps p.tables e below (s₁.setTop (entryFrame m #[(.int p0), (.int p1), (.int p2), (.int p3)] maxLocals)) t := by
      by_cases hc86 : (f1 p0) = (93 : Int32)
      · have pre87 : ∀ t, Steps p.tables e below (T84.setTop (mkF m 131 #[.val (.int p0), .val (.int p1), .val (.int p2), .val (.int p3), .val (.int (f1 p0)), .val (.int (f1 p1)), .val (.int (f1 p2)), .val (.int (f0_s0_29001 p3)), .val (.int (f0_s0_44002 p3)), .val (.ref b10), .val (.int (f0_e7 p0 p1 p2)), .val (.int (f6 (f0_e14 p0 p1 p2) (f0_e15 p0 p1 p2) (f0_e16 p0 p1 p2))), .unset, .val (.int (32 : Int32)), .unset, .unset] [(.int (91 : Int32)), (.int (f1 p1))])) t → Steps p.tables e below (s₁.setTop (entryFrame m #[(.int p0), (.int p1), (.int p2), (.int p3)] maxLocals)) t := fun t kt => pre85 t (by
          show Steps p.tables e below (T84.setTop (mkF m 124 #[.val (.int p0), .val (.int p1), .val (.int p2), .val (.int p3), .val (.int (f1 p0)), .val (.int (f1 p1)), .val (.int (f1 p2)), .val (.int (f0_s0_29001 p3)), .val (.int (f0_s0_44002 p3)), .val (.ref b10), .val (.int (f0_e7 p0 p1 p2)), .val (.int (f6 (f0_e14 p0 p1 p2) (f0_e15 p0 p1 p2) (f0_e16 p0 p1 p2))), .unset, .val (.int (32 : Int32)), .unset, .unset] [(.int (93 : Int32)), (.int (f1 p0))])) _
          refine XS.icmpNo X84.here hx rfl (hb hby at_124) rfl (teq hc86).2 ?_
          show Steps p.tables e below (T84.setTop (mkF m 127 #[.val (.int p0), .val (.int p1), .val (.int p2), .val (.int p3), .val (.int (f1 p0)), .val (.int (f1 p1)), .val (.int (f1 p2)), .val (.int (f0_s0_29001 p3)), .val (.int (f0_s0_44002 p3)), .val (.ref b10), .val (.int (f0_e7 p0 p1 p2)), .val (.int (f6 (f0_e14 p0 p1 p2) (f0_e15 p0 p1 p2) (f0_e16 p0 p1 p2))), .unset, .val (.int (32 : Int32)), .unset, .unset] [])) _
          refine XS.iload X84.here hx rfl (hb hby at_127) rfl ?_
          show Steps p.tables e below (T84.setTop (mkF m 129 #[.val (.int p0), .val (.int p1), .val (.int p2), .val (.int p3), .val (.int (f1 p0)), .val (.int (f1 p1)), .val (.int (f1 p2)), .val (.int (f0_s0_29001 p3)), .val (.int (f0_s0_44002 p3)), .val (.ref b10), .val (.int (f0_e7 p0 p1 p2)), .val (.int (f6 (f0_e14 p0 p1 p2) (f0_e15 p0 p1 p2) (f0_e16 p0 p1 p2))), .unset, .val (.int (32 : Int32)), .unset, .unset] [(.int (f1 p1))])) _
          refine XS.bipush X84.here hx rfl (hb hby at_129) ?_
          exact kt)
        by_cases hc88 : (f1 p1) = (91 : Int32)
        · have pre89 : ∀ t, Steps p.tables e below (T84.setTop (mkF m 138 #[.val (.int p0), .val (.int p1), .val (.int p2), .val (.int p3), .val (.int (f1 p0)), .val (.int (f1 p1)), .val (.int (f1 p2)), .val (.int (f0_s0_29001 p3)), .val (.int (f0_s0_44002 p3)), .val (.ref b10), .val (.int (f0_e7 p0 p1 p2)), .val (.int (f6 (f0_e14 p0 p1 p2) (f0_e15 p0 p1 p2) (f0_e16 p0 p1 p2))), .unset, .val (.int (32 : Int32)), .unset, .unset] [(.int (93 : Int32)), (.int (f1 p2))])) t → Steps p.tables e below (s₁.setTop (entryFrame m #[(.int p0), (.int p1), (.int p2), (.int p3)] maxLocals)) t := fun t kt => pre87 t (by
            show Steps p.tables e below (T84.setTop (mkF m 131 #[.val (.int p0), .val (.int p1), .val (.int p2), .val (.int p3), .val (.int (f1 p0)), .val (.int (f1 p1)), .val (.int (f1 p2)), .val (.int (f0_s0_29001 p3)), .val (.int (f0_s0_44002 p3)), .val (.ref b10), .val (.int (f0_e7 p0 p1 p2)), .val (.int (f6 (f0_e14 p0 p1 p2) (f0_e15 p0 p1 p2) (f0_e16 p0 p1 p2))), .unset, .val (.int (32 : Int32)), .unset, .unset] [(.int (91 : Int32)), (.int (f1 p1))])) _
            refine XS.icmpNo X84.here hx rfl (hb hby at_131) rfl (teq hc88).2 ?_
            show Steps p.tables e below (T84.setTop (mkF m 134 #[.val (.int p0), .val (.int p1), .val (.int p2), .val (.int p3), .val (.int (f1 p0)), .val (.int (f1 p1)), .val (.int (f1 p2)), .val (.int (f0_s0_29001 p3)), .val (.int (f0_s0_44002 p3)), .val (.ref b10), .val (.int (f0_e7 p0 p1 p2)), .val (.int (f6 (f0_e14 p0 p1 p2) (f0_e15 p0 p1 p2) (f0_e16 p0 p1 p2))), .unset, .val (.int (32 : Int32)), .unset, .unset] [])) _
            refine XS.iload X84.here hx rfl (hb hby at_134) rfl ?_
            show Steps p.tables e below (T84.setTop (mkF m 136 #[.val (.int p0), .val (.int p1), .val (.int p2), .val (.int p3), .val (.int (f1 p0)), .val (.int (f1 p1)), .val (.int (f1 p2)), .val (.int (f0_s0_29001 p3)), .val (.int (f0_s0_44002 p3)), .val (.ref b10), .val (.int (f0_e7 p0 p1 p2)), .val (.int (f6 (f0_e14 p0 p1 p2) (f0_e15 p0 p1 p2) (f0_e16 p0 p1 p2))), .unset, .val (.int (32 : Int32)), .unset, .unset] [(.int (f1 p2))])) _
            refine XS.bipush X84.here hx rfl (hb hby at_136) ?_
            exact kt)
          by_cases hc90 : (f1 p2) = (93 : Int32)
          · refine ⟨T84, _, X84, e84, N84, fun t kt => ?_⟩
            have hj : (f0_l12_395028 p0 p1 p2) = (0 : Int32) := by unfold f0_l12_395028; rw [if_pos hc86, if_pos hc88, if_pos hc90]
            rw [hj] at kt
            have hj : (f0_l13_395029 p0 p1 p2) = (32 : Int32) := by unfold f0_l13_395029; rw [if_pos hc86, if_pos hc88, if_pos hc90]
            rw [hj] at kt
            refine pre89 t ?_
            show Steps p.tables e below (T84.setTop (mkF m 138 #[.val (.int p0), .val (.int p1), .val (.int p2), .val (.int p3), .val (.int (f1 p0)), .val (.int (f1 p1)), .val (.int (f1 p2)), .val (.int (f0_s0_29001 p3)), .val (.int (f0_s0_44002 p3)), .val (.ref b10), .val (.int (f0_e7 p0 p1 p2)), .val (.int (f6 (f0_e14 p0 p1 p2) (f0_e15 p0 p1 p2) (f0_e16 p0 p1 p2))), .unset, .val (.int (32 : Int32)), .unset, .unset] [(.int (93 : Int32)), (.int (f1 p2))])) _
            refine XS.icmpNo X84.here hx rfl (hb hby at_138) rfl (teq hc90).2 ?_
            show Steps p.tables e below (T84.setTop (mkF m 141 #[.val (.int p0), .val (.int p1), .val (.int p2), .val (.int p3), .val (.int (f1 p0)), .val (.int (f1 p1)), .val (.int (f1 p2)), .val (.int (f0_s0_29001 p3)), .val (.int (f0_s0_44002 p3)), .val (.ref b10), .val (.int (f0_e7 p0 p1 p2)), .val (.int (f6 (f0_e14 p0 p1 p2) (f0_e15 p0 p1 p2) (f0_e16 p0 p1 p2))), .unset, .val (.int (32 : Int32)), .unset, .unset] [])) _
            refine XS.iconst X84.here hx rfl (hb hby at_141) ?_
            show Steps p.tables e below (T84.setTop (mkF m 142 #[.val (.int p0), .val (.int p1), .val (.int p2), .val (.int p3), .val (.int (f1 p0)), .val (.int (f1 p1)), .val (.int (f1 p2)), .val (.int (f0_s0_29001 p3)), .val (.int (f0_s0_44002 p3)), .val (.ref b10), .val (.int (f0_e7 p0 p1 p2)), .val (.int (f6 (f0_e14 p0 p1 p2) (f0_e15 p0 p1 p2) (f0_e16 p0 p1 p2))), .unset, .val (.int (32 : Int32)), .unset, .unset] [(.int (0 : Int32))])) _
            refine XS.istore X84.here hx rfl (hb hby at_142) rfl (l' := #[.val (.int p0), .val (.int p1), .val (.int p2), .val (.int p3), .val (.int (f1 p0)), .val (.int (f1 p1)), .val (.int (f1 p2)), .val (.int (f0_s0_29001 p3)), .val (.int (f0_s0_44002 p3)), .val (.ref b10), .val (.int (f0_e7 p0 p1 p2)), .val (.int (f6 (f0_e14 p0 p1 p2) (f0_e15 p0 p1 p2) (f0_e16 p0 p1 p2))), .val (.int (0 : Int32)), .val (.int (32 : Int32)), .unset, .unset]) rfl ?_
            show Steps p.tables e below (T84.setTop (mkF m 144 #[.val (.int p0), .val (.int p1), .val (.int p2), .val (.int p3), .val (.int (f1 p0)), .val (.int (f1 p1)), .val (.int (f1 p2)), .val (.int (f0_s0_29001 p3)), .val (.int (f0_s0_44002 p3)), .val (.ref b10), .val (.int (f0_e7 p0 p1 p2)), .val (.int (f6 (f0_e14 p0 p1 p2) (f0_e15 p0 p1 p2) (f0_e16 p0 p1 p2))), .val (.int (0 : Int32)), .val (.int (32 : Int32)), .unset, .unset] [])) _
            refine XS.goto X84.here hx rfl (pc0 := 144) (pc' := 395) rfl (hb hby at_144) (by decide) (by decide) ?_
            exact kt
          · obtain ⟨_, _, ⟨T91, L91, k91, n91⟩, -, X91, ⟨Lc91, hQ91, l91, y91, z91⟩, st91⟩ := Jvm.LawKit.callS X84 hx (y := (⟨"com/example/libinterp/libinterp/SelectorScanReadPinLaw", "isQuote", "(C)Z"⟩ : MethodName)) hown (mvT hZ (hw _ (List.mem_of_getElem? (i := 31) rfl))) (mvT hZ (hw _ (List.mem_of_getElem? (i := 32) rfl))) (mvT hZ (hw _ (List.mem_of_getElem? (i := 2) rfl))) (mvT hZ (hw _ (List.mem_of_getElem? (i := 33) rfl))) (by decide) (backOf (W := 0) (rm7 l Z a0 hw [] (f1 p2) T83.heap n0 Zz83) hZ (hw _ (List.mem_of_getElem? (i := 33) rfl)) (hw _ (List.mem_of_getElem? (i := 2) rfl)) (by decide) (by decide)) (g := (mkF m 149 #[.val (.int p0), .val (.int p1), .val (.int p2), .val (.int p3), .val (.int (f1 p0)), .val (.int (f1 p1)), .val (.int (f1 p2)), .val (.int (f0_s0_29001 p3)), .val (.int (f0_s0_44002 p3)), .val (.ref b10), .val (.int (f0_e7 p0 p1 p2)), .val (.int (f6 (f0_e14 p0 p1 p2) (f0_e15 p0 p1 p2) (f0_e16 p0 p1 p2))), .unset, .val (.int (32 : Int32)), .unset, .unset] [(.int (f1 p2))])) rfl (by rw [hml]; rfl) (argsL := [(.int (f1 p2))]) (rest := []) (lenOf pd_0 rfl) rfl (by show 2 * 0 + _ ≤ _; exact Nat.le_of_eq rfl) (hb hby at_149) (fun _ _ => ⟨rfl, e84, (by decide : 1 + 0 ≤ _), (by decide : 3 + 0 ≤ _)⟩)
            dsimp only [Pt.U, Pt.locs, Pt.cells, Pt.slots] at X91 l91 y91 z91 st91 hQ91
            subst l91 y91 z91
            obtain ⟨rfl, N91q, e91⟩ := hQ91
            have N91 := Fr.app N84 N91q
            have pre92 : ∀ t, Steps p.tables e below (T91.setTop (mkF m 152 #[.val (.int p0), .val (.int p1), .val (.int p2), .val (.int p3), .val (.int (f1 p0)), .val (.int (f1 p1)), .val (.int (f1 p2)), .val (.int (f0_s0_29001 p3)), .val (.int (f0_s0_44002 p3)), .val (.ref b10), .val (.int (f0_e7 p0 p1 p2)), .val (.int (f6 (f0_e14 p0 p1 p2) (f0_e15 p0 p1 p2) (f0_e16 p0 p1 p2))), .unset, .val (.int (32 : Int32)), .unset, .unset] [(.int (f7 (f1 p2)))])) t → Steps p.tables e below (s₁.setTop (entryFrame m #[(.int p0), (.int p1), (.int p2), (.int p3)] maxLocals)) t := fun t kt => pre89 t (by
              show Steps p.tables e below (T84.setTop (mkF m 138 #[.val (.int p0), .val (.int p1), .val (.int p2), .val (.int p3), .val (.int (f1 p0)), .val (.int (f1 p1)), .val (.int (f1 p2)), .val (.int (f0_s0_29001 p3)), .val (.int (f0_s0_44002 p3)), .val (.ref b10), .val (.int (f0_e7 p0 p1 p2)), .val (.int (f6 (f0_e14 p0 p1 p2) (f0_e15 p0 p1 p2) (f0_e16 p0 p1 p2))), .unset, .val (.int (32 : Int32)), .unset, .unset] [(.int (93 : Int32)), (.int (f1 p2))])) _
              refine XS.icmpYes X84.here hx rfl (pc0 := 138) (pc' := 147) rfl (hb hby at_138) rfl (feq hc90).2 (by decide) (by decide) ?_
              show Steps p.tables e below (T84.setTop (mkF m 147 #[.val (.int p0), .val (.int p1), .val (.int p2), .val (.int p3), .val (.int (f1 p0)), .val (.int (f1 p1)), .val (.int (f1 p2)), .val (.int (f0_s0_29001 p3)), .val (.int (f0_s0_44002 p3)), .val (.ref b10), .val (.int (f0_e7 p0 p1 p2)), .val (.int (f6 (f0_e14 p0 p1 p2) (f0_e15 p0 p1 p2) (f0_e16 p0 p1 p2))), .unset, .val (.int (32 : Int32)), .unset, .unset] [])) _
              refine XS.iload X84.here hx rfl (hb hby at_147) rfl ?_
              show Steps p.tables e below (T84.setTop (mkF m 149 #[.val (.int p0), .val (.int p1), .val (.int p2), .val (.int p3), .val (.int (f1 p0)), .val (.int (f1 p1)), .val (.int (f1 p2)), .val (.int (f0_s0_29001 p3)), .val (.int (f0_s0_44002 p3)), .val (.ref b10), .val (.int (f0_e7 p0 p1 p2)), .val (.int (f6 (f0_e14 p0 p1 p2) (f0_e15 p0 p1 p2) (f0_e16 p0 p1 p2))), .unset, .val (.int (32 : Int32)), .unset, .unset] [(.int (f1 p2))])) _
              refine st91 _ ?_
              exact kt)
            have pre94 : ∀ t, Steps p.tables e below (T91.setTop (mkF m 395 #[.val (.int p0), .val (.int p1), .val (.int p2), .val (.int p3), .val (.int (f1 p0)), .val (.int (f1 p1)), .val (.int (f1 p2)), .val (.int (f0_s0_29001 p3)), .val (.int (f0_s0_44002 p3)), .val (.ref b10), .val (.int (f0_e7 p0 p1 p2)), .val (.int (f6 (f0_e14 p0 p1 p2) (f0_e15 p0 p1 p2) (f0_e16 p0 p1 p2))), .val (.int (f0_l12_395018 p2)), .val (.int (f0_l13_395019 p2)), .unset, .unset] [])) t → Steps p.tables e below (s₁.setTop (entryFrame m #[(.int p0), (.int p1), (.int p2), (.int p3)] maxLocals)) t := by
              intro t kt
              by_cases hc93 : (f7 (f1 p2)) = (0 : Int32)
              · have hj : (f0_l12_395018 p2) = (1 : Int32) := by unfold f0_l12_395018; rw [if_pos hc93]
                rw [hj] at kt
                have hj : (f0_l13_395019 p2) = (32 : Int32) := by unfold f0_l13_395019; rw [if_pos hc93]
                rw [hj] at kt
                refine pre92 t ?_
                show Steps p.tables e below (T91.setTop (mkF m 152 #[.val (.int p0), .val (.int p1), .val (.int p2), .val (.int p3), .val (.int (f1 p0)), .val (.int (f1 p1)), .val (.int (f1 p2)), .val (.int (f0_s0_29001 p3)), .val (.int (f0_s0_44002 p3)), .val (.ref b10), .val (.int (f0_e7 p0 p1 p2)), .val (.int (f6 (f0_e14 p0 p1 p2) (f0_e15 p0 p1 p2) (f0_e16 p0 p1 p2))), .unset, .val (.int (32 : Int32)), .unset, .unset] [(.int (f7 (f1 p2)))])) _
                refine XS.ifYes X91.here hx rfl (pc0 := 152) (pc' := 165) rfl (hb hby at_152) rfl ((if0 _ _).trans (teq hc93).1) (by decide) (by decide) ?_
                show Steps p.tables e below (T91.setTop (mkF m 165 #[.val (.int p0), .val (.int p1), .val (.int p2), .val (.int p3), .val (.int (f1 p0)), .val (.int (f1 p1)), .val (.int (f1 p2)), .val (.int (f0_s0_29001 p3)), .val (.int (f0_s0_44002 p3)), .val (.ref b10), .val (.int (f0_e7 p0 p1 p2)), .val (.int (f6 (f0_e14 p0 p1 p2) (f0_e15 p0 p1 p2) (f0_e16 p0 p1 p2))), .unset, .val (.int (32 : Int32)), .unset, .unset] [])) _
                refine XS.iconst X91.here hx rfl (hb hby at_165) ?_
                show Steps p.tables e below (T91.setTop (mkF m 166 #[.val (.int p0), .val (.int p1), .val (.int p2), .val (.int p3), .val (.int (f1 p0)), .val (.int (f1 p1)), .val (.int (f1 p2)), .val (.int (f0_s0_29001 p3)), .val (.int (f0_s0_44002 p3)), .val (.ref b10), .val (.int (f0_e7 p0 p1 p2)), .val (.int (f6 (f0_e14 p0 p1 p2) (f0_e15 p0 p1 p2) (f0_e16 p0 p1 p2))), .unset, .val (.int (32 : Int32)), .unset, .unset] [(.int (1 : Int32))])) _
                refine XS.istore X91.here hx rfl (hb hby at_166) rfl (l' := #[.val (.int p0), .val (.int p1), .val (.int p2), .val (.int p3), .val (.int (f1 p0)), .val (.int (f1 p1)), .val (.int (f1 p2)), .val (.int (f0_s0_29001 p3)), .val (.int (f0_s0_44002 p3)), .val (.ref b10), .val (.int (f0_e7 p0 p1 p2)), .val (.int (f6 (f0_e14 p0 p1 p2) (f0_e15 p0 p1 p2) (f0_e16 p0 p1 p2))), .val (.int (1 : Int32)), .val (.int (32 : Int32)), .unset, .unset]) rfl ?_
                show Steps p.tables e below (T91.setTop (mkF m 168 #[.val (.int p0), .val (.int p1), .val (.int p2), .val (.int p3), .val (.int (f1 p0)), .val (.int (f1 p1)), .val (.int (f1 p2)), .val (.int (f0_s0_29001 p3)), .val (.int (f0_s0_44002 p3)), .val (.ref b10), .val (.int (f0_e7 p0 p1 p2)), .val (.int (f6 (f0_e14 p0 p1 p2) (f0_e15 p0 p1 p2) (f0_e16 p0 p1 p2))), .val (.int (1 : Int32)), .val (.int (32 : Int32)), .unset, .unset] [])) _
                refine XS.goto X91.here hx rfl (pc0 := 168) (pc' := 395) rfl (hb hby at_168) (by decide) (by decide) ?_
                exact kt
              · have hj : (f0_l12_395018 p2) = (2 : Int32) := by unfold f0_l12_395018; rw [if_neg hc93]
                rw [hj] at kt
                have hj : (f0_l13_395019 p2) = (f1 p2) := by unfold f0_l13_395019; rw [if_neg hc93]
                rw [hj] at kt
                refine pre92 t ?_
                show Steps p.tables e below (T91.setTop (mkF m 152 #[.val (.int p0), .val (.int p1), .val (.int p2), .val (.int p3), .val (.int (f1 p0)), .val (.int (f1 p1)), .val (.int (f1 p2)), .val (.int (f0_s0_29001 p3)), .val (.int (f0_s0_44002 p3)), .val (.ref b10), .val (.int (f0_e7 p0 p1 p2)), .val (.int (f6 (f0_e14 p0 p1 p2) (f0_e15 p0 p1 p2) (f0_e16 p0 p1 p2))), .unset, .val (.int (32 : Int32)), .unset, .unset] [(.int (f7 (f1 p2)))])) _
                refine XS.ifNo X91.here hx rfl (hb hby at_152) rfl ((if0 _ _).trans (feq hc93).1) ?_
                show Steps p.tables e below (T91.setTop (mkF m 155 #[.val (.int p0), .val (.int p1), .val (.int p2), .val (.int p3), .val (.int (f1 p0)), .val (.int (f1 p1)), .val (.int (f1 p2)), .val (.int (f0_s0_29001 p3)), .val (.int (f0_s0_44002 p3)), .val (.ref b10), .val (.int (f0_e7 p0 p1 p2)), .val (.int (f6 (f0_e14 p0 p1 p2) (f0_e15 p0 p1 p2) (f0_e16 p0 p1 p2))), .unset, .val (.int (32 : Int32)), .unset, .unset] [])) _
                refine XS.iconst X91.here hx rfl (hb hby at_155) ?_
                show Steps p.tables e below (T91.setTop (mkF m 156 #[.val (.int p0), .val (.int p1), .val (.int p2), .val (.int p3), .val (.int (f1 p0)), .val (.int (f1 p1)), .val (.int (f1 p2)), .val (.int (f0_s0_29001 p3)), .val (.int (f0_s0_44002 p3)), .val (.ref b10), .val (.int (f0_e7 p0 p1 p2)), .val (.int (f6 (f0_e14 p0 p1 p2) (f0_e15 p0 p1 p2) (f0_e16 p0 p1 p2))), .unset, .val (.int (32 : Int32)), .unset, .unset] [(.int (2 : Int32))])) _
                refine XS.istore X91.here hx rfl (hb hby at_156) rfl (l' := #[.val (.int p0), .val (.int p1), .val (.int p2), .val (.int p3), .val (.int (f1 p0)), .val (.int (f1 p1)), .val (.int (f1 p2)), .val (.int (f0_s0_29001 p3)), .val (.int (f0_s0_44002 p3)), .val (.ref b10), .val (.int (f0_e7 p0 p1 p2)), .val (.int (f6 (f0_e14 p0 p1 p2) (f0_e15 p0 p1 p2) (f0_e16 p0 p1 p2))), .val (.int (2 : Int32)), .val (.int (32 : Int32)), .unset, .unset]) rfl ?_
                show Steps p.tables e below (T91.setTop (mkF m 158 #[.val (.int p0), .val (.int p1), .val (.int p2), .val (.int p3), .val (.int (f1 p0)), .val (.int (f1 p1)), .val (.int (f1 p2)), .val (.int (f0_s0_29001 p3)), .val (.int (f0_s0_44002 p3)), .val (.ref b10), .val (.int (f0_e7 p0 p1 p2)), .val (.int (f6 (f0_e14 p0 p1 p2) (f0_e15 p0 p1 p2) (f0_e16 p0 p1 p2))), .val (.int (2 : Int32)), .val (.int (32 : Int32)), .unset, .unset] [])) _
                refine XS.iload X91.here hx rfl (hb hby at_158) rfl ?_
                show Steps p.tables e below (T91.setTop (mkF m 160 #[.val (.int p0), .val (.int p1), .val (.int p2), .val (.int p3), .val (.int (f1 p0)), .val (.int (f1 p1)), .val (.int (f1 p2)), .val (.int (f0_s0_29001 p3)), .val (.int (f0_s0_44002 p3)), .val (.ref b10), .val (.int (f0_e7 p0 p1 p2)), .val (.int (f6 (f0_e14 p0 p1 p2) (f0_e15 p0 p1 p2) (f0_e16 p0 p1 p2))), .val (.int (2 : Int32)), .val (.int (32 : Int32)), .unset, .unset] [(.int (f1 p2))])) _
                refine XS.istore X91.here hx rfl (hb hby at_160) rfl (l' := #[.val (.int p0), .val (.int p1), .val (.int p2), .val (.int p3), .val (.int (f1 p0)), .val (.int (f1 p1)), .val (.int (f1 p2)), .val (.int (f0_s0_29001 p3)), .val (.int (f0_s0_44002 p3)), .val (.ref b10), .val (.int (f0_e7 p0 p1 p2)), .val (.int (f6 (f0_e14 p0 p1 p2) (f0_e15 p0 p1 p2) (f0_e16 p0 p1 p2))), .val (.int (2 : Int32)), .val (.int (f1 p2)), .unset, .unset]) rfl ?_
                show Steps p.tables e below (T91.setTop (mkF m 162 #[.val (.int p0), .val (.int p1), .val (.int p2), .val (.int p3), .val (.int (f1 p0)), .val (.int (f1 p1)), .val (.int (f1 p2)), .val (.int (f0_s0_29001 p3)), .val (.int (f0_s0_44002 p3)), .val (.ref b10), .val (.int (f0_e7 p0 p1 p2)), .val (.int (f6 (f0_e14 p0 p1 p2) (f0_e15 p0 p1 p2) (f0_e16 p0 p1 p2))), .val (.int (2 : Int32)), .val (.int (f1 p2)), .unset, .unset] [])) _
                refine XS.goto X91.here hx rfl (pc0 := 162) (pc' := 395) rfl (hb hby at_162) (by decide) (by decide) ?_
                exact kt
            refine ⟨T91, _, X91, e91, N91, fun t kt => ?_⟩
            have hj : (f0_l12_395028 p0 p1 p2) = (f0_l12_395018 p2) := by unfold f0_l12_395028; rw [if_pos hc86, if_pos hc88, if_neg hc90]
            rw [hj] at kt
            have hj : (f0_l13_395029 p0 p1 p2) = (f0_l13_395019 p2) := by unfold f0_l13_395029; rw [if_pos hc86, if_pos hc88, if_neg hc90]
            rw [hj] at kt
            refine pre94 t ?_
            exact kt
        · have pre95 : ∀ t, Steps p.tables e below (T84.setTop (mkF m 175 #[.val (.int p0), .val (.int p1), .val (.int p2), .val (.int p3), .val (.int (f1 p0)), .val (.int (f1 p1)), .val (.int (f1 p2)), .val (.int (f0_s0_29001 p3)), .val (.int (f0_s0_44002 p3)), .val (.ref b10), .val (.int (f0_e7 p0 p1 p2)), .val (.int (f6 (f0_e14 p0 p1 p2) (f0_e15 p0 p1 p2) (f0_e16 p0 p1 p2))), .unset, .val (.int (32 : Int32)), .unset, .unset] [(.int (91 : Int32)), (.int (f1 p2))])) t → Steps p.tables e below (s₁.setTop (entryFrame m #[(.int p0), (.int p1), (.int p2), (.int p3)] maxLocals)) t := fun t kt => pre87 t (by
            show Steps p.tables e below (T84.setTop (mkF m 131 #[.val (.int p0), .val (.int p1), .val (.int p2), .val (.int p3), .val (.int (f1 p0)), .val (.int (f1 p1)), .val (.int (f1 p2)), .val (.int (f0_s0_29001 p3)), .val (.int (f0_s0_44002 p3)), .val (.ref b10), .val (.int (f0_e7 p0 p1 p2)), .val (.int (f6 (f0_e14 p0 p1 p2) (f0_e15 p0 p1 p2) (f0_e16 p0 p1 p2))), .unset, .val (.int (32 : Int32)), .unset, .unset] [(.int (91 : Int32)), (.int (f1 p1))])) _
            refine XS.icmpYes X84.here hx rfl (pc0 := 131) (pc' := 171) rfl (hb hby at_131) rfl (feq hc88).2 (by decide) (by decide) ?_
            show Steps p.tables e below (T84.setTop (mkF m 171 #[.val (.int p0), .val (.int p1), .val (.int p2), .val (.int p3), .val (.int (f1 p0)), .val (.int (f1 p1)), .val (.int (f1 p2)), .val (.int (f0_s0_29001 p3)), .val (.int (f0_s0_44002 p3)), .val (.ref b10), .val (.int (f0_e7 p0 p1 p2)), .val (.int (f6 (f0_e14 p0 p1 p2) (f0_e15 p0 p1 p2) (f0_e16 p0 p1 p2))), .unset, .val (.int (32 : Int32)), .unset, .unset] [])) _
            refine XS.iload X84.here hx rfl (hb hby at_171) rfl ?_
            show Steps p.tables e below (T84.setTop (mkF m 173 #[.val (.int p0), .val (.int p1), .val (.int p2), .val (.int p3), .val (.int (f1 p0)), .val (.int (f1 p1)), .val (.int (f1 p2)), .val (.int (f0_s0_29001 p3)), .val (.int (f0_s0_44002 p3)), .val (.ref b10), .val (.int (f0_e7 p0 p1 p2)), .val (.int (f6 (f0_e14 p0 p1 p2) (f0_e15 p0 p1 p2) (f0_e16 p0 p1 p2))), .unset, .val (.int (32 : Int32)), .unset, .unset] [(.int (f1 p2))])) _
            refine XS.bipush X84.here hx rfl (hb hby at_173) ?_
            exact kt)
          have pre97 : ∀ t, Steps p.tables e below (T84.setTop (mkF m 183 #[.val (.int p0), .val (.int p1), .val (.int p2), .val (.int p3), .val (.int (f1 p0)), .val (.int (f1 p1)), .val (.int (f1 p2)), .val (.int (f0_s0_29001 p3)), .val (.int (f0_s0_44002 p3)), .val (.ref b10), .val (.int (f0_e7 p0 p1 p2)), .val (.int (f6 (f0_e14 p0 p1 p2) (f0_e15 p0 p1 p2) (f0_e16 p0 p1 p2))), .unset, .val (.int (32 : Int32)), .unset, .unset] [(.int (f0_s0_183020 p2))])) t → Steps p.tables e below (s₁.setTop (entryFrame m #[(.int p0), (.int p1), (.int p2), (.int p3)] maxLocals)) t := by
            intro t kt
            by_cases hc96 : (f1 p2) = (91 : Int32)
            · have hj : (f0_s0_183020 p2) = (1 : Int32) := by unfold f0_s0_183020; rw [if_pos hc96]
              rw [hj] at kt
              refine pre95 t ?_
              show Steps p.tables e below (T84.setTop (mkF m 175 #[.val (.int p0), .val (.int p1), .val (.int p2), .val (.int p3), .val (.int (f1 p0)), .val (.int (f1 p1)), .val (.int (f1 p2)), .val (.int (f0_s0_29001 p3)), .val (.int (f0_s0_44002 p3)), .val (.ref b10), .val (.int (f0_e7 p0 p1 p2)), .val (.int (f6 (f0_e14 p0 p1 p2) (f0_e15 p0 p1 p2) (f0_e16 p0 p1 p2))), .unset, .val (.int (32 : Int32)), .unset, .unset] [(.int (91 : Int32)), (.int (f1 p2))])) _
              refine XS.icmpNo X84.here hx rfl (hb hby at_175) rfl (teq hc96).2 ?_
              show Steps p.tables e below (T84.setTop (mkF m 178 #[.val (.int p0), .val (.int p1), .val (.int p2), .val (.int p3), .val (.int (f1 p0)), .val (.int (f1 p1)), .val (.int (f1 p2)), .val (.int (f0_s0_29001 p3)), .val (.int (f0_s0_44002 p3)), .val (.ref b10), .val (.int (f0_e7 p0 p1 p2)), .val (.int (f6 (f0_e14 p0 p1 p2) (f0_e15 p0 p1 p2) (f0_e16 p0 p1 p2))), .unset, .val (.int (32 : Int32)), .unset, .unset] [])) _
              refine XS.iconst X84.here hx rfl (hb hby at_178) ?_
              show Steps p.tables e below (T84.setTop (mkF m 179 #[.val (.int p0), .val (.int p1), .val (.int p2), .val (.int p3), .val (.int (f1 p0)), .val (.int (f1 p1)), .val (.int (f1 p2)), .val (.int (f0_s0_29001 p3)), .val (.int (f0_s0_44002 p3)), .val (.ref b10), .val (.int (f0_e7 p0 p1 p2)), .val (.int (f6 (f0_e14 p0 p1 p2) (f0_e15 p0 p1 p2) (f0_e16 p0 p1 p2))), .unset, .val (.int (32 : Int32)), .unset, .unset] [(.int (1 : Int32))])) _
              refine XS.goto X84.here hx rfl (pc0 := 179) (pc' := 183) rfl (hb hby at_179) (by decide) (by decide) ?_
              exact kt
            · have hj : (f0_s0_183020 p2) = (0 : Int32) := by unfold f0_s0_183020; rw [if_neg hc96]
              rw [hj] at kt
              refine pre95 t ?_
              show Steps p.tables e below (T84.setTop (mkF m 175 #[.val (.int p0), .val (.int p1), .val (.int p2), .val (.int p3), .val (.int (f1 p0)), .val (.int (f1 p1)), .val (.int (f1 p2)), .val (.int (f0_s0_29001 p3)), .val (.int (f0_s0_44002 p3)), .val (.ref b10), .val (.int (f0_e7 p0 p1 p2)), .val (.int (f6 (f0_e14 p0 p1 p2) (f0_e15 p0 p1 p2) (f0_e16 p0 p1 p2))), .unset, .val (.int (32 : Int32)), .unset, .unset] [(.int (91 : Int32)), (.int (f1 p2))])) _
              refine XS.icmpYes X84.here hx rfl (pc0 := 175) (pc' := 182) rfl (hb hby at_175) rfl (feq hc96).2 (by decide) (by decide) ?_
              show Steps p.tables e below (T84.setTop (mkF m 182 #[.val (.int p0), .val (.int p1), .val (.int p2), .val (.int p3), .val (.int (f1 p0)), .val (.int (f1 p1)), .val (.int (f1 p2)), .val (.int (f0_s0_29001 p3)), .val (.int (f0_s0_44002 p3)), .val (.ref b10), .val (.int (f0_e7 p0 p1 p2)), .val (.int (f6 (f0_e14 p0 p1 p2) (f0_e15 p0 p1 p2) (f0_e16 p0 p1 p2))), .unset, .val (.int (32 : Int32)), .unset, .unset] [])) _
              refine XS.iconst X84.here hx rfl (hb hby at_182) ?_
              exact kt
          refine ⟨T84, _, X84, e84, N84, fun t kt => ?_⟩
          have hj : (f0_l12_395028 p0 p1 p2) = (f0_s0_183020 p2) := by unfold f0_l12_395028; rw [if_pos hc86, if_neg hc88]
          rw [hj] at kt
          have hj : (f0_l13_395029 p0 p1 p2) = (32 : Int32) := by unfold f0_l13_395029; rw [if_pos hc86, if_neg hc88]
          rw [hj] at kt
          refine pre97 t ?_
          show Steps p.tables e below (T84.setTop (mkF m 183 #[.val (.int p0), .val (.int p1), .val (.int p2), .val (.int p3), .val (.int (f1 p0)), .val (.int (f1 p1)), .val (.int (f1 p2)), .val (.int (f0_s0_29001 p3)), .val (.int (f0_s0_44002 p3)), .val (.ref b10), .val (.int (f0_e7 p0 p1 p2)), .val (.int (f6 (f0_e14 p0 p1 p2) (f0_e15 p0 p1 p2) (f0_e16 p0 p1 p2))), .unset, .val (.int (32 : Int32)), .unset, .unset] [(.int (f0_s0_183020 p2))])) _
          refine XS.istore X84.here hx rfl (hb hby at_183) rfl (l' := #[.val (.int p0), .val (.int p1), .val (.int p2), .val (.int p3), .val (.int (f1 p0)), .val (.int (f1 p1)), .val (.int (f1 p2)), .val (.int (f0_s0_29001 p3)), .val (.int (f0_s0_44002 p3)), .val (.ref b10), .val (.int (f0_e7 p0 p1 p2)), .val (.int (f6 (f0_e14 p0 p1 p2) (f0_e15 p0 p1 p2) (f0_e16 p0 p1 p2))), .val (.int (f0_s0_183020 p2)), .val (.int (32 : Int32)), .unset, .unset]) rfl ?_
          show Steps p.tables e below (T84.setTop (mkF m 185 #[.val (.int p0), .val (.int p1), .val (.int p2), .val (.int p3), .val (.int (f1 p0)), .val (.int (f1 p1)), .val (.int (f1 p2)), .val (.int (f0_s0_29001 p3)), .val (.int (f0_s0_44002 p3)), .val (.ref b10), .val (.int (f0_e7 p0 p1 p2)), .val (.int (f6 (f0_e14 p0 p1 p2) (f0_e15 p0 p1 p2) (f0_e16 p0 p1 p2))), .val (.int (f0_s0_183020 p2)), .val (.int (32 : Int32)), .unset, .unset] [])) _
          refine XS.goto X84.here hx rfl (pc0 := 185) (pc' := 395) rfl (hb hby at_185) (by decide) (by decide) ?_
          exact kt
      · obtain ⟨_, _, ⟨T98, L98, k98, n98⟩, -, X98, ⟨Lc98, hQ98, l98, y98, z98⟩, st98⟩ := Jvm.LawKit.callS X84 hx (y := (⟨"com/example/libinterp/libinterp/SelectorScanReadPinLaw", "isQuote", "(C)Z"⟩ : MethodName)) hown (mvT hZ (hw _ (List.mem_of_getElem? (i := 31) rfl))) (mvT hZ (hw _ (List.mem_of_getElem? (i := 32) rfl))) (mvT hZ (hw _ (List.mem_of_getElem? (i := 2) rfl))) (mvT hZ (hw _ (List.mem_of_getElem? (i := 33) rfl))) (by decide) (backOf (W := 0) (rm7 l Z a0 hw [] (f1 p0) T83.heap n0 Zz83) hZ (hw _ (List.mem_of_getElem? (i := 33) rfl)) (hw _ (List.mem_of_getElem? (i := 2) rfl)) (by decide) (by decide)) (g := (mkF m 190 #[.val (.int p0), .val (.int p1), .val (.int p2), .val (.int p3), .val (.int (f1 p0)), .val (.int (f1 p1)), .val (.int (f1 p2)), .val (.int (f0_s0_29001 p3)), .val (.int (f0_s0_44002 p3)), .val (.ref b10), .val (.int (f0_e7 p0 p1 p2)), .val (.int (f6 (f0_e14 p0 p1 p2) (f0_e15 p0 p1 p2) (f0_e16 p0 p1 p2))), .unset, .val (.int (32 : Int32)), .unset, .unset] [(.int (f1 p0))])) rfl (by rw [hml]; rfl) (argsL := [(.int (f1 p0))]) (rest := []) (lenOf pd_0 rfl) rfl (by show 2 * 0 + _ ≤ _; exact Nat.le_of_eq rfl) (hb hby at_190) (fun _ _ => ⟨rfl, e84, (by decide : 1 + 0 ≤ _), (by decide : 3 + 0 ≤ _)⟩)
        dsimp only [Pt.U, Pt.locs, Pt.cells, Pt.slots] at X98 l98 y98 z98 st98 hQ98
        subst l98 y98 z98
        obtain ⟨rfl, N98q, e98⟩ := hQ98
        have N98 := Fr.app N84 N98q
        have pre99 : ∀ t, Steps p.tables e below (T98.setTop (mkF m 193 #[.val (.int p0), .val (.int p1), .val (.int p2), .val (.int p3), .val (.int (f1 p0)), .val (.int (f1 p1)), .val (.int (f1 p2)), .val (.int (f0_s0_29001 p3)), .val (.int (f0_s0_44002 p3)), .val (.ref b10), .val (.int (f0_e7 p0 p1 p2)), .val (.int (f6 (f0_e14 p0 p1 p2) (f0_e15 p0 p1 p2) (f0_e16 p0 p1 p2))), .unset, .val (.int (32 : Int32)), .unset, .unset] [(.int (f7 (f1 p0)))])) t → Steps p.tables e below (s₁.setTop (entryFrame m #[(.int p0), (.int p1), (.int p2), (.int p3)] maxLocals)) t := fun t kt => pre85 t (by
          show Steps p.tables e below (T84.setTop (mkF m 124 #[.val (.int p0), .val (.int p1), .val (.int p2), .val (.int p3), .val (.int (f1 p0)), .val (.int (f1 p1)), .val (.int (f1 p2)), .val (.int (f0_s0_29001 p3)), .val (.int (f0_s0_44002 p3)), .val (.ref b10), .val (.int (f0_e7 p0 p1 p2)), .val (.int (f6 (f0_e14 p0 p1 p2) (f0_e15 p0 p1 p2) (f0_e16 p0 p1 p2))), .unset, .val (.int (32 : Int32)), .unset, .unset] [(.int (93 : Int32)), (.int (f1 p0))])) _
          refine XS.icmpYes X84.here hx rfl (pc0 := 124) (pc' := 188) rfl (hb hby at_124) rfl (feq hc86).2 (by decide) (by decide) ?_
          show Steps p.tables e below (T84.setTop (mkF m 188 #[.val (.int p0), .val (.int p1), .val (.int p2), .val (.int p3), .val (.int (f1 p0)), .val (.int (f1 p1)), .val (.int (f1 p2)), .val (.int (f0_s0_29001 p3)), .val (.int (f0_s0_44002 p3)), .val (.ref b10), .val (.int (f0_e7 p0 p1 p2)), .val (.int (f6 (f0_e14 p0 p1 p2) (f0_e15 p0 p1 p2) (f0_e16 p0 p1 p2))), .unset, .val (.int (32 : Int32)), .unset, .unset] [])) _
          refine XS.iload X84.here hx rfl (hb hby at_188) rfl ?_
          show Steps p.tables e below (T84.setTop (mkF m 190 #[.val (.int p0), .val (.int p1), .val (.int p2), .val (.int p3), .val (.int (f1 p0)), .val (.int (f1 p1)), .val (.int (f1 p2)), .val (.int (f0_s0_29001 p3)), .val (.int (f0_s0_44002 p3)), .val (.ref b10), .val (.int (f0_e7 p0 p1 p2)), .val (.int (f6 (f0_e14 p0 p1 p2) (f0_e15 p0 p1 p2) (f0_e16 p0 p1 p2))), .unset, .val (.int (32 : Int32)), .unset, .unset] [(.int (f1 p0))])) _
          refine st98 _ ?_
          exact kt)
        by_cases hc100 : (f7 (f1 p0)) = (0 : Int32)
        · have pre101 : ∀ t, Steps p.tables e below (T98.setTop (mkF m 297 #[.val (.int p0), .val (.int p1), .val (.int p2), .val (.int p3), .val (.int (f1 p0)), .val (.int (f1 p1)), .val (.int (f1 p2)), .val (.int (f0_s0_29001 p3)), .val (.int (f0_s0_44002 p3)), .val (.ref b10), .val (.int (f0_e7 p0 p1 p2)), .val (.int (f6 (f0_e14 p0 p1 p2) (f0_e15 p0 p1 p2) (f0_e16 p0 p1 p2))), .unset, .val (.int (32 : Int32)), .unset, .unset] [(.int (93 : Int32)), (.int (f1 p1))])) t → Steps p.tables e below (s₁.setTop (entryFrame m #[(.int p0), (.int p1), (.int p2), (.int p3)] maxLocals)) t := fun t kt => pre99 t (by
            show Steps p.tables e below (T98.setTop (mkF m 193 #[.val (.int p0), .val (.int p1), .val (.int p2), .val (.int p3), .val (.int (f1 p0)), .val (.int (f1 p1)), .val (.int (f1 p2)), .val (.int (f0_s0_29001 p3)), .val (.int (f0_s0_44002 p3)), .val (.ref b10), .val (.int (f0_e7 p0 p1 p2)), .val (.int (f6 (f0_e14 p0 p1 p2) (f0_e15 p0 p1 p2) (f0_e16 p0 p1 p2))), .unset, .val (.int (32 : Int32)), .unset, .unset] [(.int (f7 (f1 p0)))])) _
            refine XS.ifYes X98.here hx rfl (pc0 := 193) (pc' := 293) rfl (hb hby at_193) rfl ((if0 _ _).trans (teq hc100).1) (by decide) (by decide) ?_
            show Steps p.tables e below (T98.setTop (mkF m 293 #[.val (.int p0), .val (.int p1), .val (.int p2), .val (.int p3), .val (.int (f1 p0)), .val (.int (f1 p1)), .val (.int (f1 p2)), .val (.int (f0_s0_29001 p3)), .val (.int (f0_s0_44002 p3)), .val (.ref b10), .val (.int (f0_e7 p0 p1 p2)), .val (.int (f6 (f0_e14 p0 p1 p2) (f0_e15 p0 p1 p2) (f0_e16 p0 p1 p2))), .unset, .val (.int (32 : Int32)), .unset, .unset] [])) _
            refine XS.iload X98.here hx rfl (hb hby at_293) rfl ?_
            show Steps p.tables e below (T98.setTop (mkF m 295 #[.val (.int p0), .val (.int p1), .val (.int p2), .val (.int p3), .val (.int (f1 p0)), .val (.int (f1 p1)), .val (.int (f1 p2)), .val (.int (f0_s0_29001 p3)), .val (.int (f0_s0_44002 p3)), .val (.ref b10), .val (.int (f0_e7 p0 p1 p2)), .val (.int (f6 (f0_e14 p0 p1 p2) (f0_e15 p0 p1 p2) (f0_e16 p0 p1 p2))), .unset, .val (.int (32 : Int32)), .unset, .unset] [(.int (f1 p1))])) _
            refine XS.bipush X98.here hx rfl (hb hby at_295) ?_
            exact kt)
          by_cases hc102 : (f1 p1) = (93 : Int32)
          · have pre103 : ∀ t, Steps p.tables e below (T98.setTop (mkF m 304 #[.val (.int p0), .val (.int p1), .val (.int p2), .val (.int p3), .val (.int (f1 p0)), .val (.int (f1 p1)), .val (.int (f1 p2)), .val (.int (f0_s0_29001 p3)), .val (.int (f0_s0_44002 p3)), .val (.ref b10), .val (.int (f0_e7 p0 p1 p2)), .val (.int (f6 (f0_e14 p0 p1 p2) (f0_e15 p0 p1 p2) (f0_e16 p0 p1 p2))), .unset, .val (.int (32 : Int32)), .unset, .unset] [(.int (91 : Int32)), (.int (f1 p2))])) t → Steps p.tables e below (s₁.setTop (entryFrame m #[(.int p0), (.int p1), (.int p2), (.int p3)] maxLocals)) t := fun t kt => pre101 t (by
              show Steps p.tables e below (T98.setTop (mkF m 297 #[.val (.int p0), .val (.int p1), .val (.int p2), .val (.int p3), .val (.int (f1 p0)), .val (.int (f1 p1)), .val (.int (f1 p2)), .val (.int (f0_s0_29001 p3)), .val (.int (f0_s0_44002 p3)), .val (.ref b10), .val (.int (f0_e7 p0 p1 p2)), .val (.int (f6 (f0_e14 p0 p1 p2) (f0_e15 p0 p1 p2) (f0_e16 p0 p1 p2))), .unset, .val (.int (32 : Int32)), .unset, .unset] [(.int (93 : Int32)), (.int (f1 p1))])) _
              refine XS.icmpNo X98.here hx rfl (hb hby at_297) rfl (teq hc102).2 ?_
              show Steps p.tables e below (T98.setTop (mkF m 300 #[.val (.int p0), .val (.int p1), .val (.int p2), .val (.int p3), .val (.int (f1 p0)), .val (.int (f1 p1)), .val (.int (f1 p2)), .val (.int (f0_s0_29001 p3)), .val (.int (f0_s0_44002 p3)), .val (.ref b10), .val (.int (f0_e7 p0 p1 p2)), .val (.int (f6 (f0_e14 p0 p1 p2) (f0_e15 p0 p1 p2) (f0_e16 p0 p1 p2))), .unset, .val (.int (32 : Int32)), .unset, .unset] [])) _
              refine XS.iload X98.here hx rfl (hb hby at_300) rfl ?_
              show Steps p.tables e below (T98.setTop (mkF m 302 #[.val (.int p0), .val (.int p1), .val (.int p2), .val (.int p3), .val (.int (f1 p0)), .val (.int (f1 p1)), .val (.int (f1 p2)), .val (.int (f0_s0_29001 p3)), .val (.int (f0_s0_44002 p3)), .val (.ref b10), .val (.int (f0_e7 p0 p1 p2)), .val (.int (f6 (f0_e14 p0 p1 p2) (f0_e15 p0 p1 p2) (f0_e16 p0 p1 p2))), .unset, .val (.int (32 : Int32)), .unset, .unset] [(.int (f1 p2))])) _
              refine XS.bipush X98.here hx rfl (hb hby at_302) ?_
              exact kt)
            have pre105 : ∀ t, Steps p.tables e below (T98.setTop (mkF m 312 #[.val (.int p0), .val (.int p1), .val (.int p2), .val (.int p3), .val (.int (f1 p0)), .val (.int (f1 p1)), .val (.int (f1 p2)), .val (.int (f0_s0_29001 p3)), .val (.int (f0_s0_44002 p3)), .val (.ref b10), .val (.int (f0_e7 p0 p1 p2)), .val (.int (f6 (f0_e14 p0 p1 p2) (f0_e15 p0 p1 p2) (f0_e16 p0 p1 p2))), .unset, .val (.int (32 : Int32)), .unset, .unset] [(.int (f0_s0_312021 p2))])) t → Steps p.tables e below (s₁.setTop (entryFrame m #[(.int p0), (.int p1), (.int p2), (.int p3)] maxLocals)) t := by
              intro t kt
              by_cases hc104 : (f1 p2) = (91 : Int32)
              · have hj : (f0_s0_312021 p2) = (1 : Int32) := by unfold f0_s0_312021; rw [if_pos hc104]
                rw [hj] at kt
                refine pre103 t ?_
                show Steps p.tables e below (T98.setTop (mkF m 304 #[.val (.int p0), .val (.int p1), .val (.int p2), .val (.int p3), .val (.int (f1 p0)), .val (.int (f1 p1)), .val (.int (f1 p2)), .val (.int (f0_s0_29001 p3)), .val (.int (f0_s0_44002 p3)), .val (.ref b10), .val (.int (f0_e7 p0 p1 p2)), .val (.int (f6 (f0_e14 p0 p1 p2) (f0_e15 p0 p1 p2) (f0_e16 p0 p1 p2))), .unset, .val (.int (32 : Int32)), .unset, .unset] [(.int (91 : Int32)), (.int (f1 p2))])) _
                refine XS.icmpNo X98.here hx rfl (hb hby at_304) rfl (teq hc104).2 ?_
                show Steps p.tables e below (T98.setTop (mkF m 307 #[.val (.int p0), .val (.int p1), .val (.int p2), .val (.int p3), .val (.int (f1 p0)), .val (.int (f1 p1)), .val (.int (f1 p2)), .val (.int (f0_s0_29001 p3)), .val (.int (f0_s0_44002 p3)), .val (.ref b10), .val (.int (f0_e7 p0 p1 p2)), .val (.int (f6 (f0_e14 p0 p1 p2) (f0_e15 p0 p1 p2) (f0_e16 p0 p1 p2))), .unset, .val (.int (32 : Int32)), .unset, .unset] [])) _
                refine XS.iconst X98.here hx rfl (hb hby at_307) ?_
                show Steps p.tables e below (T98.setTop (mkF m 308 #[.val (.int p0), .val (.int p1), .val (.int p2), .val (.int p3), .val (.int (f1 p0)), .val (.int (f1 p1)), .val (.int (f1 p2)), .val (.int (f0_s0_29001 p3)), .val (.int (f0_s0_44002 p3)), .val (.ref b10), .val (.int (f0_e7 p0 p1 p2)), .val (.int (f6 (f0_e14 p0 p1 p2) (f0_e15 p0 p1 p2) (f0_e16 p0 p1 p2))), .unset, .val (.int (32 : Int32)), .unset, .unset] [(.int (1 : Int32))])) _
                refine XS.goto X98.here hx rfl (pc0 := 308) (pc' := 312) rfl (hb hby at_308) (by decide) (by decide) ?_
                exact kt
              · have hj : (f0_s0_312021 p2) = (0 : Int32) := by unfold f0_s0_312021; rw [if_neg hc104]
                rw [hj] at kt
                refine pre103 t ?_
                show Steps p.tables e below (T98.setTop (mkF m 304 #[.val (.int p0), .val (.int p1), .val (.int p2), .val (.int p3), .val (.int (f1 p0)), .val (.int (f1 p1)), .val (.int (f1 p2)), .val (.int (f0_s0_29001 p3)), .val (.int (f0_s0_44002 p3)), .val (.ref b10), .val (.int (f0_e7 p0 p1 p2)), .val (.int (f6 (f0_e14 p0 p1 p2) (f0_e15 p0 p1 p2) (f0_e16 p0 p1 p2))), .unset, .val (.int (32 : Int32)), .unset, .unset] [(.int (91 : Int32)), (.int (f1 p2))])) _
                refine XS.icmpYes X98.here hx rfl (pc0 := 304) (pc' := 311) rfl (hb hby at_304) rfl (feq hc104).2 (by decide) (by decide) ?_
                show Steps p.tables e below (T98.setTop (mkF m 311 #[.val (.int p0), .val (.int p1), .val (.int p2), .val (.int p3), .val (.int (f1 p0)), .val (.int (f1 p1)), .val (.int (f1 p2)), .val (.int (f0_s0_29001 p3)), .val (.int (f0_s0_44002 p3)), .val (.ref b10), .val (.int (f0_e7 p0 p1 p2)), .val (.int (f6 (f0_e14 p0 p1 p2) (f0_e15 p0 p1 p2) (f0_e16 p0 p1 p2))), .unset, .val (.int (32 : Int32)), .unset, .unset] [])) _
                refine XS.iconst X98.here hx rfl (hb hby at_311) ?_
                exact kt
            refine ⟨T98, _, X98, e98, N98, fun t kt => ?_⟩
            have hj : (f0_l12_395028 p0 p1 p2) = (f0_s0_312021 p2) := by unfold f0_l12_395028; rw [if_neg hc86, if_pos hc100, if_pos hc102]
            rw [hj] at kt
            have hj : (f0_l13_395029 p0 p1 p2) = (32 : Int32) := by unfold f0_l13_395029; rw [if_neg hc86, if_pos hc100, if_pos hc102]
            rw [hj] at kt
            refine pre105 t ?_
            show Steps p.tables e below (T98.setTop (mkF m 312 #[.val (.int p0), .val (.int p1), .val (.int p2), .val (.int p3), .val (.int (f1 p0)), .val (.int (f1 p1)), .val (.int (f1 p2)), .val (.int (f0_s0_29001 p3)), .val (.int (f0_s0_44002 p3)), .val (.ref b10), .val (.int (f0_e7 p0 p1 p2)), .val (.int (f6 (f0_e14 p0 p1 p2) (f0_e15 p0 p1 p2) (f0_e16 p0 p1 p2))), .unset, .val (.int (32 : Int32)), .unset, .unset] [(.int (f0_s0_312021 p2))])) _
            refine XS.istore X98.here hx rfl (hb hby at_312) rfl (l' := #[.val (.int p0), .val (.int p1), .val (.int p2), .val (.int p3), .val (.int (f1 p0)), .val (.int (f1 p1)), .val (.int (f1 p2)), .val (.int (f0_s0_29001 p3)), .val (.int (f0_s0_44002 p3)), .val (.ref b10), .val (.int (f0_e7 p0 p1 p2)), .val (.int (f6 (f0_e14 p0 p1 p2) (f0_e15 p0 p1 p2) (f0_e16 p0 p1 p2))), .val (.int (f0_s0_312021 p2)), .val (.int (32 : Int32)), .unset, .unset]) rfl ?_
            show Steps p.tables e below (T98.setTop (mkF m 314 #[.val (.int p0), .val (.int p1), .val (.int p2), .val (.int p3), .val (.int (f1 p0)), .val (.int (f1 p1)), .val (.int (f1 p2)), .val (.int (f0_s0_29001 p3)), .val (.int (f0_s0_44002 p3)), .val (.ref b10), .val (.int (f0_e7 p0 p1 p2)), .val (.int (f6 (f0_e14 p0 p1 p2) (f0_e15 p0 p1 p2) (f0_e16 p0 p1 p2))), .val (.int (f0_s0_312021 p2)), .val (.int (32 : Int32)), .unset, .unset] [])) _
            refine XS.goto X98.here hx rfl (pc0 := 314) (pc' := 395) rfl (hb hby at_314) (by decide) (by decide) ?_
            exact kt
          · obtain ⟨_, _, ⟨T106, L106, k106, n106⟩, -, X106, ⟨Lc106, hQ106, l106, y106, z106⟩, st106⟩ := Jvm.LawKit.callS X98 hx (y := (⟨"com/example/libinterp/libinterp/SelectorScanReadPinLaw", "isQuote", "(C)Z"⟩ : MethodName)) hown (mvT hZ (hw _ (List.mem_of_getElem? (i := 31) rfl))) (mvT hZ (hw _ (List.mem_of_getElem? (i := 32) rfl))) (mvT hZ (hw _ (List.mem_of_getElem? (i := 2) rfl))) (mvT hZ (hw _ (List.mem_of_getElem? (i := 33) rfl))) (by decide) (backOf (W := 0) (rm7 l Z a0 hw [] (f1 p1) T83.heap n0 Zz83) hZ (hw _ (List.mem_of_getElem? (i := 33) rfl)) (hw _ (List.mem_of_getElem? (i := 2) rfl)) (by decide) (by decide)) (g := (mkF m 319 #[.val (.int p0), .val (.int p1), .val (.int p2), .val (.int p3), .val (.int (f1 p0)), .val (.int (f1 p1)), .val (.int (f1 p2)), .val (.int (f0_s0_29001 p3)), .val (.int (f0_s0_44002 p3)), .val (.ref b10), .val (.int (f0_e7 p0 p1 p2)), .val (.int (f6 (f0_e14 p0 p1 p2) (f0_e15 p0 p1 p2) (f0_e16 p0 p1 p2))), .unset, .val (.int (32 : Int32)), .unset, .unset] [(.int (f1 p1))])) rfl (by rw [hml]; rfl) (argsL := [(.int (f1 p1))]) (rest := []) (lenOf pd_0 rfl) rfl (by show 2 * 0 + _ ≤ _; exact Nat.le_of_eq rfl) (hb hby at_319) (fun _ _ => ⟨rfl, e98, (by decide : 1 + 0 ≤ _), (by decide : 3 + 0 ≤ _)⟩)
            dsimp only [Pt.U, Pt.locs, Pt.cells, Pt.slots] at X106 l106 y106 z106 st106 hQ106
            subst l106 y106 z106
            obtain ⟨rfl, N106q, e106⟩ := hQ106
            have N106 := Fr.app N98 N106q
            have pre107 : ∀ t, Steps p.tables e below (T106.setTop (mkF m 322 #[.val (.int p0), .val (.int p1), .val (.int p2), .val (.int p3), .val (.int (f1 p0)), .val (.int (f1 p1)), .val (.int (f1 p2)), .val (.int (f0_s0_29001 p3)), .val (.int (f0_s0_44002 p3)), .val (.ref b10), .val (.int (f0_e7 p0 p1 p2)), .val (.int (f6 (f0_e14 p0 p1 p2) (f0_e15 p0 p1 p2) (f0_e16 p0 p1 p2))), .unset, .val (.int (32 : Int32)), .unset, .unset] [(.int (f7 (f1 p1)))])) t → Steps p.tables e below (s₁.setTop (entryFrame m #[(.int p0), (.int p1), (.int p2), (.int p3)] maxLocals)) t := fun t kt => pre101 t (by
              show Steps p.tables e below (T98.setTop (mkF m 297 #[.val (.int p0), .val (.int p1), .val (.int p2), .val (.int p3), .val (.int (f1 p0)), .val (.int (f1 p1)), .val (.int (f1 p2)), .val (.int (f0_s0_29001 p3)), .val (.int (f0_s0_44002 p3)), .val (.ref b10), .val (.int (f0_e7 p0 p1 p2)), .val (.int (f6 (f0_e14 p0 p1 p2) (f0_e15 p0 p1 p2) (f0_e16 p0 p1 p2))), .unset, .val (.int (32 : Int32)), .unset, .unset] [(.int (93 : Int32)), (.int (f1 p1))])) _
              refine XS.icmpYes X98.here hx rfl (pc0 := 297) (pc' := 317) rfl (hb hby at_297) rfl (feq hc102).2 (by decide) (by decide) ?_
              show Steps p.tables e below (T98.setTop (mkF m 317 #[.val (.int p0), .val (.int p1), .val (.int p2), .val (.int p3), .val (.int (f1 p0)), .val (.int (f1 p1)), .val (.int (f1 p2)), .val (.int (f0_s0_29001 p3)), .val (.int (f0_s0_44002 p3)), .val (.ref b10), .val (.int (f0_e7 p0 p1 p2)), .val (.int (f6 (f0_e14 p0 p1 p2) (f0_e15 p0 p1 p2) (f0_e16 p0 p1 p2))), .unset, .val (.int (32 : Int32)), .unset, .unset] [])) _
              refine XS.iload X98.here hx rfl (hb hby at_317) rfl ?_
              show Steps p.tables e below (T98.setTop (mkF m 319 #[.val (.int p0), .val (.int p1), .val (.int p2), .val (.int p3), .val (.int (f1 p0)), .val (.int (f1 p1)), .val (.int (f1 p2)), .val (.int (f0_s0_29001 p3)), .val (.int (f0_s0_44002 p3)), .val (.ref b10), .val (.int (f0_e7 p0 p1 p2)), .val (.int (f6 (f0_e14 p0 p1 p2) (f0_e15 p0 p1 p2) (f0_e16 p0 p1 p2))), .unset, .val (.int (32 : Int32)), .unset, .unset] [(.int (f1 p1))])) _
              refine st106 _ ?_
              exact kt)
            by_cases hc108 : (f7 (f1 p1)) = (0 : Int32)
            · have pre109 : ∀ t, Steps p.tables e below (T106.setTop (mkF m 365 #[.val (.int p0), .val (.int p1), .val (.int p2), .val (.int p3), .val (.int (f1 p0)), .val (.int (f1 p1)), .val (.int (f1 p2)), .val (.int (f0_s0_29001 p3)), .val (.int (f0_s0_44002 p3)), .val (.ref b10), .val (.int (f0_e7 p0 p1 p2)), .val (.int (f6 (f0_e14 p0 p1 p2) (f0_e15 p0 p1 p2) (f0_e16 p0 p1 p2))), .unset, .val (.int (32 : Int32)), .unset, .unset] [(.int (93 : Int32)), (.int (f1 p2))])) t → Steps p.tables e below (s₁.setTop (entryFrame m #[(.int p0), (.int p1), (.int p2), (.int p3)] maxLocals)) t := fun t kt => pre107 t (by
                show Steps p.tables e below (T106.setTop (mkF m 322 #[.val (.int p0), .val (.int p1), .val (.int p2), .val (.int p3), .val (.int (f1 p0)), .val (.int (f1 p1)), .val (.int (f1 p2)), .val (.int (f0_s0_29001 p3)), .val (.int (f0_s0_44002 p3)), .val (.ref b10), .val (.int (f0_e7 p0 p1 p2)), .val (.int (f6 (f0_e14 p0 p1 p2) (f0_e15 p0 p1 p2) (f0_e16 p0 p1 p2))), .unset, .val (.int (32 : Int32)), .unset, .unset] [(.int (f7 (f1 p1)))])) _
                refine XS.ifYes X106.here hx rfl (pc0 := 322) (pc' := 361) rfl (hb hby at_322) rfl ((if0 _ _).trans (teq hc108).1) (by decide) (by decide) ?_
                show Steps p.tables e below (T106.setTop (mkF m 361 #[.val (.int p0), .val (.int p1), .val (.int p2), .val (.int p3), .val (.int (f1 p0)), .val (.int (f1 p1)), .val (.int (f1 p2)), .val (.int (f0_s0_29001 p3)), .val (.int (f0_s0_44002 p3)), .val (.ref b10), .val (.int (f0_e7 p0 p1 p2)), .val (.int (f6 (f0_e14 p0 p1 p2) (f0_e15 p0 p1 p2) (f0_e16 p0 p1 p2))), .unset, .val (.int (32 : Int32)), .unset, .unset] [])) _
                refine XS.iload X106.here hx rfl (hb hby at_361) rfl ?_
                show Steps p.tables e below (T106.setTop (mkF m 363 #[.val (.int p0), .val (.int p1), .val (.int p2), .val (.int p3), .val (.int (f1 p0)), .val (.int (f1 p1)), .val (.int (f1 p2)), .val (.int (f0_s0_29001 p3)), .val (.int (f0_s0_44002 p3)), .val (.ref b10), .val (.int (f0_e7 p0 p1 p2)), .val (.int (f6 (f0_e14 p0 p1 p2) (f0_e15 p0 p1 p2) (f0_e16 p0 p1 p2))), .unset, .val (.int (32 : Int32)), .unset, .unset] [(.int (f1 p2))])) _
                refine XS.bipush X106.here hx rfl (hb hby at_363) ?_
                exact kt)
              by_cases hc110 : (f1 p2) = (93 : Int32)
              · refine ⟨T106, _, X106, e106, N106, fun t kt => ?_⟩
                have hj : (f0_l12_395028 p0 p1 p2) = (0 : Int32) := by unfold f0_l12_395028; rw [if_neg hc86, if_pos hc100, if_neg hc102, if_pos hc108, if_pos hc110]
                rw [hj] at kt
                have hj : (f0_l13_395029 p0 p1 p2) = (32 : Int32) := by unfold f0_l13_395029; rw [if_neg hc86, if_pos hc100, if_neg hc102, if_pos hc108, if_pos hc110]
                rw [hj] at kt
                refine pre109 t ?_
                show Steps p.tables e below (T106.setTop (mkF m 365 #[.val (.int p0), .val (.int p1), .val (.int p2), .val (.int p3), .val (.int (f1 p0)), .val (.int (f1 p1)), .val (.int (f1 p2)), .val (.int (f0_s0_29001 p3)), .val (.int (f0_s0_44002 p3)), .val (.ref b10), .val (.int (f0_e7 p0 p1 p2)), .val (.int (f6 (f0_e14 p0 p1 p2) (f0_e15 p0 p1 p2) (f0_e16 p0 p1 p2))), .unset, .val (.int (32 : Int32)), .unset, .unset] [(.int (93 : Int32)), (.int (f1 p2))])) _
                refine XS.icmpNo X106.here hx rfl (hb hby at_365) rfl (teq hc110).2 ?_
                show Steps p.tables e below (T106.setTop (mkF m 368 #[.val (.int p0), .val (.int p1), .val (.int p2), .val (.int p3), .val (.int (f1 p0)), .val (.int (f1 p1)), .val (.int (f1 p2)), .val (.int (f0_s0_29001 p3)), .val (.int (f0_s0_44002 p3)), .val (.ref b10), .val (.int (f0_e7 p0 p1 p2)), .val (.int (f6 (f0_e14 p0 p1 p2) (f0_e15 p0 p1 p2) (f0_e16 p0 p1 p2))), .unset, .val (.int (32 : Int32)), .unset, .unset] [])) _
                refine XS.iconst X106.here hx rfl (hb hby at_368) ?_
                show Steps p.tables e below (T106.setTop (mkF m 369 #[.val (.int p0), .val (.int p1), .val (.int p2), .val (.int p3), .val (.int (f1 p0)), .val (.int (f1 p1)), .val (.int (f1 p2)), .val (.int (f0_s0_29001 p3)), .val (.int (f0_s0_44002 p3)), .val (.ref b10), .val (.int (f0_e7 p0 p1 p2)), .val (.int (f6 (f0_e14 p0 p1 p2) (f0_e15 p0 p1 p2) (f0_e16 p0 p1 p2))), .unset, .val (.int (32 : Int32)), .unset, .unset] [(.int (0 : Int32))])) _
                refine XS.istore X106.here hx rfl (hb hby at_369) rfl (l' := #[.val (.int p0), .val (.int p1), .val (.int p2), .val (.int p3), .val (.int (f1 p0)), .val (.int (f1 p1)), .val (.int (f1 p2)), .val (.int (f0_s0_29001 p3)), .val (.int (f0_s0_44002 p3)), .val (.ref b10), .val (.int (f0_e7 p0 p1 p2)), .val (.int (f6 (f0_e14 p0 p1 p2) (f0_e15 p0 p1 p2) (f0_e16 p0 p1 p2))), .val (.int (0 : Int32)), .val (.int (32 : Int32)), .unset, .unset]) rfl ?_
                show Steps p.tables e below (T106.setTop (mkF m 371 #[.val (.int p0), .val (.int p1), .val (.int p2), .val (.int p3), .val (.int (f1 p0)), .val (.int (f1 p1)), .val (.int (f1 p2)), .val (.int (f0_s0_29001 p3)), .val (.int (f0_s0_44002 p3)), .val (.ref b10), .val (.int (f0_e7 p0 p1 p2)), .val (.int (f6 (f0_e14 p0 p1 p2) (f0_e15 p0 p1 p2) (f0_e16 p0 p1 p2))), .val (.int (0 : Int32)), .val (.int (32 : Int32)), .unset, .unset] [])) _
                refine XS.goto X106.here hx rfl (pc0 := 371) (pc' := 395) rfl (hb hby at_371) (by decide) (by decide) ?_
                exact kt
              · obtain ⟨_, _, ⟨T111, L111, k111, n111⟩, -, X111, ⟨Lc111, hQ111, l111, y111, z111⟩, st111⟩ := Jvm.LawKit.callS X106 hx (y := (⟨"com/example/libinterp/libinterp/SelectorScanReadPinLaw", "isQuote", "(C)Z"⟩ : MethodName)) hown (mvT hZ (hw _ (List.mem_of_getElem? (i := 31) rfl))) (mvT hZ (hw _ (List.mem_of_getElem? (i := 32) rfl))) (mvT hZ (hw _ (List.mem_of_getElem? (i := 2) rfl))) (mvT hZ (hw _ (List.mem_of_getElem? (i := 33) rfl))) (by decide) (backOf (W := 0) (rm7 l Z a0 hw [] (f1 p2) T83.heap n0 Zz83) hZ (hw _ (List.mem_of_getElem? (i := 33) rfl)) (hw _ (List.mem_of_getElem? (i := 2) rfl)) (by decide) (by decide)) (g := (mkF m 376 #[.val (.int p0), .val (.int p1), .val (.int p2), .val (.int p3), .val (.int (f1 p0)), .val (.int (f1 p1)), .val (.int (f1 p2)), .val (.int (f0_s0_29001 p3)), .val (.int (f0_s0_44002 p3)), .val (.ref b10), .val (.int (f0_e7 p0 p1 p2)), .val (.int (f6 (f0_e14 p0 p1 p2) (f0_e15 p0 p1 p2) (f0_e16 p0 p1 p2))), .unset, .val (.int (32 : Int32)), .unset, .unset] [(.int (f1 p2))])) rfl (by rw [hml]; rfl) (argsL := [(.int (f1 p2))]) (rest := []) (lenOf pd_0 rfl) rfl (by show 2 * 0 + _ ≤ _; exact Nat.le_of_eq rfl) (hb hby at_376) (fun _ _ => ⟨rfl, e106, (by decide : 1 + 0 ≤ _), (by decide : 3 + 0 ≤ _)⟩)
                dsimp only [Pt.U, Pt.locs, Pt.cells, Pt.slots] at X111 l111 y111 z111 st111 hQ111
                subst l111 y111 z111
                obtain ⟨rfl, N111q, e111⟩ := hQ111
                have N111 := Fr.app N106 N111q
                have pre112 : ∀ t, Steps p.tables e below (T111.setTop (mkF m 379 #[.val (.int p0), .val (.int p1), .val (.int p2), .val (.int p3), .val (.int (f1 p0)), .val (.int (f1 p1)), .val (.int (f1 p2)), .val (.int (f0_s0_29001 p3)), .val (.int (f0_s0_44002 p3)), .val (.ref b10), .val (.int (f0_e7 p0 p1 p2)), .val (.int (f6 (f0_e14 p0 p1 p2) (f0_e15 p0 p1 p2) (f0_e16 p0 p1 p2))), .unset, .val (.int (32 : Int32)), .unset, .unset] [(.int (f7 (f1 p2)))])) t → Steps p.tables e below (s₁.setTop (entryFrame m #[(.int p0), (.int p1), (.int p2), (.int p3)] maxLocals)) t := fun t kt => pre109 t (by
                  show Steps p.tables e below (T106.setTop (mkF m 365 #[.val (.int p0), .val (.int p1), .val (.int p2), .val (.int p3), .val (.int (f1 p0)), .val (.int (f1 p1)), .val (.int (f1 p2)), .val (.int (f0_s0_29001 p3)), .val (.int (f0_s0_44002 p3)), .val (.ref b10), .val (.int (f0_e7 p0 p1 p2)), .val (.int (f6 (f0_e14 p0 p1 p2) (f0_e15 p0 p1 p2) (f0_e16 p0 p1 p2))), .unset, .val (.int (32 : Int32)), .unset, .unset] [(.int (93 : Int32)), (.int (f1 p2))])) _
                  refine XS.icmpYes X106.here hx rfl (pc0 := 365) (pc' := 374) rfl (hb hby at_365) rfl (feq hc110).2 (by decide) (by decide) ?_
                  show Steps p.tables e below (T106.setTop (mkF m 374 #[.val (.int p0), .val (.int p1), .val (.int p2), .val (.int p3), .val (.int (f1 p0)), .val (.int (f1 p1)), .val (.int (f1 p2)), .val (.int (f0_s0_29001 p3)), .val (.int (f0_s0_44002 p3)), .val (.ref b10), .val (.int (f0_e7 p0 p1 p2)), .val (.int (f6 (f0_e14 p0 p1 p2) (f0_e15 p0 p1 p2) (f0_e16 p0 p1 p2))), .unset, .val (.int (32 : Int32)), .unset, .unset] [])) _
                  refine XS.iload X106.here hx rfl (hb hby at_374) rfl ?_
                  show Steps p.tables e below (T106.setTop (mkF m 376 #[.val (.int p0), .val (.int p1), .val (.int p2), .val (.int p3), .val (.int (f1 p0)), .val (.int (f1 p1)), .val (.int (f1 p2)), .val (.int (f0_s0_29001 p3)), .val (.int (f0_s0_44002 p3)), .val (.ref b10), .val (.int (f0_e7 p0 p1 p2)), .val (.int (f6 (f0_e14 p0 p1 p2) (f0_e15 p0 p1 p2) (f0_e16 p0 p1 p2))), .unset, .val (.int (32 : Int32)), .unset, .unset] [(.int (f1 p2))])) _
                  refine st111 _ ?_
                  exact kt)
                have pre114 : ∀ t, Steps p.tables e below (T111.setTop (mkF m 395 #[.val (.int p0), .val (.int p1), .val (.int p2), .val (.int p3), .val (.int (f1 p0)), .val (.int (f1 p1)), .val (.int (f1 p2)), .val (.int (f0_s0_29001 p3)), .val (.int (f0_s0_44002 p3)), .val (.ref b10), .val (.int (f0_e7 p0 p1 p2)), .val (.int (f6 (f0_e14 p0 p1 p2) (f0_e15 p0 p1 p2) (f0_e16 p0 p1 p2))), .val (.int (f0_l12_395022 p2)), .val (.int (f0_l13_395023 p2)), .unset, .unset] [])) t → Steps p.tables e below (s₁.setTop (entryFrame m #[(.int p0), (.int p1), (.int p2), (.int p3)] maxLocals)) t := by
                  intro t kt
                  by_cases hc113 : (f7 (f1 p2)) = (0 : Int32)
                  · have hj : (f0_l12_395022 p2) = (1 : Int32) := by unfold f0_l12_395022; rw [if_pos hc113]
                    rw [hj] at kt
                    have hj : (f0_l13_395023 p2) = (32 : Int32) := by unfold f0_l13_395023; rw [if_pos hc113]
                    rw [hj] at kt
                    refine pre112 t ?_
                    show Steps p.tables e below (T111.setTop (mkF m 379 #[.val (.int p0), .val (.int p1), .val (.int p2), .val (.int p3), .val (.int (f1 p0)), .val (.int (f1 p1)), .val (.int (f1 p2)), .val (.int (f0_s0_29001 p3)), .val (.int (f0_s0_44002 p3)), .val (.ref b10), .val (.int (f0_e7 p0 p1 p2)), .val (.int (f6 (f0_e14 p0 p1 p2) (f0_e15 p0 p1 p2) (f0_e16 p0 p1 p2))), .unset, .val (.int (32 : Int32)), .unset, .unset] [(.int (f7 (f1 p2)))])) _
                    refine XS.ifYes X111.here hx rfl (pc0 := 379) (pc' := 392) rfl (hb hby at_379) rfl ((if0 _ _).trans (teq hc113).1) (by decide) (by decide) ?_
                    show Steps p.tables e below (T111.setTop (mkF m 392 #[.val (.int p0), .val (.int p1), .val (.int p2), .val (.int p3), .val (.int (f1 p0)), .val (.int (f1 p1)), .val (.int (f1 p2)), .val (.int (f0_s0_29001 p3)), .val (.int (f0_s0_44002 p3)), .val (.ref b10), .val (.int (f0_e7 p0 p1 p2)), .val (.int (f6 (f0_e14 p0 p1 p2) (f0_e15 p0 p1 p2) (f0_e16 p0 p1 p2))), .unset, .val (.int (32 : Int32)), .unset, .unset] [])) _
                    refine XS.iconst X111.here hx rfl (hb hby at_392) ?_
                    show Steps p.tables e below (T111.setTop (mkF m 393 #[.val (.int p0), .val (.int p1), .val (.int p2), .val (.int p3), .val (.int (f1 p0)), .val (.int (f1 p1)), .val (.int (f1 p2)), .val (.int (f0_s0_29001 p3)), .val (.int (f0_s0_44002 p3)), .val (.ref b10), .val (.int (f0_e7 p0 p1 p2)), .val (.int (f6 (f0_e14 p0 p1 p2) (f0_e15 p0 p1 p2) (f0_e16 p0 p1 p2))), .unset, .val (.int (32 : Int32)), .unset, .unset] [(.int (1 : Int32))])) _
                    refine XS.istore X111.here hx rfl (hb hby at_393) rfl (l' := #[.val (.int p0), .val (.int p1), .val (.int p2), .val (.int p3), .val (.int (f1 p0)), .val (.int (f1 p1)), .val (.int (f1 p2)), .val (.int (f0_s0_29001 p3)), .val (.int (f0_s0_44002 p3)), .val (.ref b10), .val (.int (f0_e7 p0 p1 p2)), .val (.int (f6 (f0_e14 p0 p1 p2) (f0_e15 p0 p1 p2) (f0_e16 p0 p1 p2))), .val (.int (1 : Int32)), .val (.int (32 : Int32)), .unset, .unset]) rfl ?_
                    exact kt
                  · have hj : (f0_l12_395022 p2) = (2 : Int32) := by unfold f0_l12_395022; rw [if_neg hc113]
                    rw [hj] at kt
                    have hj : (f0_l13_395023 p2) = (f1 p2) := by unfold f0_l13_395023; rw [if_neg hc113]
                    rw [hj] at kt
                    refine pre112 t ?_
                    show Steps p.tables e below (T111.setTop (mkF m 379 #[.val (.int p0), .val (.int p1), .val (.int p2), .val (.int p3), .val (.int (f1 p0)), .val (.int (f1 p1)), .val (.int (f1 p2)), .val (.int (f0_s0_29001 p3)), .val (.int (f0_s0_44002 p3)), .val (.ref b10), .val (.int (f0_e7 p0 p1 p2)), .val (.int (f6 (f0_e14 p0 p1 p2) (f0_e15 p0 p1 p2) (f0_e16 p0 p1 p2))), .unset, .val (.int (32 : Int32)), .unset, .unset] [(.int (f7 (f1 p2)))])) _
                    refine XS.ifNo X111.here hx rfl (hb hby at_379) rfl ((if0 _ _).trans (feq hc113).1) ?_
                    show Steps p.tables e below (T111.setTop (mkF m 382 #[.val (.int p0), .val (.int p1), .val (.int p2), .val (.int p3), .val (.int (f1 p0)), .val (.int (f1 p1)), .val (.int (f1 p2)), .val (.int (f0_s0_29001 p3)), .val (.int (f0_s0_44002 p3)), .val (.ref b10), .val (.int (f0_e7 p0 p1 p2)), .val (.int (f6 (f0_e14 p0 p1 p2) (f0_e15 p0 p1 p2) (f0_e16 p0 p1 p2))), .unset, .val (.int (32 : Int32)), .unset, .unset] [])) _
                    refine XS.iconst X111.here hx rfl (hb hby at_382) ?_
                    show Steps p.tables e below (T111.setTop (mkF m 383 #[.val (.int p0), .val (.int p1), .val (.int p2), .val (.int p3), .val (.int (f1 p0)), .val (.int (f1 p1)), .val (.int (f1 p2)), .val (.int (f0_s0_29001 p3)), .val (.int (f0_s0_44002 p3)), .val (.ref b10), .val (.int (f0_e7 p0 p1 p2)), .val (.int (f6 (f0_e14 p0 p1 p2) (f0_e15 p0 p1 p2) (f0_e16 p0 p1 p2))), .unset, .val (.int (32 : Int32)), .unset, .unset] [(.int (2 : Int32))])) _
                    refine XS.istore X111.here hx rfl (hb hby at_383) rfl (l' := #[.val (.int p0), .val (.int p1), .val (.int p2), .val (.int p3), .val (.int (f1 p0)), .val (.int (f1 p1)), .val (.int (f1 p2)), .val (.int (f0_s0_29001 p3)), .val (.int (f0_s0_44002 p3)), .val (.ref b10), .val (.int (f0_e7 p0 p1 p2)), .val (.int (f6 (f0_e14 p0 p1 p2) (f0_e15 p0 p1 p2) (f0_e16 p0 p1 p2))), .val (.int (2 : Int32)), .val (.int (32 : Int32)), .unset, .unset]) rfl ?_
                    show Steps p.tables e below (T111.setTop (mkF m 385 #[.val (.int p0), .val (.int p1), .val (.int p2), .val (.int p3), .val (.int (f1 p0)), .val (.int (f1 p1)), .val (.int (f1 p2)), .val (.int (f0_s0_29001 p3)), .val (.int (f0_s0_44002 p3)), .val (.ref b10), .val (.int (f0_e7 p0 p1 p2)), .val (.int (f6 (f0_e14 p0 p1 p2) (f0_e15 p0 p1 p2) (f0_e16 p0 p1 p2))), .val (.int (2 : Int32)), .val (.int (32 : Int32)), .unset, .unset] [])) _
                    refine XS.iload X111.here hx rfl (hb hby at_385) rfl ?_
                    show Steps p.tables e below (T111.setTop (mkF m 387 #[.val (.int p0), .val (.int p1), .val (.int p2), .val (.int p3), .val (.int (f1 p0)), .val (.int (f1 p1)), .val (.int (f1 p2)), .val (.int (f0_s0_29001 p3)), .val (.int (f0_s0_44002 p3)), .val (.ref b10), .val (.int (f0_e7 p0 p1 p2)), .val (.int (f6 (f0_e14 p0 p1 p2) (f0_e15 p0 p1 p2) (f0_e16 p0 p1 p2))), .val (.int (2 : Int32)), .val (.int (32 : Int32)), .unset, .unset] [(.int (f1 p2))])) _
                    refine XS.istore X111.here hx rfl (hb hby at_387) rfl (l' := #[.val (.int p0), .val (.int p1), .val (.int p2), .val (.int p3), .val (.int (f1 p0)), .val (.int (f1 p1)), .val (.int (f1 p2)), .val (.int (f0_s0_29001 p3)), .val (.int (f0_s0_44002 p3)), .val (.ref b10), .val (.int (f0_e7 p0 p1 p2)), .val (.int (f6 (f0_e14 p0 p1 p2) (f0_e15 p0 p1 p2) (f0_e16 p0 p1 p2))), .val (.int (2 : Int32)), .val (.int (f1 p2)), .unset, .unset]) rfl ?_
                    show Steps p.tables e below (T111.setTop (mkF m 389 #[.val (.int p0), .val (.int p1), .val (.int p2), .val (.int p3), .val (.int (f1 p0)), .val (.int (f1 p1)), .val (.int (f1 p2)), .val (.int (f0_s0_29001 p3)), .val (.int (f0_s0_44002 p3)), .val (.ref b10), .val (.int (f0_e7 p0 p1 p2)), .val (.int (f6 (f0_e14 p0 p1 p2) (f0_e15 p0 p1 p2) (f0_e16 p0 p1 p2))), .val (.int (2 : Int32)), .val (.int (f1 p2)), .unset, .unset] [])) _
                    refine XS.goto X111.here hx rfl (pc0 := 389) (pc' := 395) rfl (hb hby at_389) (by decide) (by decide) ?_
                    exact kt
                refine ⟨T111, _, X111, e111, N111, fun t kt => ?_⟩
                have hj : (f0_l12_395028 p0 p1 p2) = (f0_l12_395022 p2) := by unfold f0_l12_395028; rw [if_neg hc86, if_pos hc100, if_neg hc102, if_pos hc108, if_neg hc110]
                rw [hj] at kt
                have hj : (f0_l13_395029 p0 p1 p2) = (f0_l13_395023 p2) := by unfold f0_l13_395029; rw [if_neg hc86, if_pos hc100, if_neg hc102, if_pos hc108, if_neg hc110]
                rw [hj] at kt
                refine pre114 t ?_
                exact kt
            · have pre115 : ∀ t, Steps p.tables e below (T106.setTop (mkF m 333 #[.val (.int p0), .val (.int p1), .val (.int p2), .val (.int p3), .val (.int (f1 p0)), .val (.int (f1 p1)), .val (.int (f1 p2)), .val (.int (f0_s0_29001 p3)), .val (.int (f0_s0_44002 p3)), .val (.ref b10), .val (.int (f0_e7 p0 p1 p2)), .val (.int (f6 (f0_e14 p0 p1 p2) (f0_e15 p0 p1 p2) (f0_e16 p0 p1 p2))), .unset, .val (.int (f1 p1)), .unset, .unset] [(.int (92 : Int32)), (.int (f1 p2))])) t → Steps p.tables e below (s₁.setTop (entryFrame m #[(.int p0), (.int p1), (.int p2), (.int p3)] maxLocals)) t := fun t kt => pre107 t (by
                show Steps p.tables e below (T106.setTop (mkF m 322 #[.val (.int p0), .val (.int p1), .val (.int p2), .val (.int p3), .val (.int (f1 p0)), .val (.int (f1 p1)), .val (.int (f1 p2)), .val (.int (f0_s0_29001 p3)), .val (.int (f0_s0_44002 p3)), .val (.ref b10), .val (.int (f0_e7 p0 p1 p2)), .val (.int (f6 (f0_e14 p0 p1 p2) (f0_e15 p0 p1 p2) (f0_e16 p0 p1 p2))), .unset, .val (.int (32 : Int32)), .unset, .unset] [(.int (f7 (f1 p1)))])) _
                refine XS.ifNo X106.here hx rfl (hb hby at_322) rfl ((if0 _ _).trans (feq hc108).1) ?_
                show Steps p.tables e below (T106.setTop (mkF m 325 #[.val (.int p0), .val (.int p1), .val (.int p2), .val (.int p3), .val (.int (f1 p0)), .val (.int (f1 p1)), .val (.int (f1 p2)), .val (.int (f0_s0_29001 p3)), .val (.int (f0_s0_44002 p3)), .val (.ref b10), .val (.int (f0_e7 p0 p1 p2)), .val (.int (f6 (f0_e14 p0 p1 p2) (f0_e15 p0 p1 p2) (f0_e16 p0 p1 p2))), .unset, .val (.int (32 : Int32)), .unset, .unset] [])) _
                refine XS.iload X106.here hx rfl (hb hby at_325) rfl ?_
                show Steps p.tables e below (T106.setTop (mkF m 327 #[.val (.int p0), .val (.int p1), .val (.int p2), .val (.int p3), .val (.int (f1 p0)), .val (.int (f1 p1)), .val (.int (f1 p2)), .val (.int (f0_s0_29001 p3)), .val (.int (f0_s0_44002 p3)), .val (.ref b10), .val (.int (f0_e7 p0 p1 p2)), .val (.int (f6 (f0_e14 p0 p1 p2) (f0_e15 p0 p1 p2) (f0_e16 p0 p1 p2))), .unset, .val (.int (32 : Int32)), .unset, .unset] [(.int (f1 p1))])) _
                refine XS.istore X106.here hx rfl (hb hby at_327) rfl (l' := #[.val (.int p0), .val (.int p1), .val (.int p2), .val (.int p3), .val (.int (f1 p0)), .val (.int (f1 p1)), .val (.int (f1 p2)), .val (.int (f0_s0_29001 p3)), .val (.int (f0_s0_44002 p3)), .val (.ref b10), .val (.int (f0_e7 p0 p1 p2)), .val (.int (f6 (f0_e14 p0 p1 p2) (f0_e15 p0 p1 p2) (f0_e16 p0 p1 p2))), .unset, .val (.int (f1 p1)), .unset, .unset]) rfl ?_
                show Steps p.tables e below (T106.setTop (mkF m 329 #[.val (.int p0), .val (.int p1), .val (.int p2), .val (.int p3), .val (.int (f1 p0)), .val (.int (f1 p1)), .val (.int (f1 p2)), .val (.int (f0_s0_29001 p3)), .val (.int (f0_s0_44002 p3)), .val (.ref b10), .val (.int (f0_e7 p0 p1 p2)), .val (.int (f6 (f0_e14 p0 p1 p2) (f0_e15 p0 p1 p2) (f0_e16 p0 p1 p2))), .unset, .val (.int (f1 p1)), .unset, .unset] [])) _
                refine XS.iload X106.here hx rfl (hb hby at_329) rfl ?_
                show Steps p.tables e below (T106.setTop (mkF m 331 #[.val (.int p0), .val (.int p1), .val (.int p2), .val (.int p3), .val (.int (f1 p0)), .val (.int (f1 p1)), .val (.int (f1 p2)), .val (.int (f0_s0_29001 p3)), .val (.int (f0_s0_44002 p3)), .val (.ref b10), .val (.int (f0_e7 p0 p1 p2)), .val (.int (f6 (f0_e14 p0 p1 p2) (f0_e15 p0 p1 p2) (f0_e16 p0 p1 p2))), .unset, .val (.int (f1 p1)), .unset, .unset] [(.int (f1 p2))])) _
                refine XS.bipush X106.here hx rfl (hb hby at_331) ?_
                exact kt)
              have pre118 : ∀ t, Steps p.tables e below (T106.setTop (mkF m 395 #[.val (.int p0), .val (.int p1), .val (.int p2), .val (.int p3), .val (.int (f1 p0)), .val (.int (f1 p1)), .val (.int (f1 p2)), .val (.int (f0_s0_29001 p3)), .val (.int (f0_s0_44002 p3)), .val (.ref b10), .val (.int (f0_e7 p0 p1 p2)), .val (.int (f6 (f0_e14 p0 p1 p2) (f0_e15 p0 p1 p2) (f0_e16 p0 p1 p2))), .val (.int (f0_l12_395024 p1 p2)), .val (.int (f1 p1)), .unset, .unset] [])) t → Steps p.tables e below (s₁.setTop (entryFrame m #[(.int p0), (.int p1), (.int p2), (.int p3)] maxLocals)) t := by
                intro t kt
                by_cases hc116 : (f1 p2) = (92 : Int32)
                · have hj : (f0_l12_395024 p1 p2) = (3 : Int32) := by unfold f0_l12_395024; rw [if_pos hc116]
                  rw [hj] at kt
                  refine pre115 t ?_
                  show Steps p.tables e below (T106.setTop (mkF m 333 #[.val (.int p0), .val (.int p1), .val (.int p2), .val (.int p3), .val (.int (f1 p0)), .val (.int (f1 p1)), .val (.int (f1 p2)), .val (.int (f0_s0_29001 p3)), .val (.int (f0_s0_44002 p3)), .val (.ref b10), .val (.int (f0_e7 p0 p1 p2)), .val (.int (f6 (f0_e14 p0 p1 p2) (f0_e15 p0 p1 p2) (f0_e16 p0 p1 p2))), .unset, .val (.int (f1 p1)), .unset, .unset] [(.int (92 : Int32)), (.int (f1 p2))])) _
                  refine XS.icmpNo X106.here hx rfl (hb hby at_333) rfl (teq hc116).2 ?_
                  show Steps p.tables e below (T106.setTop (mkF m 336 #[.val (.int p0), .val (.int p1), .val (.int p2), .val (.int p3), .val (.int (f1 p0)), .val (.int (f1 p1)), .val (.int (f1 p2)), .val (.int (f0_s0_29001 p3)), .val (.int (f0_s0_44002 p3)), .val (.ref b10), .val (.int (f0_e7 p0 p1 p2)), .val (.int (f6 (f0_e14 p0 p1 p2) (f0_e15 p0 p1 p2) (f0_e16 p0 p1 p2))), .unset, .val (.int (f1 p1)), .unset, .unset] [])) _
                  refine XS.iconst X106.here hx rfl (hb hby at_336) ?_
                  show Steps p.tables e below (T106.setTop (mkF m 337 #[.val (.int p0), .val (.int p1), .val (.int p2), .val (.int p3), .val (.int (f1 p0)), .val (.int (f1 p1)), .val (.int (f1 p2)), .val (.int (f0_s0_29001 p3)), .val (.int (f0_s0_44002 p3)), .val (.ref b10), .val (.int (f0_e7 p0 p1 p2)), .val (.int (f6 (f0_e14 p0 p1 p2) (f0_e15 p0 p1 p2) (f0_e16 p0 p1 p2))), .unset, .val (.int (f1 p1)), .unset, .unset] [(.int (3 : Int32))])) _
                  refine XS.istore X106.here hx rfl (hb hby at_337) rfl (l' := #[.val (.int p0), .val (.int p1), .val (.int p2), .val (.int p3), .val (.int (f1 p0)), .val (.int (f1 p1)), .val (.int (f1 p2)), .val (.int (f0_s0_29001 p3)), .val (.int (f0_s0_44002 p3)), .val (.ref b10), .val (.int (f0_e7 p0 p1 p2)), .val (.int (f6 (f0_e14 p0 p1 p2) (f0_e15 p0 p1 p2) (f0_e16 p0 p1 p2))), .val (.int (3 : Int32)), .val (.int (f1 p1)), .unset, .unset]) rfl ?_
                  show Steps p.tables e below (T106.setTop (mkF m 339 #[.val (.int p0), .val (.int p1), .val (.int p2), .val (.int p3), .val (.int (f1 p0)), .val (.int (f1 p1)), .val (.int (f1 p2)), .val (.int (f0_s0_29001 p3)), .val (.int (f0_s0_44002 p3)), .val (.ref b10), .val (.int (f0_e7 p0 p1 p2)), .val (.int (f6 (f0_e14 p0 p1 p2) (f0_e15 p0 p1 p2) (f0_e16 p0 p1 p2))), .val (.int (3 : Int32)), .val (.int (f1 p1)), .unset, .unset] [])) _
                  refine XS.goto X106.here hx rfl (pc0 := 339) (pc' := 395) rfl (hb hby at_339) (by decide) (by decide) ?_
                  exact kt
                · by_cases hc117 : (f1 p2) = (f1 p1)
                  · have hj : (f0_l12_395024 p1 p2) = (1 : Int32) := by unfold f0_l12_395024; rw [if_neg hc116, if_pos hc117]
                    rw [hj] at kt
                    refine pre115 t ?_
                    show Steps p.tables e below (T106.setTop (mkF m 333 #[.val (.int p0), .val (.int p1), .val (.int p2), .val (.int p3), .val (.int (f1 p0)), .val (.int (f1 p1)), .val (.int (f1 p2)), .val (.int (f0_s0_29001 p3)), .val (.int (f0_s0_44002 p3)), .val (.ref b10), .val (.int (f0_e7 p0 p1 p2)), .val (.int (f6 (f0_e14 p0 p1 p2) (f0_e15 p0 p1 p2) (f0_e16 p0 p1 p2))), .unset, .val (.int (f1 p1)), .unset, .unset] [(.int (92 : Int32)), (.int (f1 p2))])) _
                    refine XS.icmpYes X106.here hx rfl (pc0 := 333) (pc' := 342) rfl (hb hby at_333) rfl (feq hc116).2 (by decide) (by decide) ?_
                    show Steps p.tables e below (T106.setTop (mkF m 342 #[.val (.int p0), .val (.int p1), .val (.int p2), .val (.int p3), .val (.int (f1 p0)), .val (.int (f1 p1)), .val (.int (f1 p2)), .val (.int (f0_s0_29001 p3)), .val (.int (f0_s0_44002 p3)), .val (.ref b10), .val (.int (f0_e7 p0 p1 p2)), .val (.int (f6 (f0_e14 p0 p1 p2) (f0_e15 p0 p1 p2) (f0_e16 p0 p1 p2))), .unset, .val (.int (f1 p1)), .unset, .unset] [])) _
                    refine XS.iload X106.here hx rfl (hb hby at_342) rfl ?_
                    show Steps p.tables e below (T106.setTop (mkF m 344 #[.val (.int p0), .val (.int p1), .val (.int p2), .val (.int p3), .val (.int (f1 p0)), .val (.int (f1 p1)), .val (.int (f1 p2)), .val (.int (f0_s0_29001 p3)), .val (.int (f0_s0_44002 p3)), .val (.ref b10), .val (.int (f0_e7 p0 p1 p2)), .val (.int (f6 (f0_e14 p0 p1 p2) (f0_e15 p0 p1 p2) (f0_e16 p0 p1 p2))), .unset, .val (.int (f1 p1)), .unset, .unset] [(.int (f1 p2))])) _
                    refine XS.iload X106.here hx rfl (hb hby at_344) rfl ?_
                    show Steps p.tables e below (T106.setTop (mkF m 346 #[.val (.int p0), .val (.int p1), .val (.int p2), .val (.int p3), .val (.int (f1 p0)), .val (.int (f1 p1)), .val (.int (f1 p2)), .val (.int (f0_s0_29001 p3)), .val (.int (f0_s0_44002 p3)), .val (.ref b10), .val (.int (f0_e7 p0 p1 p2)), .val (.int (f6 (f0_e14 p0 p1 p2) (f0_e15 p0 p1 p2) (f0_e16 p0 p1 p2))), .unset, .val (.int (f1 p1)), .unset, .unset] [(.int (f1 p1)), (.int (f1 p2))])) _
                    refine XS.icmpNo X106.here hx rfl (hb hby at_346) rfl (teq hc117).2 ?_
                    show Steps p.tables e below (T106.setTop (mkF m 349 #[.val (.int p0), .val (.int p1), .val (.int p2), .val (.int p3), .val (.int (f1 p0)), .val (.int (f1 p1)), .val (.int (f1 p2)), .val (.int (f0_s0_29001 p3)), .val (.int (f0_s0_44002 p3)), .val (.ref b10), .val (.int (f0_e7 p0 p1 p2)), .val (.int (f6 (f0_e14 p0 p1 p2) (f0_e15 p0 p1 p2) (f0_e16 p0 p1 p2))), .unset, .val (.int (f1 p1)), .unset, .unset] [])) _
                    refine XS.iconst X106.here hx rfl (hb hby at_349) ?_
                    show Steps p.tables e below (T106.setTop (mkF m 350 #[.val (.int p0), .val (.int p1), .val (.int p2), .val (.int p3), .val (.int (f1 p0)), .val (.int (f1 p1)), .val (.int (f1 p2)), .val (.int (f0_s0_29001 p3)), .val (.int (f0_s0_44002 p3)), .val (.ref b10), .val (.int (f0_e7 p0 p1 p2)), .val (.int (f6 (f0_e14 p0 p1 p2) (f0_e15 p0 p1 p2) (f0_e16 p0 p1 p2))), .unset, .val (.int (f1 p1)), .unset, .unset] [(.int (1 : Int32))])) _
                    refine XS.istore X106.here hx rfl (hb hby at_350) rfl (l' := #[.val (.int p0), .val (.int p1), .val (.int p2), .val (.int p3), .val (.int (f1 p0)), .val (.int (f1 p1)), .val (.int (f1 p2)), .val (.int (f0_s0_29001 p3)), .val (.int (f0_s0_44002 p3)), .val (.ref b10), .val (.int (f0_e7 p0 p1 p2)), .val (.int (f6 (f0_e14 p0 p1 p2) (f0_e15 p0 p1 p2) (f0_e16 p0 p1 p2))), .val (.int (1 : Int32)), .val (.int (f1 p1)), .unset, .unset]) rfl ?_
                    show Steps p.tables e below (T106.setTop (mkF m 352 #[.val (.int p0), .val (.int p1), .val (.int p2), .val (.int p3), .val (.int (f1 p0)), .val (.int (f1 p1)), .val (.int (f1 p2)), .val (.int (f0_s0_29001 p3)), .val (.int (f0_s0_44002 p3)), .val (.ref b10), .val (.int (f0_e7 p0 p1 p2)), .val (.int (f6 (f0_e14 p0 p1 p2) (f0_e15 p0 p1 p2) (f0_e16 p0 p1 p2))), .val (.int (1 : Int32)), .val (.int (f1 p1)), .unset, .unset] [])) _
                    refine XS.goto X106.here hx rfl (pc0 := 352) (pc' := 395) rfl (hb hby at_352) (by decide) (by decide) ?_
                    exact kt
                  · have hj : (f0_l12_395024 p1 p2) = (2 : Int32) := by unfold f0_l12_395024; rw [if_neg hc116, if_neg hc117]
                    rw [hj] at kt
                    refine pre115 t ?_
                    show Steps p.tables e below (T106.setTop (mkF m 333 #[.val (.int p0), .val (.int p1), .val (.int p2), .val (.int p3), .val (.int (f1 p0)), .val (.int (f1 p1)), .val (.int (f1 p2)), .val (.int (f0_s0_29001 p3)), .val (.int (f0_s0_44002 p3)), .val (.ref b10), .val (.int (f0_e7 p0 p1 p2)), .val (.int (f6 (f0_e14 p0 p1 p2) (f0_e15 p0 p1 p2) (f0_e16 p0 p1 p2))), .unset, .val (.int (f1 p1)), .unset, .unset] [(.int (92 : Int32)), (.int (f1 p2))])) _
                    refine XS.icmpYes X106.here hx rfl (pc0 := 333) (pc' := 342) rfl (hb hby at_333) rfl (feq hc116).2 (by decide) (by decide) ?_
                    show Steps p.tables e below (T106.setTop (mkF m 342 #[.val (.int p0), .val (.int p1), .val (.int p2), .val (.int p3), .val (.int (f1 p0)), .val (.int (f1 p1)), .val (.int (f1 p2)), .val (.int (f0_s0_29001 p3)), .val (.int (f0_s0_44002 p3)), .val (.ref b10), .val (.int (f0_e7 p0 p1 p2)), .val (.int (f6 (f0_e14 p0 p1 p2) (f0_e15 p0 p1 p2) (f0_e16 p0 p1 p2))), .unset, .val (.int (f1 p1)), .unset, .unset] [])) _
                    refine XS.iload X106.here hx rfl (hb hby at_342) rfl ?_
                    show Steps p.tables e below (T106.setTop (mkF m 344 #[.val (.int p0), .val (.int p1), .val (.int p2), .val (.int p3), .val (.int (f1 p0)), .val (.int (f1 p1)), .val (.int (f1 p2)), .val (.int (f0_s0_29001 p3)), .val (.int (f0_s0_44002 p3)), .val (.ref b10), .val (.int (f0_e7 p0 p1 p2)), .val (.int (f6 (f0_e14 p0 p1 p2) (f0_e15 p0 p1 p2) (f0_e16 p0 p1 p2))), .unset, .val (.int (f1 p1)), .unset, .unset] [(.int (f1 p2))])) _
                    refine XS.iload X106.here hx rfl (hb hby at_344) rfl ?_
                    show Steps p.tables e below (T106.setTop (mkF m 346 #[.val (.int p0), .val (.int p1), .val (.int p2), .val (.int p3), .val (.int (f1 p0)), .val (.int (f1 p1)), .val (.int (f1 p2)), .val (.int (f0_s0_29001 p3)), .val (.int (f0_s0_44002 p3)), .val (.ref b10), .val (.int (f0_e7 p0 p1 p2)), .val (.int (f6 (f0_e14 p0 p1 p2) (f0_e15 p0 p1 p2) (f0_e16 p0 p1 p2))), .unset, .val (.int (f1 p1)), .unset, .unset] [(.int (f1 p1)), (.int (f1 p2))])) _
                    refine XS.icmpYes X106.here hx rfl (pc0 := 346) (pc' := 355) rfl (hb hby at_346) rfl (feq hc117).2 (by decide) (by decide) ?_
                    show Steps p.tables e below (T106.setTop (mkF m 355 #[.val (.int p0), .val (.int p1), .val (.int p2), .val (.int p3), .val (.int (f1 p0)), .val (.int (f1 p1)), .val (.int (f1 p2)), .val (.int (f0_s0_29001 p3)), .val (.int (f0_s0_44002 p3)), .val (.ref b10), .val (.int (f0_e7 p0 p1 p2)), .val (.int (f6 (f0_e14 p0 p1 p2) (f0_e15 p0 p1 p2) (f0_e16 p0 p1 p2))), .unset, .val (.int (f1 p1)), .unset, .unset] [])) _
                    refine XS.iconst X106.here hx rfl (hb hby at_355) ?_
                    show Steps p.tables e below (T106.setTop (mkF m 356 #[.val (.int p0), .val (.int p1), .val (.int p2), .val (.int p3), .val (.int (f1 p0)), .val (.int (f1 p1)), .val (.int (f1 p2)), .val (.int (f0_s0_29001 p3)), .val (.int (f0_s0_44002 p3)), .val (.ref b10), .val (.int (f0_e7 p0 p1 p2)), .val (.int (f6 (f0_e14 p0 p1 p2) (f0_e15 p0 p1 p2) (f0_e16 p0 p1 p2))), .unset, .val (.int (f1 p1)), .unset, .unset] [(.int (2 : Int32))])) _
                    refine XS.istore X106.here hx rfl (hb hby at_356) rfl (l' := #[.val (.int p0), .val (.int p1), .val (.int p2), .val (.int p3), .val (.int (f1 p0)), .val (.int (f1 p1)), .val (.int (f1 p2)), .val (.int (f0_s0_29001 p3)), .val (.int (f0_s0_44002 p3)), .val (.ref b10), .val (.int (f0_e7 p0 p1 p2)), .val (.int (f6 (f0_e14 p0 p1 p2) (f0_e15 p0 p1 p2) (f0_e16 p0 p1 p2))), .val (.int (2 : Int32)), .val (.int (f1 p1)), .unset, .unset]) rfl ?_
                    show Steps p.tables e below (T106.setTop (mkF m 358 #[.val (.int p0), .val (.int p1), .val (.int p2), .val (.int p3), .val (.int (f1 p0)), .val (.int (f1 p1)), .val (.int (f1 p2)), .val (.int (f0_s0_29001 p3)), .val (.int (f0_s0_44002 p3)), .val (.ref b10), .val (.int (f0_e7 p0 p1 p2)), .val (.int (f6 (f0_e14 p0 p1 p2) (f0_e15 p0 p1 p2) (f0_e16 p0 p1 p2))), .val (.int (2 : Int32)), .val (.int (f1 p1)), .unset, .unset] [])) _
                    refine XS.goto X106.here hx rfl (pc0 := 358) (pc' := 395) rfl (hb hby at_358) (by decide) (by decide) ?_
                    exact kt
              refine ⟨T106, _, X106, e106, N106, fun t kt => ?_⟩
              have hj : (f0_l12_395028 p0 p1 p2) = (f0_l12_395024 p1 p2) := by unfold f0_l12_395028; rw [if_neg hc86, if_pos hc100, if_neg hc102, if_neg hc108]
              rw [hj] at kt
              have hj : (f0_l13_395029 p0 p1 p2) = (f1 p1) := by unfold f0_l13_395029; rw [if_neg hc86, if_pos hc100, if_neg hc102, if_neg hc108]
              rw [hj] at kt
              refine pre118 t ?_
              exact kt
        · have pre119 : ∀ t, Steps p.tables e below (T98.setTop (mkF m 200 #[.val (.int p0), .val (.int p1), .val (.int p2), .val (.int p3), .val (.int (f1 p0)), .val (.int (f1 p1)), .val (.int (f1 p2)), .val (.int (f0_s0_29001 p3)), .val (.int (f0_s0_44002 p3)), .val (.ref b10), .val (.int (f0_e7 p0 p1 p2)), .val (.int (f6 (f0_e14 p0 p1 p2) (f0_e15 p0 p1 p2) (f0_e16 p0 p1 p2))), .unset, .val (.int (32 : Int32)), .unset, .unset] [(.int (92 : Int32)), (.int (f1 p1))])) t → Steps p.tables e below (s₁.setTop (entryFrame m #[(.int p0), (.int p1), (.int p2), (.int p3)] maxLocals)) t := fun t kt => pre99 t (by
            show Steps p.tables e below (T98.setTop (mkF m 193 #[.val (.int p0), .val (.int p1), .val (.int p2), .val (.int p3), .val (.int (f1 p0)), .val (.int (f1 p1)), .val (.int (f1 p2)), .val (.int (f0_s0_29001 p3)), .val (.int (f0_s0_44002 p3)), .val (.ref b10), .val (.int (f0_e7 p0 p1 p2)), .val (.int (f6 (f0_e14 p0 p1 p2) (f0_e15 p0 p1 p2) (f0_e16 p0 p1 p2))), .unset, .val (.int (32 : Int32)), .unset, .unset] [(.int (f7 (f1 p0)))])) _
            refine XS.ifNo X98.here hx rfl (hb hby at_193) rfl ((if0 _ _).trans (feq hc100).1) ?_
            show Steps p.tables e below (T98.setTop (mkF m 196 #[.val (.int p0), .val (.int p1), .val (.int p2), .val (.int p3), .val (.int (f1 p0)), .val (.int (f1 p1)), .val (.int (f1 p2)), .val (.int (f0_s0_29001 p3)), .val (.int (f0_s0_44002 p3)), .val (.ref b10), .val (.int (f0_e7 p0 p1 p2)), .val (.int (f6 (f0_e14 p0 p1 p2) (f0_e15 p0 p1 p2) (f0_e16 p0 p1 p2))), .unset, .val (.int (32 : Int32)), .unset, .unset] [])) _
            refine XS.iload X98.here hx rfl (hb hby at_196) rfl ?_
            show Steps p.tables e below (T98.setTop (mkF m 198 #[.val (.int p0), .val (.int p1), .val (.int p2), .val (.int p3), .val (.int (f1 p0)), .val (.int (f1 p1)), .val (.int (f1 p2)), .val (.int (f0_s0_29001 p3)), .val (.int (f0_s0_44002 p3)), .val (.ref b10), .val (.int (f0_e7 p0 p1 p2)), .val (.int (f6 (f0_e14 p0 p1 p2) (f0_e15 p0 p1 p2) (f0_e16 p0 p1 p2))), .unset, .val (.int (32 : Int32)), .unset, .unset] [(.int (f1 p1))])) _
            refine XS.bipush X98.here hx rfl (hb hby at_198) ?_
            exact kt)
          by_cases hc120 : (f1 p1) = (92 : Int32)
          · refine ⟨T98, _, X98, e98, N98, fun t kt => ?_⟩
            have hj : (f0_l12_395028 p0 p1 p2) = (2 : Int32) := by unfold f0_l12_395028; rw [if_neg hc86, if_neg hc100, if_pos hc120]
            rw [hj] at kt
            have hj : (f0_l13_395029 p0 p1 p2) = (f1 p0) := by unfold f0_l13_395029; rw [if_neg hc86, if_neg hc100, if_pos hc120]
            rw [hj] at kt
            refine pre119 t ?_
            show Steps p.tables e below (T98.setTop (mkF m 200 #[.val (.int p0), .val (.int p1), .val (.int p2), .val (.int p3), .val (.int (f1 p0)), .val (.int (f1 p1)), .val (.int (f1 p2)), .val (.int (f0_s0_29001 p3)), .val (.int (f0_s0_44002 p3)), .val (.ref b10), .val (.int (f0_e7 p0 p1 p2)), .val (.int (f6 (f0_e14 p0 p1 p2) (f0_e15 p0 p1 p2) (f0_e16 p0 p1 p2))), .unset, .val (.int (32 : Int32)), .unset, .unset] [(.int (92 : Int32)), (.int (f1 p1))])) _
            refine XS.icmpNo X98.here hx rfl (hb hby at_200) rfl (teq hc120).2 ?_
            show Steps p.tables e below (T98.setTop (mkF m 203 #[.val (.int p0), .val (.int p1), .val (.int p2), .val (.int p3), .val (.int (f1 p0)), .val (.int (f1 p1)), .val (.int (f1 p2)), .val (.int (f0_s0_29001 p3)), .val (.int (f0_s0_44002 p3)), .val (.ref b10), .val (.int (f0_e7 p0 p1 p2)), .val (.int (f6 (f0_e14 p0 p1 p2) (f0_e15 p0 p1 p2) (f0_e16 p0 p1 p2))), .unset, .val (.int (32 : Int32)), .unset, .unset] [])) _
            refine XS.iconst X98.here hx rfl (hb hby at_203) ?_
            show Steps p.tables e below (T98.setTop (mkF m 204 #[.val (.int p0), .val (.int p1), .val (.int p2), .val (.int p3), .val (.int (f1 p0)), .val (.int (f1 p1)), .val (.int (f1 p2)), .val (.int (f0_s0_29001 p3)), .val (.int (f0_s0_44002 p3)), .val (.ref b10), .val (.int (f0_e7 p0 p1 p2)), .val (.int (f6 (f0_e14 p0 p1 p2) (f0_e15 p0 p1 p2) (f0_e16 p0 p1 p2))), .unset, .val (.int (32 : Int32)), .unset, .unset] [(.int (2 : Int32))])) _
            refine XS.istore X98.here hx rfl (hb hby at_204) rfl (l' := #[.val (.int p0), .val (.int p1), .val (.int p2), .val (.int p3), .val (.int (f1 p0)), .val (.int (f1 p1)), .val (.int (f1 p2)), .val (.int (f0_s0_29001 p3)), .val (.int (f0_s0_44002 p3)), .val (.ref b10), .val (.int (f0_e7 p0 p1 p2)), .val (.int (f6 (f0_e14 p0 p1 p2) (f0_e15 p0 p1 p2) (f0_e16 p0 p1 p2))), .val (.int (2 : Int32)), .val (.int (32 : Int32)), .unset, .unset]) rfl ?_
            show Steps p.tables e below (T98.setTop (mkF m 206 #[.val (.int p0), .val (.int p1), .val (.int p2), .val (.int p3), .val (.int (f1 p0)), .val (.int (f1 p1)), .val (.int (f1 p2)), .val (.int (f0_s0_29001 p3)), .val (.int (f0_s0_44002 p3)), .val (.ref b10), .val (.int (f0_e7 p0 p1 p2)), .val (.int (f6 (f0_e14 p0 p1 p2) (f0_e15 p0 p1 p2) (f0_e16 p0 p1 p2))), .val (.int (2 : Int32)), .val (.int (32 : Int32)), .unset, .unset] [])) _
            refine XS.iload X98.here hx rfl (hb hby at_206) rfl ?_
            show Steps p.tables e below (T98.setTop (mkF m 208 #[.val (.int p0), .val (.int p1), .val (.int p2), .val (.int p3), .val (.int (f1 p0)), .val (.int (f1 p1)), .val (.int (f1 p2)), .val (.int (f0_s0_29001 p3)), .val (.int (f0_s0_44002 p3)), .val (.ref b10), .val (.int (f0_e7 p0 p1 p2)), .val (.int (f6 (f0_e14 p0 p1 p2) (f0_e15 p0 p1 p2) (f0_e16 p0 p1 p2))), .val (.int (2 : Int32)), .val (.int (32 : Int32)), .unset, .unset] [(.int (f1 p0))])) _
            refine XS.istore X98.here hx rfl (hb hby at_208) rfl (l' := #[.val (.int p0), .val (.int p1), .val (.int p2), .val (.int p3), .val (.int (f1 p0)), .val (.int (f1 p1)), .val (.int (f1 p2)), .val (.int (f0_s0_29001 p3)), .val (.int (f0_s0_44002 p3)), .val (.ref b10), .val (.int (f0_e7 p0 p1 p2)), .val (.int (f6 (f0_e14 p0 p1 p2) (f0_e15 p0 p1 p2) (f0_e16 p0 p1 p2))), .val (.int (2 : Int32)), .val (.int (f1 p0)), .unset, .unset]) rfl ?_
            show Steps p.tables e below (T98.setTop (mkF m 210 #[.val (.int p0), .val (.int p1), .val (.int p2), .val (.int p3), .val (.int (f1 p0)), .val (.int (f1 p1)), .val (.int (f1 p2)), .val (.int (f0_s0_29001 p3)), .val (.int (f0_s0_44002 p3)), .val (.ref b10), .val (.int (f0_e7 p0 p1 p2)), .val (.int (f6 (f0_e14 p0 p1 p2) (f0_e15 p0 p1 p2) (f0_e16 p0 p1 p2))), .val (.int (2 : Int32)), .val (.int (f1 p0)), .unset, .unset] [])) _
            refine XS.goto X98.here hx rfl (pc0 := 210) (pc' := 395) rfl (hb hby at_210) (by decide) (by decide) ?_
            exact kt
          · have pre121 : ∀ t, Steps p.tables e below (T98.setTop (mkF m 217 #[.val (.int p0), .val (.int p1), .val (.int p2), .val (.int p3), .val (.int (f1 p0)), .val (.int (f1 p1)), .val (.int (f1 p2)), .val (.int (f0_s0_29001 p3)), .val (.int (f0_s0_44002 p3)), .val (.ref b10), .val (.int (f0_e7 p0 p1 p2)), .val (.int (f6 (f0_e14 p0 p1 p2) (f0_e15 p0 p1 p2) (f0_e16 p0 p1 p2))), .unset, .val (.int (32 : Int32)), .unset, .unset] [(.int (f1 p0)), (.int (f1 p1))])) t → Steps p.tables e below (s₁.setTop (entryFrame m #[(.int p0), (.int p1), (.int p2), (.int p3)] maxLocals)) t := fun t kt => pre119 t (by
              show Steps p.tables e below (T98.setTop (mkF m 200 #[.val (.int p0), .val (.int p1), .val (.int p2), .val (.int p3), .val (.int (f1 p0)), .val (.int (f1 p1)), .val (.int (f1 p2)), .val (.int (f0_s0_29001 p3)), .val (.int (f0_s0_44002 p3)), .val (.ref b10), .val (.int (f0_e7 p0 p1 p2)), .val (.int (f6 (f0_e14 p0 p1 p2) (f0_e15 p0 p1 p2) (f0_e16 p0 p1 p2))), .unset, .val (.int (32 : Int32)), .unset, .unset] [(.int (92 : Int32)), (.int (f1 p1))])) _
              refine XS.icmpYes X98.here hx rfl (pc0 := 200) (pc' := 213) rfl (hb hby at_200) rfl (feq hc120).2 (by decide) (by decide) ?_
              show Steps p.tables e below (T98.setTop (mkF m 213 #[.val (.int p0), .val (.int p1), .val (.int p2), .val (.int p3), .val (.int (f1 p0)), .val (.int (f1 p1)), .val (.int (f1 p2)), .val (.int (f0_s0_29001 p3)), .val (.int (f0_s0_44002 p3)), .val (.ref b10), .val (.int (f0_e7 p0 p1 p2)), .val (.int (f6 (f0_e14 p0 p1 p2) (f0_e15 p0 p1 p2) (f0_e16 p0 p1 p2))), .unset, .val (.int (32 : Int32)), .unset, .unset] [])) _
              refine XS.iload X98.here hx rfl (hb hby at_213) rfl ?_
              show Steps p.tables e below (T98.setTop (mkF m 215 #[.val (.int p0), .val (.int p1), .val (.int p2), .val (.int p3), .val (.int (f1 p0)), .val (.int (f1 p1)), .val (.int (f1 p2)), .val (.int (f0_s0_29001 p3)), .val (.int (f0_s0_44002 p3)), .val (.ref b10), .val (.int (f0_e7 p0 p1 p2)), .val (.int (f6 (f0_e14 p0 p1 p2) (f0_e15 p0 p1 p2) (f0_e16 p0 p1 p2))), .unset, .val (.int (32 : Int32)), .unset, .unset] [(.int (f1 p1))])) _
              refine XS.iload X98.here hx rfl (hb hby at_215) rfl ?_
              exact kt)
            by_cases hc122 : (f1 p1) = (f1 p0)
            · have pre123 : ∀ t, Steps p.tables e below (T98.setTop (mkF m 224 #[.val (.int p0), .val (.int p1), .val (.int p2), .val (.int p3), .val (.int (f1 p0)), .val (.int (f1 p1)), .val (.int (f1 p2)), .val (.int (f0_s0_29001 p3)), .val (.int (f0_s0_44002 p3)), .val (.ref b10), .val (.int (f0_e7 p0 p1 p2)), .val (.int (f6 (f0_e14 p0 p1 p2) (f0_e15 p0 p1 p2) (f0_e16 p0 p1 p2))), .unset, .val (.int (32 : Int32)), .unset, .unset] [(.int (93 : Int32)), (.int (f1 p2))])) t → Steps p.tables e below (s₁.setTop (entryFrame m #[(.int p0), (.int p1), (.int p2), (.int p3)] maxLocals)) t := fun t kt => pre121 t (by
                show Steps p.tables e below (T98.setTop (mkF m 217 #[.val (.int p0), .val (.int p1), .val (.int p2), .val (.int p3), .val (.int (f1 p0)), .val (.int (f1 p1)), .val (.int (f1 p2)), .val (.int (f0_s0_29001 p3)), .val (.int (f0_s0_44002 p3)), .val (.ref b10), .val (.int (f0_e7 p0 p1 p2)), .val (.int (f6 (f0_e14 p0 p1 p2) (f0_e15 p0 p1 p2) (f0_e16 p0 p1 p2))), .unset, .val (.int (32 : Int32)), .unset, .unset] [(.int (f1 p0)), (.int (f1 p1))])) _
                refine XS.icmpNo X98.here hx rfl (hb hby at_217) rfl (teq hc122).2 ?_
                show Steps p.tables e below (T98.setTop (mkF m 220 #[.val (.int p0), .val (.int p1), .val (.int p2), .val (.int p3), .val (.int (f1 p0)), .val (.int (f1 p1)), .val (.int (f1 p2)), .val (.int (f0_s0_29001 p3)), .val (.int (f0_s0_44002 p3)), .val (.ref b10), .val (.int (f0_e7 p0 p1 p2)), .val (.int (f6 (f0_e14 p0 p1 p2) (f0_e15 p0 p1 p2) (f0_e16 p0 p1 p2))), .unset, .val (.int (32 : Int32)), .unset, .unset] [])) _
                refine XS.iload X98.here hx rfl (hb hby at_220) rfl ?_
                show Steps p.tables e below (T98.setTop (mkF m 222 #[.val (.int p0), .val (.int p1), .val (.int p2), .val (.int p3), .val (.int (f1 p0)), .val (.int (f1 p1)), .val (.int (f1 p2)), .val (.int (f0_s0_29001 p3)), .val (.int (f0_s0_44002 p3)), .val (.ref b10), .val (.int (f0_e7 p0 p1 p2)), .val (.int (f6 (f0_e14 p0 p1 p2) (f0_e15 p0 p1 p2) (f0_e16 p0 p1 p2))), .unset, .val (.int (32 : Int32)), .unset, .unset] [(.int (f1 p2))])) _
                refine XS.bipush X98.here hx rfl (hb hby at_222) ?_
                exact kt)
              by_cases hc124 : (f1 p2) = (93 : Int32)
              · refine ⟨T98, _, X98, e98, N98, fun t kt => ?_⟩
                have hj : (f0_l12_395028 p0 p1 p2) = (0 : Int32) := by unfold f0_l12_395028; rw [if_neg hc86, if_neg hc100, if_neg hc120, if_pos hc122, if_pos hc124]
                rw [hj] at kt
                have hj : (f0_l13_395029 p0 p1 p2) = (32 : Int32) := by unfold f0_l13_395029; rw [if_neg hc86, if_neg hc100, if_neg hc120, if_pos hc122, if_pos hc124]
                rw [hj] at kt
                refine pre123 t ?_
                show Steps p.tables e below (T98.setTop (mkF m 224 #[.val (.int p0), .val (.int p1), .val (.int p2), .val (.int p3), .val (.int (f1 p0)), .val (.int (f1 p1)), .val (.int (f1 p2)), .val (.int (f0_s0_29001 p3)), .val (.int (f0_s0_44002 p3)), .val (.ref b10), .val (.int (f0_e7 p0 p1 p2)), .val (.int (f6 (f0_e14 p0 p1 p2) (f0_e15 p0 p1 p2) (f0_e16 p0 p1 p2))), .unset, .val (.int (32 : Int32)), .unset, .unset] [(.int (93 : Int32)), (.int (f1 p2))])) _
                refine XS.icmpNo X98.here hx rfl (hb hby at_224) rfl (teq hc124).2 ?_
                show Steps p.tables e below (T98.setTop (mkF m 227 #[.val (.int p0), .val (.int p1), .val (.int p2), .val (.int p3), .val (.int (f1 p0)), .val (.int (f1 p1)), .val (.int (f1 p2)), .val (.int (f0_s0_29001 p3)), .val (.int (f0_s0_44002 p3)), .val (.ref b10), .val (.int (f0_e7 p0 p1 p2)), .val (.int (f6 (f0_e14 p0 p1 p2) (f0_e15 p0 p1 p2) (f0_e16 p0 p1 p2))), .unset, .val (.int (32 : Int32)), .unset, .unset] [])) _
                refine XS.iconst X98.here hx rfl (hb hby at_227) ?_
                show Steps p.tables e below (T98.setTop (mkF m 228 #[.val (.int p0), .val (.int p1), .val (.int p2), .val (.int p3), .val (.int (f1 p0)), .val (.int (f1 p1)), .val (.int (f1 p2)), .val (.int (f0_s0_29001 p3)), .val (.int (f0_s0_44002 p3)), .val (.ref b10), .val (.int (f0_e7 p0 p1 p2)), .val (.int (f6 (f0_e14 p0 p1 p2) (f0_e15 p0 p1 p2) (f0_e16 p0 p1 p2))), .unset, .val (.int (32 : Int32)), .unset, .unset] [(.int (0 : Int32))])) _
                refine XS.istore X98.here hx rfl (hb hby at_228) rfl (l' := #[.val (.int p0), .val (.int p1), .val (.int p2), .val (.int p3), .val (.int (f1 p0)), .val (.int (f1 p1)), .val (.int (f1 p2)), .val (.int (f0_s0_29001 p3)), .val (.int (f0_s0_44002 p3)), .val (.ref b10), .val (.int (f0_e7 p0 p1 p2)), .val (.int (f6 (f0_e14 p0 p1 p2) (f0_e15 p0 p1 p2) (f0_e16 p0 p1 p2))), .val (.int (0 : Int32)), .val (.int (32 : Int32)), .unset, .unset]) rfl ?_
                show Steps p.tables e below (T98.setTop (mkF m 230 #[.val (.int p0), .val (.int p1), .val (.int p2), .val (.int p3), .val (.int (f1 p0)), .val (.int (f1 p1)), .val (.int (f1 p2)), .val (.int (f0_s0_29001 p3)), .val (.int (f0_s0_44002 p3)), .val (.ref b10), .val (.int (f0_e7 p0 p1 p2)), .val (.int (f6 (f0_e14 p0 p1 p2) (f0_e15 p0 p1 p2) (f0_e16 p0 p1 p2))), .val (.int (0 : Int32)), .val (.int (32 : Int32)), .unset, .unset] [])) _
                refine XS.goto X98.here hx rfl (pc0 := 230) (pc' := 395) rfl (hb hby at_230) (by decide) (by decide) ?_
                exact kt
              · obtain ⟨_, _, ⟨T125, L125, k125, n125⟩, -, X125, ⟨Lc125, hQ125, l125, y125, z125⟩, st125⟩ := Jvm.LawKit.callS X98 hx (y := (⟨"com/example/libinterp/libinterp/SelectorScanReadPinLaw", "isQuote", "(C)Z"⟩ : MethodName)) hown (mvT hZ (hw _ (List.mem_of_getElem? (i := 31) rfl))) (mvT hZ (hw _ (List.mem_of_getElem? (i := 32) rfl))) (mvT hZ (hw _ (List.mem_of_getElem? (i := 2) rfl))) (mvT hZ (hw _ (List.mem_of_getElem? (i := 33) rfl))) (by decide) (backOf (W := 0) (rm7 l Z a0 hw [] (f1 p2) T83.heap n0 Zz83) hZ (hw _ (List.mem_of_getElem? (i := 33) rfl)) (hw _ (List.mem_of_getElem? (i := 2) rfl)) (by decide) (by decide)) (g := (mkF m 235 #[.val (.int p0), .val (.int p1), .val (.int p2), .val (.int p3), .val (.int (f1 p0)), .val (.int (f1 p1)), .val (.int (f1 p2)), .val (.int (f0_s0_29001 p3)), .val (.int (f0_s0_44002 p3)), .val (.ref b10), .val (.int (f0_e7 p0 p1 p2)), .val (.int (f6 (f0_e14 p0 p1 p2) (f0_e15 p0 p1 p2) (f0_e16 p0 p1 p2))), .unset, .val (.int (32 : Int32)), .unset, .unset] [(.int (f1 p2))])) rfl (by rw [hml]; rfl) (argsL := [(.int (f1 p2))]) (rest := []) (lenOf pd_0 rfl) rfl (by show 2 * 0 + _ ≤ _; exact Nat.le_of_eq rfl) (hb hby at_235) (fun _ _ => ⟨rfl, e98, (by decide : 1 + 0 ≤ _), (by decide : 3 + 0 ≤ _)⟩)
                dsimp only [Pt.U, Pt.locs, Pt.cells, Pt.slots] at X125 l125 y125 z125 st125 hQ125
                subst l125 y125 z125
                obtain ⟨rfl, N125q, e125⟩ := hQ125
                have N125 := Fr.app N98 N125q
                have pre126 : ∀ t, Steps p.tables e below (T125.setTop (mkF m 238 #[.val (.int p0), .val (.int p1), .val (.int p2), .val (.int p3), .val (.int (f1 p0)), .val (.int (f1 p1)), .val (.int (f1 p2)), .val (.int (f0_s0_29001 p3)), .val (.int (f0_s0_44002 p3)), .val (.ref b10), .val (.int (f0_e7 p0 p1 p2)), .val (.int (f6 (f0_e14 p0 p1 p2) (f0_e15 p0 p1 p2) (f0_e16 p0 p1 p2))), .unset, .val (.int (32 : Int32)), .unset, .unset] [(.int (f7 (f1 p2)))])) t → Steps p.tables e below (s₁.setTop (entryFrame m #[(.int p0), (.int p1), (.int p2), (.int p3)] maxLocals)) t := fun t kt => pre123 t (by
                  show Steps p.tables e below (T98.setTop (mkF m 224 #[.val (.int p0), .val (.int p1), .val (.int p2), .val (.int p3), .val (.int (f1 p0)), .val (.int (f1 p1)), .val (.int (f1 p2)), .val (.int (f0_s0_29001 p3)), .val (.int (f0_s0_44002 p3)), .val (.ref b10), .val (.int (f0_e7 p0 p1 p2)), .val (.int (f6 (f0_e14 p0 p1 p2) (f0_e15 p0 p1 p2) (f0_e16 p0 p1 p2))), .unset, .val (.int (32 : Int32)), .unset, .unset] [(.int (93 : Int32)), (.int (f1 p2))])) _
                  refine XS.icmpYes X98.here hx rfl (pc0 := 224) (pc' := 233) rfl (hb hby at_224) rfl (feq hc124).2 (by decide) (by decide) ?_
                  show Steps p.tables e below (T98.setTop (mkF m 233 #[.val (.int p0), .val (.int p1), .val (.int p2), .val (.int p3), .val (.int (f1 p0)), .val (.int (f1 p1)), .val (.int (f1 p2)), .val (.int (f0_s0_29001 p3)), .val (.int (f0_s0_44002 p3)), .val (.ref b10), .val (.int (f0_e7 p0 p1 p2)), .val (.int (f6 (f0_e14 p0 p1 p2) (f0_e15 p0 p1 p2) (f0_e16 p0 p1 p2))), .unset, .val (.int (32 : Int32)), .unset, .unset] [])) _
                  refine XS.iload X98.here hx rfl (hb hby at_233) rfl ?_
                  show Steps p.tables e below (T98.setTop (mkF m 235 #[.val (.int p0), .val (.int p1), .val (.int p2), .val (.int p3), .val (.int (f1 p0)), .val (.int (f1 p1)), .val (.int (f1 p2)), .val (.int (f0_s0_29001 p3)), .val (.int (f0_s0_44002 p3)), .val (.ref b10), .val (.int (f0_e7 p0 p1 p2)), .val (.int (f6 (f0_e14 p0 p1 p2) (f0_e15 p0 p1 p2) (f0_e16 p0 p1 p2))), .unset, .val (.int (32 : Int32)), .unset, .unset] [(.int (f1 p2))])) _
                  refine st125 _ ?_
                  exact kt)
                have pre128 : ∀ t, Steps p.tables e below (T125.setTop (mkF m 395 #[.val (.int p0), .val (.int p1), .val (.int p2), .val (.int p3), .val (.int (f1 p0)), .val (.int (f1 p1)), .val (.int (f1 p2)), .val (.int (f0_s0_29001 p3)), .val (.int (f0_s0_44002 p3)), .val (.ref b10), .val (.int (f0_e7 p0 p1 p2)), .val (.int (f6 (f0_e14 p0 p1 p2) (f0_e15 p0 p1 p2) (f0_e16 p0 p1 p2))), .val (.int (f0_l12_395025 p2)), .val (.int (f0_l13_395026 p2)), .unset, .unset] [])) t → Steps p.tables e below (s₁.setTop (entryFrame m #[(.int p0), (.int p1), (.int p2), (.int p3)] maxLocals)) t := by
                  intro t kt
                  by_cases hc127 : (f7 (f1 p2)) = (0 : Int32)
                  · have hj : (f0_l12_395025 p2) = (1 : Int32) := by unfold f0_l12_395025; rw [if_pos hc127]
                    rw [hj] at kt
                    have hj : (f0_l13_395026 p2) = (32 : Int32) := by unfold f0_l13_395026; rw [if_pos hc127]
                    rw [hj] at kt
                    refine pre126 t ?_
                    show Steps p.tables e below (T125.setTop (mkF m 238 #[.val (.int p0), .val (.int p1), .val (.int p2), .val (.int p3), .val (.int (f1 p0)), .val (.int (f1 p1)), .val (.int (f1 p2)), .val (.int (f0_s0_29001 p3)), .val (.int (f0_s0_44002 p3)), .val (.ref b10), .val (.int (f0_e7 p0 p1 p2)), .val (.int (f6 (f0_e14 p0 p1 p2) (f0_e15 p0 p1 p2) (f0_e16 p0 p1 p2))), .unset, .val (.int (32 : Int32)), .unset, .unset] [(.int (f7 (f1 p2)))])) _
                    refine XS.ifYes X125.here hx rfl (pc0 := 238) (pc' := 251) rfl (hb hby at_238) rfl ((if0 _ _).trans (teq hc127).1) (by decide) (by decide) ?_
                    show Steps p.tables e below (T125.setTop (mkF m 251 #[.val (.int p0), .val (.int p1), .val (.int p2), .val (.int p3), .val (.int (f1 p0)), .val (.int (f1 p1)), .val (.int (f1 p2)), .val (.int (f0_s0_29001 p3)), .val (.int (f0_s0_44002 p3)), .val (.ref b10), .val (.int (f0_e7 p0 p1 p2)), .val (.int (f6 (f0_e14 p0 p1 p2) (f0_e15 p0 p1 p2) (f0_e16 p0 p1 p2))), .unset, .val (.int (32 : Int32)), .unset, .unset] [])) _
                    refine XS.iconst X125.here hx rfl (hb hby at_251) ?_
                    show Steps p.tables e below (T125.setTop (mkF m 252 #[.val (.int p0), .val (.int p1), .val (.int p2), .val (.int p3), .val (.int (f1 p0)), .val (.int (f1 p1)), .val (.int (f1 p2)), .val (.int (f0_s0_29001 p3)), .val (.int (f0_s0_44002 p3)), .val (.ref b10), .val (.int (f0_e7 p0 p1 p2)), .val (.int (f6 (f0_e14 p0 p1 p2) (f0_e15 p0 p1 p2) (f0_e16 p0 p1 p2))), .unset, .val (.int (32 : Int32)), .unset, .unset] [(.int (1 : Int32))])) _
                    refine XS.istore X125.here hx rfl (hb hby at_252) rfl (l' := #[.val (.int p0), .val (.int p1), .val (.int p2), .val (.int p3), .val (.int (f1 p0)), .val (.int (f1 p1)), .val (.int (f1 p2)), .val (.int (f0_s0_29001 p3)), .val (.int (f0_s0_44002 p3)), .val (.ref b10), .val (.int (f0_e7 p0 p1 p2)), .val (.int (f6 (f0_e14 p0 p1 p2) (f0_e15 p0 p1 p2) (f0_e16 p0 p1 p2))), .val (.int (1 : Int32)), .val (.int (32 : Int32)), .unset, .unset]) rfl ?_
                    show Steps p.tables e below (T125.setTop (mkF m 254 #[.val (.int p0), .val (.int p1), .val (.int p2), .val (.int p3), .val (.int (f1 p0)), .val (.int (f1 p1)), .val (.int (f1 p2)), .val (.int (f0_s0_29001 p3)), .val (.int (f0_s0_44002 p3)), .val (.ref b10), .val (.int (f0_e7 p0 p1 p2)), .val (.int (f6 (f0_e14 p0 p1 p2) (f0_e15 p0 p1 p2) (f0_e16 p0 p1 p2))), .val (.int (1 : Int32)), .val (.int (32 : Int32)), .unset, .unset] [])) _
                    refine XS.goto X125.here hx rfl (pc0 := 254) (pc' := 395) rfl (hb hby at_254) (by decide) (by decide) ?_
                    exact kt
                  · have hj : (f0_l12_395025 p2) = (2 : Int32) := by unfold f0_l12_395025; rw [if_neg hc127]
                    rw [hj] at kt
                    have hj : (f0_l13_395026 p2) = (f1 p2) := by unfold f0_l13_395026; rw [if_neg hc127]
                    rw [hj] at kt
                    refine pre126 t ?_
                    show Steps p.tables e below (T125.setTop (mkF m 238 #[.val (.int p0), .val (.int p1), .val (.int p2), .val (.int p3), .val (.int (f1 p0)), .val (.int (f1 p1)), .val (.int (f1 p2)), .val (.int (f0_s0_29001 p3)), .val (.int (f0_s0_44002 p3)), .val (.ref b10), .val (.int (f0_e7 p0 p1 p2)), .val (.int (f6 (f0_e14 p0 p1 p2) (f0_e15 p0 p1 p2) (f0_e16 p0 p1 p2))), .unset, .val (.int (32 : Int32)), .unset, .unset] [(.int (f7 (f1 p2)))])) _
                    refine XS.ifNo X125.here hx rfl (hb hby at_238) rfl ((if0 _ _).trans (feq hc127).1) ?_
                    show Steps p.tables e below (T125.setTop (mkF m 241 #[.val (.int p0), .val (.int p1), .val (.int p2), .val (.int p3), .val (.int (f1 p0)), .val (.int (f1 p1)), .val (.int (f1 p2)), .val (.int (f0_s0_29001 p3)), .val (.int (f0_s0_44002 p3)), .val (.ref b10), .val (.int (f0_e7 p0 p1 p2)), .val (.int (f6 (f0_e14 p0 p1 p2) (f0_e15 p0 p1 p2) (f0_e16 p0 p1 p2))), .unset, .val (.int (32 : Int32)), .unset, .unset] [])) _
                    refine XS.iconst X125.here hx rfl (hb hby at_241) ?_
                    show Steps p.tables e below (T125.setTop (mkF m 242 #[.val (.int p0), .val (.int p1), .val (.int p2), .val (.int p3), .val (.int (f1 p0)), .val (.int (f1 p1)), .val (.int (f1 p2)), .val (.int (f0_s0_29001 p3)), .val (.int (f0_s0_44002 p3)), .val (.ref b10), .val (.int (f0_e7 p0 p1 p2)), .val (.int (f6 (f0_e14 p0 p1 p2) (f0_e15 p0 p1 p2) (f0_e16 p0 p1 p2))), .unset, .val (.int (32 : Int32)), .unset, .unset] [(.int (2 : Int32))])) _
                    refine XS.istore X125.here hx rfl (hb hby at_242) rfl (l' := #[.val (.int p0), .val (.int p1), .val (.int p2), .val (.int p3), .val (.int (f1 p0)), .val (.int (f1 p1)), .val (.int (f1 p2)), .val (.int (f0_s0_29001 p3)), .val (.int (f0_s0_44002 p3)), .val (.ref b10), .val (.int (f0_e7 p0 p1 p2)), .val (.int (f6 (f0_e14 p0 p1 p2) (f0_e15 p0 p1 p2) (f0_e16 p0 p1 p2))), .val (.int (2 : Int32)), .val (.int (32 : Int32)), .unset, .unset]) rfl ?_
                    show Steps p.tables e below (T125.setTop (mkF m 244 #[.val (.int p0), .val (.int p1), .val (.int p2), .val (.int p3), .val (.int (f1 p0)), .val (.int (f1 p1)), .val (.int (f1 p2)), .val (.int (f0_s0_29001 p3)), .val (.int (f0_s0_44002 p3)), .val (.ref b10), .val (.int (f0_e7 p0 p1 p2)), .val (.int (f6 (f0_e14 p0 p1 p2) (f0_e15 p0 p1 p2) (f0_e16 p0 p1 p2))), .val (.int (2 : Int32)), .val (.int (32 : Int32)), .unset, .unset] [])) _
                    refine XS.iload X125.here hx rfl (hb hby at_244) rfl ?_
                    show Steps p.tables e below (T125.setTop (mkF m 246 #[.val (.int p0), .val (.int p1), .val (.int p2), .val (.int p3), .val (.int (f1 p0)), .val (.int (f1 p1)), .val (.int (f1 p2)), .val (.int (f0_s0_29001 p3)), .val (.int (f0_s0_44002 p3)), .val (.ref b10), .val (.int (f0_e7 p0 p1 p2)), .val (.int (f6 (f0_e14 p0 p1 p2) (f0_e15 p0 p1 p2) (f0_e16 p0 p1 p2))), .val (.int (2 : Int32)), .val (.int (32 : Int32)), .unset, .unset] [(.int (f1 p2))])) _
                    refine XS.istore X125.here hx rfl (hb hby at_246) rfl (l' := #[.val (.int p0), .val (.int p1), .val (.int p2), .val (.int p3), .val (.int (f1 p0)), .val (.int (f1 p1)), .val (.int (f1 p2)), .val (.int (f0_s0_29001 p3)), .val (.int (f0_s0_44002 p3)), .val (.ref b10), .val (.int (f0_e7 p0 p1 p2)), .val (.int (f6 (f0_e14 p0 p1 p2) (f0_e15 p0 p1 p2) (f0_e16 p0 p1 p2))), .val (.int (2 : Int32)), .val (.int (f1 p2)), .unset, .unset]) rfl ?_
                    show Steps p.tables e below (T125.setTop (mkF m 248 #[.val (.int p0), .val (.int p1), .val (.int p2), .val (.int p3), .val (.int (f1 p0)), .val (.int (f1 p1)), .val (.int (f1 p2)), .val (.int (f0_s0_29001 p3)), .val (.int (f0_s0_44002 p3)), .val (.ref b10), .val (.int (f0_e7 p0 p1 p2)), .val (.int (f6 (f0_e14 p0 p1 p2) (f0_e15 p0 p1 p2) (f0_e16 p0 p1 p2))), .val (.int (2 : Int32)), .val (.int (f1 p2)), .unset, .unset] [])) _
                    refine XS.goto X125.here hx rfl (pc0 := 248) (pc' := 395) rfl (hb hby at_248) (by decide) (by decide) ?_
                    exact kt
                refine ⟨T125, _, X125, e125, N125, fun t kt => ?_⟩
                have hj : (f0_l12_395028 p0 p1 p2) = (f0_l12_395025 p2) := by unfold f0_l12_395028; rw [if_neg hc86, if_neg hc100, if_neg hc120, if_pos hc122, if_neg hc124]
                rw [hj] at kt
                have hj : (f0_l13_395029 p0 p1 p2) = (f0_l13_395026 p2) := by unfold f0_l13_395029; rw [if_neg hc86, if_neg hc100, if_neg hc120, if_pos hc122, if_neg hc124]
                rw [hj] at kt
                refine pre128 t ?_
                exact kt
            · have pre129 : ∀ t, Steps p.tables e below (T98.setTop (mkF m 265 #[.val (.int p0), .val (.int p1), .val (.int p2), .val (.int p3), .val (.int (f1 p0)), .val (.int (f1 p1)), .val (.int (f1 p2)), .val (.int (f0_s0_29001 p3)), .val (.int (f0_s0_44002 p3)), .val (.ref b10), .val (.int (f0_e7 p0 p1 p2)), .val (.int (f6 (f0_e14 p0 p1 p2) (f0_e15 p0 p1 p2) (f0_e16 p0 p1 p2))), .unset, .val (.int (f1 p0)), .unset, .unset] [(.int (92 : Int32)), (.int (f1 p2))])) t → Steps p.tables e below (s₁.setTop (entryFrame m #[(.int p0), (.int p1), (.int p2), (.int p3)] maxLocals)) t := fun t kt => pre121 t (by
                show Steps p.tables e below (T98.setTop (mkF m 217 #[.val (.int p0), .val (.int p1), .val (.int p2), .val (.int p3), .val (.int (f1 p0)), .val (.int (f1 p1)), .val (.int (f1 p2)), .val (.int (f0_s0_29001 p3)), .val (.int (f0_s0_44002 p3)), .val (.ref b10), .val (.int (f0_e7 p0 p1 p2)), .val (.int (f6 (f0_e14 p0 p1 p2) (f0_e15 p0 p1 p2) (f0_e16 p0 p1 p2))), .unset, .val (.int (32 : Int32)), .unset, .unset] [(.int (f1 p0)), (.int (f1 p1))])) _
                refine XS.icmpYes X98.here hx rfl (pc0 := 217) (pc' := 257) rfl (hb hby at_217) rfl (feq hc122).2 (by decide) (by decide) ?_
                show Steps p.tables e below (T98.setTop (mkF m 257 #[.val (.int p0), .val (.int p1), .val (.int p2), .val (.int p3), .val (.int (f1 p0)), .val (.int (f1 p1)), .val (.int (f1 p2)), .val (.int (f0_s0_29001 p3)), .val (.int (f0_s0_44002 p3)), .val (.ref b10), .val (.int (f0_e7 p0 p1 p2)), .val (.int (f6 (f0_e14 p0 p1 p2) (f0_e15 p0 p1 p2) (f0_e16 p0 p1 p2))), .unset, .val (.int (32 : Int32)), .unset, .unset] [])) _
                refine XS.iload X98.here hx rfl (hb hby at_257) rfl ?_
                show Steps p.tables e below (T98.setTop (mkF m 259 #[.val (.int p0), .val (.int p1), .val (.int p2), .val (.int p3), .val (.int (f1 p0)), .val (.int (f1 p1)), .val (.int (f1 p2)), .val (.int (f0_s0_29001 p3)), .val (.int (f0_s0_44002 p3)), .val (.ref b10), .val (.int (f0_e7 p0 p1 p2)), .val (.int (f6 (f0_e14 p0 p1 p2) (f0_e15 p0 p1 p2) (f0_e16 p0 p1 p2))), .unset, .val (.int (32 : Int32)), .unset, .unset] [(.int (f1 p0))])) _
                refine XS.istore X98.here hx rfl (hb hby at_259) rfl (l' := #[.val (.int p0), .val (.int p1), .val (.int p2), .val (.int p3), .val (.int (f1 p0)), .val (.int (f1 p1)), .val (.int (f1 p2)), .val (.int (f0_s0_29001 p3)), .val (.int (f0_s0_44002 p3)), .val (.ref b10), .val (.int (f0_e7 p0 p1 p2)), .val (.int (f6 (f0_e14 p0 p1 p2) (f0_e15 p0 p1 p2) (f0_e16 p0 p1 p2))), .unset, .val (.int (f1 p0)), .unset, .unset]) rfl ?_
                show Steps p.tables e below (T98.setTop (mkF m 261 #[.val (.int p0), .val (.int p1), .val (.int p2), .val (.int p3), .val (.int (f1 p0)), .val (.int (f1 p1)), .val (.int (f1 p2)), .val (.int (f0_s0_29001 p3)), .val (.int (f0_s0_44002 p3)), .val (.ref b10), .val (.int (f0_e7 p0 p1 p2)), .val (.int (f6 (f0_e14 p0 p1 p2) (f0_e15 p0 p1 p2) (f0_e16 p0 p1 p2))), .unset, .val (.int (f1 p0)), .unset, .unset] [])) _
                refine XS.iload X98.here hx rfl (hb hby at_261) rfl ?_
                show Steps p.tables e below (T98.setTop (mkF m 263 #[.val (.int p0), .val (.int p1), .val (.int p2), .val (.int p3), .val (.int (f1 p0)), .val (.int (f1 p1)), .val (.int (f1 p2)), .val (.int (f0_s0_29001 p3)), .val (.int (f0_s0_44002 p3)), .val (.ref b10), .val (.int (f0_e7 p0 p1 p2)), .val (.int (f6 (f0_e14 p0 p1 p2) (f0_e15 p0 p1 p2) (f0_e16 p0 p1 p2))), .unset, .val (.int (f1 p0)), .unset, .unset] [(.int (f1 p2))])) _
                refine XS.bipush X98.here hx rfl (hb hby at_263) ?_
                exact kt)
              have pre132 : ∀ t, Steps p.tables e below (T98.setTop (mkF m 395 #[.val (.int p0), .val (.int p1), .val (.int p2), .val (.int p3), .val (.int (f1 p0)), .val (.int (f1 p1)), .val (.int (f1 p2)), .val (.int (f0_s0_29001 p3)), .val (.int (f0_s0_44002 p3)), .val (.ref b10), .val (.int (f0_e7 p0 p1 p2)), .val (.int (f6 (f0_e14 p0 p1 p2) (f0_e15 p0 p1 p2) (f0_e16 p0 p1 p2))), .val (.int (f0_l12_395027 p0 p2)), .val (.int (f1 p0)), .unset, .unset] [])) t → Steps p.tables e below (s₁.setTop (entryFrame m #[(.int p0), (.int p1), (.int p2), (.int p3)] maxLocals)) t := by
                intro t kt
                by_cases hc130 : (f1 p2) = (92 : Int32)
                · have hj : (f0_l12_395027 p0 p2) = (3 : Int32) := by unfold f0_l12_395027; rw [if_pos hc130]
                  rw [hj] at kt
                  refine pre129 t ?_
                  show Steps p.tables e below (T98.setTop (mkF m 265 #[.val (.int p0), .val (.int p1), .val (.int p2), .val (.int p3), .val (.int (f1 p0)), .val (.int (f1 p1)), .val (.int (f1 p2)), .val (.int (f0_s0_29001 p3)), .val (.int (f0_s0_44002 p3)), .val (.ref b10), .val (.int (f0_e7 p0 p1 p2)), .val (.int (f6 (f0_e14 p0 p1 p2) (f0_e15 p0 p1 p2) (f0_e16 p0 p1 p2))), .unset, .val (.int (f1 p0)), .unset, .unset] [(.int (92 : Int32)), (.int (f1 p2))])) _
                  refine XS.icmpNo X98.here hx rfl (hb hby at_265) rfl (teq hc130).2 ?_
                  show Steps p.tables e below (T98.setTop (mkF m 268 #[.val (.int p0), .val (.int p1), .val (.int p2), .val (.int p3), .val (.int (f1 p0)), .val (.int (f1 p1)), .val (.int (f1 p2)), .val (.int (f0_s0_29001 p3)), .val (.int (f0_s0_44002 p3)), .val (.ref b10), .val (.int (f0_e7 p0 p1 p2)), .val (.int (f6 (f0_e14 p0 p1 p2) (f0_e15 p0 p1 p2) (f0_e16 p0 p1 p2))), .unset, .val (.int (f1 p0)), .unset, .unset] [])) _
                  refine XS.iconst X98.here hx rfl (hb hby at_268) ?_
                  show Steps p.tables e below (T98.setTop (mkF m 269 #[.val (.int p0), .val (.int p1), .val (.int p2), .val (.int p3), .val (.int (f1 p0)), .val (.int (f1 p1)), .val (.int (f1 p2)), .val (.int (f0_s0_29001 p3)), .val (.int (f0_s0_44002 p3)), .val (.ref b10), .val (.int (f0_e7 p0 p1 p2)), .val (.int (f6 (f0_e14 p0 p1 p2) (f0_e15 p0 p1 p2) (f0_e16 p0 p1 p2))), .unset, .val (.int (f1 p0)), .unset, .unset] [(.int (3 : Int32))])) _
                  refine XS.istore X98.here hx rfl (hb hby at_269) rfl (l' := #[.val (.int p0), .val (.int p1), .val (.int p2), .val (.int p3), .val (.int (f1 p0)), .val (.int (f1 p1)), .val (.int (f1 p2)), .val (.int (f0_s0_29001 p3)), .val (.int (f0_s0_44002 p3)), .val (.ref b10), .val (.int (f0_e7 p0 p1 p2)), .val (.int (f6 (f0_e14 p0 p1 p2) (f0_e15 p0 p1 p2) (f0_e16 p0 p1 p2))), .val (.int (3 : Int32)), .val (.int (f1 p0)), .unset, .unset]) rfl ?_
                  show Steps p.tables e below (T98.setTop (mkF m 271 #[.val (.int p0), .val (.int p1), .val (.int p2), .val (.int p3), .val (.int (f1 p0)), .val (.int (f1 p1)), .val (.int (f1 p2)), .val (.int (f0_s0_29001 p3)), .val (.int (f0_s0_44002 p3)), .val (.ref b10), .val (.int (f0_e7 p0 p1 p2)), .val (.int (f6 (f0_e14 p0 p1 p2) (f0_e15 p0 p1 p2) (f0_e16 p0 p1 p2))), .val (.int (3 : Int32)), .val (.int (f1 p0)), .unset, .unset] [])) _
                  refine XS.goto X98.here hx rfl (pc0 := 271) (pc' := 395) rfl (hb hby at_271) (by decide) (by decide) ?_
                  exact kt
                · by_cases hc131 : (f1 p2) = (f1 p0)
                  · have hj : (f0_l12_395027 p0 p2) = (1 : Int32) := by unfold f0_l12_395027; rw [if_neg hc130, if_pos hc131]
                    rw [hj] at kt
                    refine pre129 t ?_
                    show Steps p.tables e below (T98.setTop (mkF m 265 #[.val (.int p0), .val (.int p1), .val (.int p2), .val (.int p3), .val (.int (f1 p0)), .val (.int (f1 p1)), .val (.int (f1 p2)), .val (.int (f0_s0_29001 p3)), .val (.int (f0_s0_44002 p3)), .val (.ref b10), .val (.int (f0_e7 p0 p1 p2)), .val (.int (f6 (f0_e14 p0 p1 p2) (f0_e15 p0 p1 p2) (f0_e16 p0 p1 p2))), .unset, .val (.int (f1 p0)), .unset, .unset] [(.int (92 : Int32)), (.int (f1 p2))])) _
                    refine XS.icmpYes X98.here hx rfl (pc0 := 265) (pc' := 274) rfl (hb hby at_265) rfl (feq hc130).2 (by decide) (by decide) ?_
                    show Steps p.tables e below (T98.setTop (mkF m 274 #[.val (.int p0), .val (.int p1), .val (.int p2), .val (.int p3), .val (.int (f1 p0)), .val (.int (f1 p1)), .val (.int (f1 p2)), .val (.int (f0_s0_29001 p3)), .val (.int (f0_s0_44002 p3)), .val (.ref b10), .val (.int (f0_e7 p0 p1 p2)), .val (.int (f6 (f0_e14 p0 p1 p2) (f0_e15 p0 p1 p2) (f0_e16 p0 p1 p2))), .unset, .val (.int (f1 p0)), .unset, .unset] [])) _
                    refine XS.iload X98.here hx rfl (hb hby at_274) rfl ?_
                    show Steps p.tables e below (T98.setTop (mkF m 276 #[.val (.int p0), .val (.int p1), .val (.int p2), .val (.int p3), .val (.int (f1 p0)), .val (.int (f1 p1)), .val (.int (f1 p2)), .val (.int (f0_s0_29001 p3)), .val (.int (f0_s0_44002 p3)), .val (.ref b10), .val (.int (f0_e7 p0 p1 p2)), .val (.int (f6 (f0_e14 p0 p1 p2) (f0_e15 p0 p1 p2) (f0_e16 p0 p1 p2))), .unset, .val (.int (f1 p0)), .unset, .unset] [(.int (f1 p2))])) _
                    refine XS.iload X98.here hx rfl (hb hby at_276) rfl ?_
                    show Steps p.tables e below (T98.setTop (mkF m 278 #[.val (.int p0), .val (.int p1), .val (.int p2), .val (.int p3), .val (.int (f1 p0)), .val (.int (f1 p1)), .val (.int (f1 p2)), .val (.int (f0_s0_29001 p3)), .val (.int (f0_s0_44002 p3)), .val (.ref b10), .val (.int (f0_e7 p0 p1 p2)), .val (.int (f6 (f0_e14 p0 p1 p2) (f0_e15 p0 p1 p2) (f0_e16 p0 p1 p2))), .unset, .val (.int (f1 p0)), .unset, .unset] [(.int (f1 p0)), (.int (f1 p2))])) _
                    refine XS.icmpNo X98.here hx rfl (hb hby at_278) rfl (teq hc131).2 ?_
                    show Steps p.tables e below (T98.setTop (mkF m 281 #[.val (.int p0), .val (.int p1), .val (.int p2), .val (.int p3), .val (.int (f1 p0)), .val (.int (f1 p1)), .val (.int (f1 p2)), .val (.int (f0_s0_29001 p3)), .val (.int (f0_s0_44002 p3)), .val (.ref b10), .val (.int (f0_e7 p0 p1 p2)), .val (.int (f6 (f0_e14 p0 p1 p2) (f0_e15 p0 p1 p2) (f0_e16 p0 p1 p2))), .unset, .val (.int (f1 p0)), .unset, .unset] [])) _
                    refine XS.iconst X98.here hx rfl (hb hby at_281) ?_
                    show Steps p.tables e below (T98.setTop (mkF m 282 #[.val (.int p0), .val (.int p1), .val (.int p2), .val (.int p3), .val (.int (f1 p0)), .val (.int (f1 p1)), .val (.int (f1 p2)), .val (.int (f0_s0_29001 p3)), .val (.int (f0_s0_44002 p3)), .val (.ref b10), .val (.int (f0_e7 p0 p1 p2)), .val (.int (f6 (f0_e14 p0 p1 p2) (f0_e15 p0 p1 p2) (f0_e16 p0 p1 p2))), .unset, .val (.int (f1 p0)), .unset, .unset] [(.int (1 : Int32))])) _
                    refine XS.istore X98.here hx rfl (hb hby at_282) rfl (l' := #[.val (.int p0), .val (.int p1), .val (.int p2), .val (.int p3), .val (.int (f1 p0)), .val (.int (f1 p1)), .val (.int (f1 p2)), .val (.int (f0_s0_29001 p3)), .val (.int (f0_s0_44002 p3)), .val (.ref b10), .val (.int (f0_e7 p0 p1 p2)), .val (.int (f6 (f0_e14 p0 p1 p2) (f0_e15 p0 p1 p2) (f0_e16 p0 p1 p2))), .val (.int (1 : Int32)), .val (.int (f1 p0)), .unset, .unset]) rfl ?_
                    show Steps p.tables e below (T98.setTop (mkF m 284 #[.val (.int p0), .val (.int p1), .val (.int p2), .val (.int p3), .val (.int (f1 p0)), .val (.int (f1 p1)), .val (.int (f1 p2)), .val (.int (f0_s0_29001 p3)), .val (.int (f0_s0_44002 p3)), .val (.ref b10), .val (.int (f0_e7 p0 p1 p2)), .val (.int (f6 (f0_e14 p0 p1 p2) (f0_e15 p0 p1 p2) (f0_e16 p0 p1 p2))), .val (.int (1 : Int32)), .val (.int (f1 p0)), .unset, .unset] [])) _
                    refine XS.goto X98.here hx rfl (pc0 := 284) (pc' := 395) rfl (hb hby at_284) (by decide) (by decide) ?_
                    exact kt
                  · have hj : (f0_l12_395027 p0 p2) = (2 : Int32) := by unfold f0_l12_395027; rw [if_neg hc130, if_neg hc131]
                    rw [hj] at kt
                    refine pre129 t ?_
                    show Steps p.tables e below (T98.setTop (mkF m 265 #[.val (.int p0), .val (.int p1), .val (.int p2), .val (.int p3), .val (.int (f1 p0)), .val (.int (f1 p1)), .val (.int (f1 p2)), .val (.int (f0_s0_29001 p3)), .val (.int (f0_s0_44002 p3)), .val (.ref b10), .val (.int (f0_e7 p0 p1 p2)), .val (.int (f6 (f0_e14 p0 p1 p2) (f0_e15 p0 p1 p2) (f0_e16 p0 p1 p2))), .unset, .val (.int (f1 p0)), .unset, .unset] [(.int (92 : Int32)), (.int (f1 p2))])) _
                    refine XS.icmpYes X98.here hx rfl (pc0 := 265) (pc' := 274) rfl (hb hby at_265) rfl (feq hc130).2 (by decide) (by decide) ?_
                    show Steps p.tables e below (T98.setTop (mkF m 274 #[.val (.int p0), .val (.int p1), .val (.int p2), .val (.int p3), .val (.int (f1 p0)), .val (.int (f1 p1)), .val (.int (f1 p2)), .val (.int (f0_s0_29001 p3)), .val (.int (f0_s0_44002 p3)), .val (.ref b10), .val (.int (f0_e7 p0 p1 p2)), .val (.int (f6 (f0_e14 p0 p1 p2) (f0_e15 p0 p1 p2) (f0_e16 p0 p1 p2))), .unset, .val (.int (f1 p0)), .unset, .unset] [])) _
                    refine XS.iload X98.here hx rfl (hb hby at_274) rfl ?_
                    show Steps p.tables e below (T98.setTop (mkF m 276 #[.val (.int p0), .val (.int p1), .val (.int p2), .val (.int p3), .val (.int (f1 p0)), .val (.int (f1 p1)), .val (.int (f1 p2)), .val (.int (f0_s0_29001 p3)), .val (.int (f0_s0_44002 p3)), .val (.ref b10), .val (.int (f0_e7 p0 p1 p2)), .val (.int (f6 (f0_e14 p0 p1 p2) (f0_e15 p0 p1 p2) (f0_e16 p0 p1 p2))), .unset, .val (.int (f1 p0)), .unset, .unset] [(.int (f1 p2))])) _
                    refine XS.iload X98.here hx rfl (hb hby at_276) rfl ?_
                    show Steps p.tables e below (T98.setTop (mkF m 278 #[.val (.int p0), .val (.int p1), .val (.int p2), .val (.int p3), .val (.int (f1 p0)), .val (.int (f1 p1)), .val (.int (f1 p2)), .val (.int (f0_s0_29001 p3)), .val (.int (f0_s0_44002 p3)), .val (.ref b10), .val (.int (f0_e7 p0 p1 p2)), .val (.int (f6 (f0_e14 p0 p1 p2) (f0_e15 p0 p1 p2) (f0_e16 p0 p1 p2))), .unset, .val (.int (f1 p0)), .unset, .unset] [(.int (f1 p0)), (.int (f1 p2))])) _
                    refine XS.icmpYes X98.here hx rfl (pc0 := 278) (pc' := 287) rfl (hb hby at_278) rfl (feq hc131).2 (by decide) (by decide) ?_
                    show Steps p.tables e below (T98.setTop (mkF m 287 #[.val (.int p0), .val (.int p1), .val (.int p2), .val (.int p3), .val (.int (f1 p0)), .val (.int (f1 p1)), .val (.int (f1 p2)), .val (.int (f0_s0_29001 p3)), .val (.int (f0_s0_44002 p3)), .val (.ref b10), .val (.int (f0_e7 p0 p1 p2)), .val (.int (f6 (f0_e14 p0 p1 p2) (f0_e15 p0 p1 p2) (f0_e16 p0 p1 p2))), .unset, .val (.int (f1 p0)), .unset, .unset] [])) _
                    refine XS.iconst X98.here hx rfl (hb hby at_287) ?_
                    show Steps p.tables e below (T98.setTop (mkF m 288 #[.val (.int p0), .val (.int p1), .val (.int p2), .val (.int p3), .val (.int (f1 p0)), .val (.int (f1 p1)), .val (.int (f1 p2)), .val (.int (f0_s0_29001 p3)), .val (.int (f0_s0_44002 p3)), .val (.ref b10), .val (.int (f0_e7 p0 p1 p2)), .val (.int (f6 (f0_e14 p0 p1 p2) (f0_e15 p0 p1 p2) (f0_e16 p0 p1 p2))), .unset, .val (.int (f1 p0)), .unset, .unset] [(.int (2 : Int32))])) _
                    refine XS.istore X98.here hx rfl (hb hby at_288) rfl (l' := #[.val (.int p0), .val (.int p1), .val (.int p2), .val (.int p3), .val (.int (f1 p0)), .val (.int (f1 p1)), .val (.int (f1 p2)), .val (.int (f0_s0_29001 p3)), .val (.int (f0_s0_44002 p3)), .val (.ref b10), .val (.int (f0_e7 p0 p1 p2)), .val (.int (f6 (f0_e14 p0 p1 p2) (f0_e15 p0 p1 p2) (f0_e16 p0 p1 p2))), .val (.int (2 : Int32)), .val (.int (f1 p0)), .unset, .unset]) rfl ?_
                    show Steps p.tables e below (T98.setTop (mkF m 290 #[.val (.int p0), .val (.int p1), .val (.int p2), .val (.int p3), .val (.int (f1 p0)), .val (.int (f1 p1)), .val (.int (f1 p2)), .val (.int (f0_s0_29001 p3)), .val (.int (f0_s0_44002 p3)), .val (.ref b10), .val (.int (f0_e7 p0 p1 p2)), .val (.int (f6 (f0_e14 p0 p1 p2) (f0_e15 p0 p1 p2) (f0_e16 p0 p1 p2))), .val (.int (2 : Int32)), .val (.int (f1 p0)), .unset, .unset] [])) _
                    refine XS.goto X98.here hx rfl (pc0 := 290) (pc' := 395) rfl (hb hby at_290) (by decide) (by decide) ?_
                    exact kt
              refine ⟨T98, _, X98, e98, N98, fun t kt => ?_⟩
              have hj : (f0_l12_395028 p0 p1 p2) = (f0_l12_395027 p0 p2) := by unfold f0_l12_395028; rw [if_neg hc86, if_neg hc100, if_neg hc120, if_neg hc122]
              rw [hj] at kt
              have hj : (f0_l13_395029 p0 p1 p2) = (f1 p0) := by unfold f0_l13_395029; rw [if_neg hc86, if_neg hc100, if_neg hc120, if_neg hc122]
              rw [hj] at kt
              refine pre132 t ?_
              exact kt
    have pre134 : ∀ t, Steps p.tables e below (T133.setTop (mkF m 397 #[.val (.int p0), .val (.int p1), .val (.int p2), .val (.int p3), .val (.int (f1 p0)), .val (.int (f1 p1)), .val (.int (f1 p2)), .val (.int (f0_s0_29001 p3)), .val (.int (f0_s0_44002 p3)), .val (.ref b10), .val (.int (f0_e7 p0 p1 p2)), .val (.int (f6 (f0_e14 p0 p1 p2) (f0_e15 p0 p1 p2) (f0_e16 p0 p1 p2))), .val (.int (f0_l12_395028 p0 p1 p2)), .val (.int (f0_l13_395029 p0 p1 p2)), .unset, .unset] [(.int (f0_l12_395028 p0 p1 p2))])) t → Steps p.tables e below (s₁.setTop (entryFrame m #[(.int p0), (.int p1), (.int p2), (.int p3)] maxLocals)) t := fun t kt => pre133 t (by
      show Steps p.tables e below (T133.setTop (mkF m 395 #[.val (.int p0), .val (.int p1), .val (.int p2), .val (.int p3), .val (.int (f1 p0)), .val (.int (f1 p1)), .val (.int (f1 p2)), .val (.int (f0_s0_29001 p3)), .val (.int (f0_s0_44002 p3)), .val (.ref b10), .val (.int (f0_e7 p0 p1 p2)), .val (.int (f6 (f0_e14 p0 p1 p2) (f0_e15 p0 p1 p2) (f0_e16 p0 p1 p2))), .val (.int (f0_l12_395028 p0 p1 p2)), .val (.int (f0_l13_395029 p0 p1 p2)), .unset, .unset] [])) _
      refine XS.iload X133.here hx rfl (hb hby at_395) rfl ?_
      exact kt)
    have pre136 : ∀ t, Steps p.tables e below (T133.setTop (mkF m 405 #[.val (.int p0), .val (.int p1), .val (.int p2), .val (.int p3), .val (.int (f1 p0)), .val (.int (f1 p1)), .val (.int (f1 p2)), .val (.int (f0_s0_29001 p3)), .val (.int (f0_s0_44002 p3)), .val (.ref b10), .val (.int (f0_e7 p0 p1 p2)), .val (.int (f6 (f0_e14 p0 p1 p2) (f0_e15 p0 p1 p2) (f0_e16 p0 p1 p2))), .val (.int (f0_l12_395028 p0 p1 p2)), .val (.int (f0_l13_395029 p0 p1 p2)), .unset, .unset] [(.int (f0_s0_405030 p0 p1 p2))])) t → Steps p.tables e below (s₁.setTop (entryFrame m #[(.int p0), (.int p1), (.int p2), (.int p3)] maxLocals)) t := by
      intro t kt
      by_cases hc135 : (f0_l12_395028 p0 p1 p2) = (0 : Int32)
      · have hj : (f0_s0_405030 p0 p1 p2) = (1 : Int32) := by unfold f0_s0_405030; rw [if_pos hc135]
        rw [hj] at kt
        refine pre134 t ?_
        show Steps p.tables e below (T133.setTop (mkF m 397 #[.val (.int p0), .val (.int p1), .val (.int p2), .val (.int p3), .val (.int (f1 p0)), .val (.int (f1 p1)), .val (.int (f1 p2)), .val (.int (f0_s0_29001 p3)), .val (.int (f0_s0_44002 p3)), .val (.ref b10), .val (.int (f0_e7 p0 p1 p2)), .val (.int (f6 (f0_e14 p0 p1 p2) (f0_e15 p0 p1 p2) (f0_e16 p0 p1 p2))), .val (.int (f0_l12_395028 p0 p1 p2)), .val (.int (f0_l13_395029 p0 p1 p2)), .unset, .unset] [(.int (f0_l12_395028 p0 p1 p2))])) _
        refine XS.ifNo X133.here hx rfl (hb hby at_397) rfl ((if0 _ _).trans (teq hc135).2) ?_
        show Steps p.tables e below (T133.setTop (mkF m 400 #[.val (.int p0), .val (.int p1), .val (.int p2), .val (.int p3), .val (.int (f1 p0)), .val (.int (f1 p1)), .val (.int (f1 p2)), .val (.int (f0_s0_29001 p3)), .val (.int (f0_s0_44002 p3)), .val (.ref b10), .val (.int (f0_e7 p0 p1 p2)), .val (.int (f6 (f0_e14 p0 p1 p2) (f0_e15 p0 p1 p2) (f0_e16 p0 p1 p2))), .val (.int (f0_l12_395028 p0 p1 p2)), .val (.int (f0_l13_395029 p0 p1 p2)), .unset, .unset] [])) _
        refine XS.iconst X133.here hx rfl (hb hby at_400) ?_
        show Steps p.tables e below (T133.setTop (mkF m 401 #[.val (.int p0), .val (.int p1), .val (.int p2), .val (.int p3), .val (.int (f1 p0)), .val (.int (f1 p1)), .val (.int (f1 p2)), .val (.int (f0_s0_29001 p3)), .val (.int (f0_s0_44002 p3)), .val (.ref b10), .val (.int (f0_e7 p0 p1 p2)), .val (.int (f6 (f0_e14 p0 p1 p2) (f0_e15 p0 p1 p2) (f0_e16 p0 p1 p2))), .val (.int (f0_l12_395028 p0 p1 p2)), .val (.int (f0_l13_395029 p0 p1 p2)), .unset, .unset] [(.int (1 : Int32))])) _
        refine XS.goto X133.here hx rfl (pc0 := 401) (pc' := 405) rfl (hb hby at_401) (by decide) (by decide) ?_
        exact kt
      · have hj : (f0_s0_405030 p0 p1 p2) = (0 : Int32) := by unfold f0_s0_405030; rw [if_neg hc135]
        rw [hj] at kt
        refine pre134 t ?_
        show Steps p.tables e below (T133.setTop (mkF m 397 #[.val (.int p0), .val (.int p1), .val (.int p2), .val (.int p3), .val (.int (f1 p0)), .val (.int (f1 p1)), .val (.int (f1 p2)), .val (.int (f0_s0_29001 p3)), .val (.int (f0_s0_44002 p3)), .val (.ref b10), .val (.int (f0_e7 p0 p1 p2)), .val (.int (f6 (f0_e14 p0 p1 p2) (f0_e15 p0 p1 p2) (f0_e16 p0 p1 p2))), .val (.int (f0_l12_395028 p0 p1 p2)), .val (.int (f0_l13_395029 p0 p1 p2)), .unset, .unset] [(.int (f0_l12_395028 p0 p1 p2))])) _
        refine XS.ifYes X133.here hx rfl (pc0 := 397) (pc' := 404) rfl (hb hby at_397) rfl ((if0 _ _).trans (feq hc135).2) (by decide) (by decide) ?_
        show Steps p.tables e below (T133.setTop (mkF m 404 #[.val (.int p0), .val (.int p1), .val (.int p2), .val (.int p3), .val (.int (f1 p0)), .val (.int (f1 p1)), .val (.int (f1 p2)), .val (.int (f0_s0_29001 p3)), .val (.int (f0_s0_44002 p3)), .val (.ref b10), .val (.int (f0_e7 p0 p1 p2)), .val (.int (f6 (f0_e14 p0 p1 p2) (f0_e15 p0 p1 p2) (f0_e16 p0 p1 p2))), .val (.int (f0_l12_395028 p0 p1 p2)), .val (.int (f0_l13_395029 p0 p1 p2)), .unset, .unset] [])) _
        refine XS.iconst X133.here hx rfl (hb hby at_404) ?_
        exact kt
    have pre137 : ∀ t, Steps p.tables e below (T133.setTop (mkF m 415 #[.val (.int p0), .val (.int p1), .val (.int p2), .val (.int p3), .val (.int (f1 p0)), .val (.int (f1 p1)), .val (.int (f1 p2)), .val (.int (f0_s0_29001 p3)), .val (.int (f0_s0_44002 p3)), .val (.ref b10), .val (.int (f0_e7 p0 p1 p2)), .val (.int (f6 (f0_e14 p0 p1 p2) (f0_e15 p0 p1 p2) (f0_e16 p0 p1 p2))), .val (.int (f0_l12_395028 p0 p1 p2)), .val (.int (f0_l13_395029 p0 p1 p2)), .val (.int (f0_s0_405030 p0 p1 p2)), .unset] [(.int (1 : Int32)), (.int (f0_l12_395028 p0 p1 p2))])) t → Steps p.tables e below (s₁.setTop (entryFrame m #[(.int p0), (.int p1), (.int p2), (.int p3)] maxLocals)) t := fun t kt => pre136 t (by
      show Steps p.tables e below (T133.setTop (mkF m 405 #[.val (.int p0), .val (.int p1), .val (.int p2), .val (.int p3), .val (.int (f1 p0)), .val (.int (f1 p1)), .val (.int (f1 p2)), .val (.int (f0_s0_29001 p3)), .val (.int (f0_s0_44002 p3)), .val (.ref b10), .val (.int (f0_e7 p0 p1 p2)), .val (.int (f6 (f0_e14 p0 p1 p2) (f0_e15 p0 p1 p2) (f0_e16 p0 p1 p2))), .val (.int (f0_l12_395028 p0 p1 p2)), .val (.int (f0_l13_395029 p0 p1 p2)), .unset, .unset] [(.int (f0_s0_405030 p0 p1 p2))])) _
      refine XS.istore X133.here hx rfl (hb hby at_405) rfl (l' := #[.val (.int p0), .val (.int p1), .val (.int p2), .val (.int p3), .val (.int (f1 p0)), .val (.int (f1 p1)), .val (.int (f1 p2)), .val (.int (f0_s0_29001 p3)), .val (.int (f0_s0_44002 p3)), .val (.ref b10), .val (.int (f0_e7 p0 p1 p2)), .val (.int (f6 (f0_e14 p0 p1 p2) (f0_e15 p0 p1 p2) (f0_e16 p0 p1 p2))), .val (.int (f0_l12_395028 p0 p1 p2)), .val (.int (f0_l13_395029 p0 p1 p2)), .val (.int (f0_s0_405030 p0 p1 p2)), .unset]) rfl ?_
      show Steps p.tables e below (T133.setTop (mkF m 407 #[.val (.int p0), .val (.int p1), .val (.int p2), .val (.int p3), .val (.int (f1 p0)), .val (.int (f1 p1)), .val (.int (f1 p2)), .val (.int (f0_s0_29001 p3)), .val (.int (f0_s0_44002 p3)), .val (.ref b10), .val (.int (f0_e7 p0 p1 p2)), .val (.int (f6 (f0_e14 p0 p1 p2) (f0_e15 p0 p1 p2) (f0_e16 p0 p1 p2))), .val (.int (f0_l12_395028 p0 p1 p2)), .val (.int (f0_l13_395029 p0 p1 p2)), .val (.int (f0_s0_405030 p0 p1 p2)), .unset] [])) _
      refine XS.iload X133.here hx rfl (hb hby at_407) rfl ?_
      show Steps p.tables e below (T133.setTop (mkF m 409 #[.val (.int p0), .val (.int p1), .val (.int p2), .val (.int p3), .val (.int (f1 p0)), .val (.int (f1 p1)), .val (.int (f1 p2)), .val (.int (f0_s0_29001 p3)), .val (.int (f0_s0_44002 p3)), .val (.ref b10), .val (.int (f0_e7 p0 p1 p2)), .val (.int (f6 (f0_e14 p0 p1 p2) (f0_e15 p0 p1 p2) (f0_e16 p0 p1 p2))), .val (.int (f0_l12_395028 p0 p1 p2)), .val (.int (f0_l13_395029 p0 p1 p2)), .val (.int (f0_s0_405030 p0 p1 p2)), .unset] [(.int (f0_s0_29001 p3))])) _
      refine XS.ifNo X133.here hx rfl (hb hby at_409) rfl ((if0 _ _).trans (feq hc18).1) ?_
      show Steps p.tables e below (T133.setTop (mkF m 412 #[.val (.int p0), .val (.int p1), .val (.int p2), .val (.int p3), .val (.int (f1 p0)), .val (.int (f1 p1)), .val (.int (f1 p2)), .val (.int (f0_s0_29001 p3)), .val (.int (f0_s0_44002 p3)), .val (.ref b10), .val (.int (f0_e7 p0 p1 p2)), .val (.int (f6 (f0_e14 p0 p1 p2) (f0_e15 p0 p1 p2) (f0_e16 p0 p1 p2))), .val (.int (f0_l12_395028 p0 p1 p2)), .val (.int (f0_l13_395029 p0 p1 p2)), .val (.int (f0_s0_405030 p0 p1 p2)), .unset] [])) _
      refine XS.iload X133.here hx rfl (hb hby at_412) rfl ?_
      show Steps p.tables e below (T133.setTop (mkF m 414 #[.val (.int p0), .val (.int p1), .val (.int p2), .val (.int p3), .val (.int (f1 p0)), .val (.int (f1 p1)), .val (.int (f1 p2)), .val (.int (f0_s0_29001 p3)), .val (.int (f0_s0_44002 p3)), .val (.ref b10), .val (.int (f0_e7 p0 p1 p2)), .val (.int (f6 (f0_e14 p0 p1 p2) (f0_e15 p0 p1 p2) (f0_e16 p0 p1 p2))), .val (.int (f0_l12_395028 p0 p1 p2)), .val (.int (f0_l13_395029 p0 p1 p2)), .val (.int (f0_s0_405030 p0 p1 p2)), .unset] [(.int (f0_l12_395028 p0 p1 p2))])) _
      refine XS.iconst X133.here hx rfl (hb hby at_414) ?_
      exact kt)
    have pre139 : ∀ t, Steps p.tables e below (T133.setTop (mkF m 423 #[.val (.int p0), .val (.int p1), .val (.int p2), .val (.int p3), .val (.int (f1 p0)), .val (.int (f1 p1)), .val (.int (f1 p2)), .val (.int (f0_s0_29001 p3)), .val (.int (f0_s0_44002 p3)), .val (.ref b10), .val (.int (f0_e7 p0 p1 p2)), .val (.int (f6 (f0_e14 p0 p1 p2) (f0_e15 p0 p1 p2) (f0_e16 p0 p1 p2))), .val (.int (f0_l12_395028 p0 p1 p2)), .val (.int (f0_l13_395029 p0 p1 p2)), .val (.int (f0_s0_405030 p0 p1 p2)), .unset] [(.int (f0_s0_423031 p0 p1 p2))])) t → Steps p.tables e below (s₁.setTop (entryFrame m #[(.int p0), (.int p1), (.int p2), (.int p3)] maxLocals)) t := by
      intro t kt
      by_cases hc138 : (1 : Int32) < (f0_l12_395028 p0 p1 p2)
      · have hj : (f0_s0_423031 p0 p1 p2) = (0 : Int32) := by unfold f0_s0_423031; rw [if_pos hc138]
        rw [hj] at kt
        refine pre137 t ?_
        show Steps p.tables e below (T133.setTop (mkF m 415 #[.val (.int p0), .val (.int p1), .val (.int p2), .val (.int p3), .val (.int (f1 p0)), .val (.int (f1 p1)), .val (.int (f1 p2)), .val (.int (f0_s0_29001 p3)), .val (.int (f0_s0_44002 p3)), .val (.ref b10), .val (.int (f0_e7 p0 p1 p2)), .val (.int (f6 (f0_e14 p0 p1 p2) (f0_e15 p0 p1 p2) (f0_e16 p0 p1 p2))), .val (.int (f0_l12_395028 p0 p1 p2)), .val (.int (f0_l13_395029 p0 p1 p2)), .val (.int (f0_s0_405030 p0 p1 p2)), .unset] [(.int (1 : Int32)), (.int (f0_l12_395028 p0 p1 p2))])) _
        refine XS.icmpYes X133.here hx rfl (pc0 := 415) (pc' := 422) rfl (hb hby at_415) rfl (tlt hc138).2.2.1 (by decide) (by decide) ?_
        show Steps p.tables e below (T133.setTop (mkF m 422 #[.val (.int p0), .val (.int p1), .val (.int p2), .val (.int p3), .val (.int (f1 p0)), .val (.int (f1 p1)), .val (.int (f1 p2)), .val (.int (f0_s0_29001 p3)), .val (.int (f0_s0_44002 p3)), .val (.ref b10), .val (.int (f0_e7 p0 p1 p2)), .val (.int (f6 (f0_e14 p0 p1 p2) (f0_e15 p0 p1 p2) (f0_e16 p0 p1 p2))), .val (.int (f0_l12_395028 p0 p1 p2)), .val (.int (f0_l13_395029 p0 p1 p2)), .val (.int (f0_s0_405030 p0 p1 p2)), .unset] [])) _
        refine XS.iconst X133.here hx rfl (hb hby at_422) ?_
        exact kt
      · have hj : (f0_s0_423031 p0 p1 p2) = (1 : Int32) := by unfold f0_s0_423031; rw [if_neg hc138]
        rw [hj] at kt
        refine pre137 t ?_
        show Steps p.tables e below (T133.setTop (mkF m 415 #[.val (.int p0), .val (.int p1), .val (.int p2), .val (.int p3), .val (.int (f1 p0)), .val (.int (f1 p1)), .val (.int (f1 p2)), .val (.int (f0_s0_29001 p3)), .val (.int (f0_s0_44002 p3)), .val (.ref b10), .val (.int (f0_e7 p0 p1 p2)), .val (.int (f6 (f0_e14 p0 p1 p2) (f0_e15 p0 p1 p2) (f0_e16 p0 p1 p2))), .val (.int (f0_l12_395028 p0 p1 p2)), .val (.int (f0_l13_395029 p0 p1 p2)), .val (.int (f0_s0_405030 p0 p1 p2)), .unset] [(.int (1 : Int32)), (.int (f0_l12_395028 p0 p1 p2))])) _
        refine XS.icmpNo X133.here hx rfl (hb hby at_415) rfl (flt hc138).2.2.1 ?_
        show Steps p.tables e below (T133.setTop (mkF m 418 #[.val (.int p0), .val (.int p1), .val (.int p2), .val (.int p3), .val (.int (f1 p0)), .val (.int (f1 p1)), .val (.int (f1 p2)), .val (.int (f0_s0_29001 p3)), .val (.int (f0_s0_44002 p3)), .val (.ref b10), .val (.int (f0_e7 p0 p1 p2)), .val (.int (f6 (f0_e14 p0 p1 p2) (f0_e15 p0 p1 p2) (f0_e16 p0 p1 p2))), .val (.int (f0_l12_395028 p0 p1 p2)), .val (.int (f0_l13_395029 p0 p1 p2)), .val (.int (f0_s0_405030 p0 p1 p2)), .unset] [])) _
        refine XS.iconst X133.here hx rfl (hb hby at_418) ?_
        show Steps p.tables e below (T133.setTop (mkF m 419 #[.val (.int p0), .val (.int p1), .val (.int p2), .val (.int p3), .val (.int (f1 p0)), .val (.int (f1 p1)), .val (.int (f1 p2)), .val (.int (f0_s0_29001 p3)), .val (.int (f0_s0_44002 p3)), .val (.ref b10), .val (.int (f0_e7 p0 p1 p2)), .val (.int (f6 (f0_e14 p0 p1 p2) (f0_e15 p0 p1 p2) (f0_e16 p0 p1 p2))), .val (.int (f0_l12_395028 p0 p1 p2)), .val (.int (f0_l13_395029 p0 p1 p2)), .val (.int (f0_s0_405030 p0 p1 p2)), .unset] [(.int (1 : Int32))])) _
        refine XS.goto X133.here hx rfl (pc0 := 419) (pc' := 423) rfl (hb hby at_419) (by decide) (by decide) ?_
        exact kt
    have pre140 : ∀ t, Steps p.tables e below (T133.setTop (mkF m 457 #[.val (.int p0), .val (.int p1), .val (.int p2), .val (.int p3), .val (.int (f1 p0)), .val (.int (f1 p1)), .val (.int (f1 p2)), .val (.int (f0_s0_29001 p3)), .val (.int (f0_s0_44002 p3)), .val (.ref b10), .val (.int (f0_e7 p0 p1 p2)), .val (.int (f6 (f0_e14 p0 p1 p2) (f0_e15 p0 p1 p2) (f0_e16 p0 p1 p2))), .val (.int (f0_l12_395028 p0 p1 p2)), .val (.int (f0_l13_395029 p0 p1 p2)), .val (.int (f0_s0_405030 p0 p1 p2)), .val (.int (f0_s0_423031 p0 p1 p2))] [(.int (f0_s0_405030 p0 p1 p2)), (.int (f0_e7 p0 p1 p2))])) t → Steps p.tables e below (s₁.setTop (entryFrame m #[(.int p0), (.int p1), (.int p2), (.int p3)] maxLocals)) t := fun t kt => pre139 t (by
      show Steps p.tables e below (T133.setTop (mkF m 423 #[.val (.int p0), .val (.int p1), .val (.int p2), .val (.int p3), .val (.int (f1 p0)), .val (.int (f1 p1)), .val (.int (f1 p2)), .val (.int (f0_s0_29001 p3)), .val (.int (f0_s0_44002 p3)), .val (.ref b10), .val (.int (f0_e7 p0 p1 p2)), .val (.int (f6 (f0_e14 p0 p1 p2) (f0_e15 p0 p1 p2) (f0_e16 p0 p1 p2))), .val (.int (f0_l12_395028 p0 p1 p2)), .val (.int (f0_l13_395029 p0 p1 p2)), .val (.int (f0_s0_405030 p0 p1 p2)), .unset] [(.int (f0_s0_423031 p0 p1 p2))])) _
      refine XS.istore X133.here hx rfl (hb hby at_423) rfl (l' := #[.val (.int p0), .val (.int p1), .val (.int p2), .val (.int p3), .val (.int (f1 p0)), .val (.int (f1 p1)), .val (.int (f1 p2)), .val (.int (f0_s0_29001 p3)), .val (.int (f0_s0_44002 p3)), .val (.ref b10), .val (.int (f0_e7 p0 p1 p2)), .val (.int (f6 (f0_e14 p0 p1 p2) (f0_e15 p0 p1 p2) (f0_e16 p0 p1 p2))), .val (.int (f0_l12_395028 p0 p1 p2)), .val (.int (f0_l13_395029 p0 p1 p2)), .val (.int (f0_s0_405030 p0 p1 p2)), .val (.int (f0_s0_423031 p0 p1 p2))]) rfl ?_
      show Steps p.tables e below (T133.setTop (mkF m 425 #[.val (.int p0), .val (.int p1), .val (.int p2), .val (.int p3), .val (.int (f1 p0)), .val (.int (f1 p1)), .val (.int (f1 p2)), .val (.int (f0_s0_29001 p3)), .val (.int (f0_s0_44002 p3)), .val (.ref b10), .val (.int (f0_e7 p0 p1 p2)), .val (.int (f6 (f0_e14 p0 p1 p2) (f0_e15 p0 p1 p2) (f0_e16 p0 p1 p2))), .val (.int (f0_l12_395028 p0 p1 p2)), .val (.int (f0_l13_395029 p0 p1 p2)), .val (.int (f0_s0_405030 p0 p1 p2)), .val (.int (f0_s0_423031 p0 p1 p2))] [])) _
      refine XS.goto X133.here hx rfl (pc0 := 425) (pc' := 453) rfl (hb hby at_425) (by decide) (by decide) ?_
      show Steps p.tables e below (T133.setTop (mkF m 453 #[.val (.int p0), .val (.int p1), .val (.int p2), .val (.int p3), .val (.int (f1 p0)), .val (.int (f1 p1)), .val (.int (f1 p2)), .val (.int (f0_s0_29001 p3)), .val (.int (f0_s0_44002 p3)), .val (.ref b10), .val (.int (f0_e7 p0 p1 p2)), .val (.int (f6 (f0_e14 p0 p1 p2) (f0_e15 p0 p1 p2) (f0_e16 p0 p1 p2))), .val (.int (f0_l12_395028 p0 p1 p2)), .val (.int (f0_l13_395029 p0 p1 p2)), .val (.int (f0_s0_405030 p0 p1 p2)), .val (.int (f0_s0_423031 p0 p1 p2))] [])) _
      refine XS.iload X133.here hx rfl (hb hby at_453) rfl ?_
      show Steps p.tables e below (T133.setTop (mkF m 455 #[.val (.int p0), .val (.int p1), .val (.int p2), .val (.int p3), .val (.int (f1 p0)), .val (.int (f1 p1)), .val (.int (f1 p2)), .val (.int (f0_s0_29001 p3)), .val (.int (f0_s0_44002 p3)), .val (.ref b10), .val (.int (f0_e7 p0 p1 p2)), .val (.int (f6 (f0_e14 p0 p1 p2) (f0_e15 p0 p1 p2) (f0_e16 p0 p1 p2))), .val (.int (f0_l12_395028 p0 p1 p2)), .val (.int (f0_l13_395029 p0 p1 p2)), .val (.int (f0_s0_405030 p0 p1 p2)), .val (.int (f0_s0_423031 p0 p1 p2))] [(.int (f0_e7 p0 p1 p2))])) _
      refine XS.iload X133.here hx rfl (hb hby at_455) rfl ?_
      exact kt)
    have pre143 : ∀ t, Steps p.tables e below (T133.setTop (mkF m 472 #[.val (.int p0), .val (.int p1), .val (.int p2), .val (.int p3), .val (.int (f1 p0)), .val (.int (f1 p1)), .val (.int (f1 p2)), .val (.int (f0_s0_29001 p3)), .val (.int (f0_s0_44002 p3)), .val (.ref b10), .val (.int (f0_e7 p0 p1 p2)), .val (.int (f6 (f0_e14 p0 p1 p2) (f0_e15 p0 p1 p2) (f0_e16 p0 p1 p2))), .val (.int (f0_l12_395028 p0 p1 p2)), .val (.int (f0_l13_395029 p0 p1 p2)), .val (.int (f0_s0_405030 p0 p1 p2)), .val (.int (f0_s0_423031 p0 p1 p2))] [(.int (f0_s0_472032 p0 p1 p2))])) t → Steps p.tables e below (s₁.setTop (entryFrame m #[(.int p0), (.int p1), (.int p2), (.int p3)] maxLocals)) t := by
      intro t kt
      by_cases hc141 : (f0_e7 p0 p1 p2) = (f0_s0_405030 p0 p1 p2)
      · by_cases hc142 : (f6 (f0_e14 p0 p1 p2) (f0_e15 p0 p1 p2) (f0_e16 p0 p1 p2)) = (f0_s0_423031 p0 p1 p2)
        · have hj : (f0_s0_472032 p0 p1 p2) = (1 : Int32) := by unfold f0_s0_472032; rw [if_pos hc141, if_pos hc142]
          rw [hj] at kt
          refine pre140 t ?_
          show Steps p.tables e below (T133.setTop (mkF m 457 #[.val (.int p0), .val (.int p1), .val (.int p2), .val (.int p3), .val (.int (f1 p0)), .val (.int (f1 p1)), .val (.int (f1 p2)), .val (.int (f0_s0_29001 p3)), .val (.int (f0_s0_44002 p3)), .val (.ref b10), .val (.int (f0_e7 p0 p1 p2)), .val (.int (f6 (f0_e14 p0 p1 p2) (f0_e15 p0 p1 p2) (f0_e16 p0 p1 p2))), .val (.int (f0_l12_395028 p0 p1 p2)), .val (.int (f0_l13_395029 p0 p1 p2)), .val (.int (f0_s0_405030 p0 p1 p2)), .val (.int (f0_s0_423031 p0 p1 p2))] [(.int (f0_s0_405030 p0 p1 p2)), (.int (f0_e7 p0 p1 p2))])) _
          refine XS.icmpNo X133.here hx rfl (hb hby at_457) rfl (teq hc141).2 ?_
          show Steps p.tables e below (T133.setTop (mkF m 460 #[.val (.int p0), .val (.int p1), .val (.int p2), .val (.int p3), .val (.int (f1 p0)), .val (.int (f1 p1)), .val (.int (f1 p2)), .val (.int (f0_s0_29001 p3)), .val (.int (f0_s0_44002 p3)), .val (.ref b10), .val (.int (f0_e7 p0 p1 p2)), .val (.int (f6 (f0_e14 p0 p1 p2) (f0_e15 p0 p1 p2) (f0_e16 p0 p1 p2))), .val (.int (f0_l12_395028 p0 p1 p2)), .val (.int (f0_l13_395029 p0 p1 p2)), .val (.int (f0_s0_405030 p0 p1 p2)), .val (.int (f0_s0_423031 p0 p1 p2))] [])) _
          refine XS.iload X133.here hx rfl (hb hby at_460) rfl ?_
          show Steps p.tables e below (T133.setTop (mkF m 462 #[.val (.int p0), .val (.int p1), .val (.int p2), .val (.int p3), .val (.int (f1 p0)), .val (.int (f1 p1)), .val (.int (f1 p2)), .val (.int (f0_s0_29001 p3)), .val (.int (f0_s0_44002 p3)), .val (.ref b10), .val (.int (f0_e7 p0 p1 p2)), .val (.int (f6 (f0_e14 p0 p1 p2) (f0_e15 p0 p1 p2) (f0_e16 p0 p1 p2))), .val (.int (f0_l12_395028 p0 p1 p2)), .val (.int (f0_l13_395029 p0 p1 p2)), .val (.int (f0_s0_405030 p0 p1 p2)), .val (.int (f0_s0_423031 p0 p1 p2))] [(.int (f6 (f0_e14 p0 p1 p2) (f0_e15 p0 p1 p2) (f0_e16 p0 p1 p2)))])) _
          refine XS.iload X133.here hx rfl (hb hby at_462) rfl ?_
          show Steps p.tables e below (T133.setTop (mkF m 464 #[.val (.int p0), .val (.int p1), .val (.int p2), .val (.int p3), .val (.int (f1 p0)), .val (.int (f1 p1)), .val (.int (f1 p2)), .val (.int (f0_s0_29001 p3)), .val (.int (f0_s0_44002 p3)), .val (.ref b10), .val (.int (f0_e7 p0 p1 p2)), .val (.int (f6 (f0_e14 p0 p1 p2) (f0_e15 p0 p1 p2) (f0_e16 p0 p1 p2))), .val (.int (f0_l12_395028 p0 p1 p2)), .val (.int (f0_l13_395029 p0 p1 p2)), .val (.int (f0_s0_405030 p0 p1 p2)), .val (.int (f0_s0_423031 p0 p1 p2))] [(.int (f0_s0_423031 p0 p1 p2)), (.int (f6 (f0_e14 p0 p1 p2) (f0_e15 p0 p1 p2) (f0_e16 p0 p1 p2)))])) _
          refine XS.icmpNo X133.here hx rfl (hb hby at_464) rfl (teq hc142).2 ?_
          show Steps p.tables e below (T133.setTop (mkF m 467 #[.val (.int p0), .val (.int p1), .val (.int p2), .val (.int p3), .val (.int (f1 p0)), .val (.int (f1 p1)), .val (.int (f1 p2)), .val (.int (f0_s0_29001 p3)), .val (.int (f0_s0_44002 p3)), .val (.ref b10), .val (.int (f0_e7 p0 p1 p2)), .val (.int (f6 (f0_e14 p0 p1 p2) (f0_e15 p0 p1 p2) (f0_e16 p0 p1 p2))), .val (.int (f0_l12_395028 p0 p1 p2)), .val (.int (f0_l13_395029 p0 p1 p2)), .val (.int (f0_s0_405030 p0 p1 p2)), .val (.int (f0_s0_423031 p0 p1 p2))] [])) _
          refine XS.iconst X133.here hx rfl (hb hby at_467) ?_
          show Steps p.tables e below (T133.setTop (mkF m 468 #[.val (.int p0), .val (.int p1), .val (.int p2), .val (.int p3), .val (.int (f1 p0)), .val (.int (f1 p1)), .val (.int (f1 p2)), .val (.int (f0_s0_29001 p3)), .val (.int (f0_s0_44002 p3)), .val (.ref b10), .val (.int (f0_e7 p0 p1 p2)), .val (.int (f6 (f0_e14 p0 p1 p2) (f0_e15 p0 p1 p2) (f0_e16 p0 p1 p2))), .val (.int (f0_l12_395028 p0 p1 p2)), .val (.int (f0_l13_395029 p0 p1 p2)), .val (.int (f0_s0_405030 p0 p1 p2)), .val (.int (f0_s0_423031 p0 p1 p2))] [(.int (1 : Int32))])) _
          refine XS.goto X133.here hx rfl (pc0 := 468) (pc' := 472) rfl (hb hby at_468) (by decide) (by decide) ?_
          exact kt
        · have hj : (f0_s0_472032 p0 p1 p2) = (0 : Int32) := by unfold f0_s0_472032; rw [if_pos hc141, if_neg hc142]
          rw [hj] at kt
          refine pre140 t ?_
          show Steps p.tables e below (T133.setTop (mkF m 457 #[.val (.int p0), .val (.int p1), .val (.int p2), .val (.int p3), .val (.int (f1 p0)), .val (.int (f1 p1)), .val (.int (f1 p2)), .val (.int (f0_s0_29001 p3)), .val (.int (f0_s0_44002 p3)), .val (.ref b10), .val (.int (f0_e7 p0 p1 p2)), .val (.int (f6 (f0_e14 p0 p1 p2) (f0_e15 p0 p1 p2) (f0_e16 p0 p1 p2))), .val (.int (f0_l12_395028 p0 p1 p2)), .val (.int (f0_l13_395029 p0 p1 p2)), .val (.int (f0_s0_405030 p0 p1 p2)), .val (.int (f0_s0_423031 p0 p1 p2))] [(.int (f0_s0_405030 p0 p1 p2)), (.int (f0_e7 p0 p1 p2))])) _
          refine XS.icmpNo X133.here hx rfl (hb hby at_457) rfl (teq hc141).2 ?_
          show Steps p.tables e below (T133.setTop (mkF m 460 #[.val (.int p0), .val (.int p1), .val (.int p2), .val (.int p3), .val (.int (f1 p0)), .val (.int (f1 p1)), .val (.int (f1 p2)), .val (.int (f0_s0_29001 p3)), .val (.int (f0_s0_44002 p3)), .val (.ref b10), .val (.int (f0_e7 p0 p1 p2)), .val (.int (f6 (f0_e14 p0 p1 p2) (f0_e15 p0 p1 p2) (f0_e16 p0 p1 p2))), .val (.int (f0_l12_395028 p0 p1 p2)), .val (.int (f0_l13_395029 p0 p1 p2)), .val (.int (f0_s0_405030 p0 p1 p2)), .val (.int (f0_s0_423031 p0 p1 p2))] [])) _
          refine XS.iload X133.here hx rfl (hb hby at_460) rfl ?_
          show Steps p.tables e below (T133.setTop (mkF m 462 #[.val (.int p0), .val (.int p1), .val (.int p2), .val (.int p3), .val (.int (f1 p0)), .val (.int (f1 p1)), .val (.int (f1 p2)), .val (.int (f0_s0_29001 p3)), .val (.int (f0_s0_44002 p3)), .val (.ref b10), .val (.int (f0_e7 p0 p1 p2)), .val (.int (f6 (f0_e14 p0 p1 p2) (f0_e15 p0 p1 p2) (f0_e16 p0 p1 p2))), .val (.int (f0_l12_395028 p0 p1 p2)), .val (.int (f0_l13_395029 p0 p1 p2)), .val (.int (f0_s0_405030 p0 p1 p2)), .val (.int (f0_s0_423031 p0 p1 p2))] [(.int (f6 (f0_e14 p0 p1 p2) (f0_e15 p0 p1 p2) (f0_e16 p0 p1 p2)))])) _
          refine XS.iload X133.here hx rfl (hb hby at_462) rfl ?_
          show Steps p.tables e below (T133.setTop (mkF m 464 #[.val (.int p0), .val (.int p1), .val (.int p2), .val (.int p3), .val (.int (f1 p0)), .val (.int (f1 p1)), .val (.int (f1 p2)), .val (.int (f0_s0_29001 p3)), .val (.int (f0_s0_44002 p3)), .val (.ref b10), .val (.int (f0_e7 p0 p1 p2)), .val (.int (f6 (f0_e14 p0 p1 p2) (f0_e15 p0 p1 p2) (f0_e16 p0 p1 p2))), .val (.int (f0_l12_395028 p0 p1 p2)), .val (.int (f0_l13_395029 p0 p1 p2)), .val (.int (f0_s0_405030 p0 p1 p2)), .val (.int (f0_s0_423031 p0 p1 p2))] [(.int (f0_s0_423031 p0 p1 p2)), (.int (f6 (f0_e14 p0 p1 p2) (f0_e15 p0 p1 p2) (f0_e16 p0 p1 p2)))])) _
          refine XS.icmpYes X133.here hx rfl (pc0 := 464) (pc' := 471) rfl (hb hby at_464) rfl (feq hc142).2 (by decide) (by decide) ?_
          show Steps p.tables e below (T133.setTop (mkF m 471 #[.val (.int p0), .val (.int p1), .val (.int p2), .val (.int p3), .val (.int (f1 p0)), .val (.int (f1 p1)), .val (.int (f1 p2)), .val (.int (f0_s0_29001 p3)), .val (.int (f0_s0_44002 p3)), .val (.ref b10), .val (.int (f0_e7 p0 p1 p2)), .val (.int (f6 (f0_e14 p0 p1 p2) (f0_e15 p0 p1 p2) (f0_e16 p0 p1 p2))), .val (.int (f0_l12_395028 p0 p1 p2)), .val (.int (f0_l13_395029 p0 p1 p2)), .val (.int (f0_s0_405030 p0 p1 p2)), .val (.int (f0_s0_423031 p0 p1 p2))] [])) _
          refine XS.iconst X133.here hx rfl (hb hby at_471) ?_
          exact kt
      · have hj : (f0_s0_472032 p0 p1 p2) = (0 : Int32) := by unfold f0_s0_472032; rw [if_neg hc141]
        rw [hj] at kt
        refine pre140 t ?_
        show Steps p.tables e below (T133.setTop (mkF m 457 #[.val (.int p0), .val (.int p1), .val (.int p2), .val (.int p3), .val (.int (f1 p0)), .val (.int (f1 p1)), .val (.int (f1 p2)), .val (.int (f0_s0_29001 p3)), .val (.int (f0_s0_44002 p3)), .val (.ref b10), .val (.int (f0_e7 p0 p1 p2)), .val (.int (f6 (f0_e14 p0 p1 p2) (f0_e15 p0 p1 p2) (f0_e16 p0 p1 p2))), .val (.int (f0_l12_395028 p0 p1 p2)), .val (.int (f0_l13_395029 p0 p1 p2)), .val (.int (f0_s0_405030 p0 p1 p2)), .val (.int (f0_s0_423031 p0 p1 p2))] [(.int (f0_s0_405030 p0 p1 p2)), (.int (f0_e7 p0 p1 p2))])) _
        refine XS.icmpYes X133.here hx rfl (pc0 := 457) (pc' := 471) rfl (hb hby at_457) rfl (feq hc141).2 (by decide) (by decide) ?_
        show Steps p.tables e below (T133.setTop (mkF m 471 #[.val (.int p0), .val (.int p1), .val (.int p2), .val (.int p3), .val (.int (f1 p0)), .val (.int (f1 p1)), .val (.int (f1 p2)), .val (.int (f0_s0_29001 p3)), .val (.int (f0_s0_44002 p3)), .val (.ref b10), .val (.int (f0_e7 p0 p1 p2)), .val (.int (f6 (f0_e14 p0 p1 p2) (f0_e15 p0 p1 p2) (f0_e16 p0 p1 p2))), .val (.int (f0_l12_395028 p0 p1 p2)), .val (.int (f0_l13_395029 p0 p1 p2)), .val (.int (f0_s0_405030 p0 p1 p2)), .val (.int (f0_s0_423031 p0 p1 p2))] [])) _
        refine XS.iconst X133.here hx rfl (hb hby at_471) ?_
        exact kt
    obtain ⟨fs, hr, hrun, hended, hW, hsame⟩ := X133.leave (v := some (.int ((f0_s0_472032 p0 p1 p2) &&& 1))) (fun h => by rw [Bd.returns] at h; cases h)
    refine ⟨_, _, pre143 _ ?_, hrun, hended, _, _, rfl, ?_, ⟨_, rfl⟩, hW, hsame.mono (by decide) (by decide)⟩
    · show Steps p.tables e below (T133.setTop (mkF m 472 #[.val (.int p0), .val (.int p1), .val (.int p2), .val (.int p3), .val (.int (f1 p0)), .val (.int (f1 p1)), .val (.int (f1 p2)), .val (.int (f0_s0_29001 p3)), .val (.int (f0_s0_44002 p3)), .val (.ref b10), .val (.int (f0_e7 p0 p1 p2)), .val (.int (f6 (f0_e14 p0 p1 p2) (f0_e15 p0 p1 p2) (f0_e16 p0 p1 p2))), .val (.int (f0_l12_395028 p0 p1 p2)), .val (.int (f0_l13_395029 p0 p1 p2)), .val (.int (f0_s0_405030 p0 p1 p2)), .val (.int (f0_s0_423031 p0 p1 p2))] [(.int (f0_s0_472032 p0 p1 p2))])) _
      exact retN X133 hx (t := .boolean) Bd.returns (by simp) (hb hby at_472) hr
    · show Q0 Z p0 p1 p2 p3 h0 n0 _ T133.heap _
      rw [e133]
      exact ⟨by rw [show f0 p0 p1 p2 p3 = ((f0_s0_472032 p0 p1 p2) &&& 1) from by unfold f0; rw [if_neg hc18]], N133⟩
theorem own_q10 (p : Int32) : f4_quote p 0 1 0 = if p = 39 then 39 else if p = 34 then 34 else 0 := by
  unfold f4_quote f5
  by_cases h1 : p = 39
  · subst h1; decide
  · by_cases h2 : p = 34
    · subst h2; decide
    · simp [h1, h2]
theorem own_s10 (p : Int32) : f4_inSelector p 0 1 0 = if p = 93 then 0 else 1 := by
  unfold f4_inSelector f5
  by_cases h1 : p = 39
  · subst h1; decide
  · by_cases h2 : p = 34
    · subst h2; decide
    · simp [h1, h2]
theorem own_e10 (p : Int32) : f4_escaping p 0 1 0 = 0 := by
  unfold f4_escaping
  simp
theorem own_q00 (p : Int32) : f4_quote p 0 0 0 = 0 := by unfold f4_quote; rw [if_pos rfl, if_pos rfl]
theorem own_s00 (p : Int32) : f4_inSelector p 0 0 0 = if p = 91 then 1 else 0 := by
  unfold f4_inSelector f4_s0_34001
  rw [if_pos rfl, if_pos rfl]
  by_cases h : p = 91
  · rw [if_pos h]; decide
  · rw [if_neg h]; decide
theorem own_e00 (p : Int32) : f4_escaping p 0 0 0 = 0 := by unfold f4_escaping; rw [if_pos rfl, if_pos rfl]
theorem own_qq (p w : Int32) (hw : ¬ w = 0) : f4_quote p w 1 0 = if p = 92 then w else if p = w then 0 else w := by unfold f4_quote f8_quote; rw [if_neg hw, if_pos rfl]
theorem own_sq (p w e : Int32) (hw : ¬ w = 0) : f4_inSelector p w 1 e = 1 := by unfold f4_inSelector; rw [if_neg hw]
theorem own_eq (p w : Int32) (hw : ¬ w = 0) : f4_escaping p w 1 0 = if p = 92 then 1 else 0 := by
  unfold f4_escaping f8_escaping
  rw [if_neg hw, if_pos rfl]
  simp
theorem own_qe (p w : Int32) (hw : ¬ w = 0) : f4_quote p w 1 1 = w := by unfold f4_quote f8_quote; rw [if_neg hw, if_neg (by decide)]
theorem own_ee (p w : Int32) (hw : ¬ w = 0) : f4_escaping p w 1 1 = 0 := by unfold f4_escaping f8_escaping; rw [if_neg hw, if_neg (by decide)]
def own_Inv (l12 l13 q s e : Int32) : Prop := (l12 = 0 ∧ q = 0 ∧ s = 0 ∧ e = 0) ∨ (l12 = 1 ∧ q = 0 ∧ s = 1 ∧ e = 0) ∨ (l12 = 2 ∧ q = l13 ∧ s = 1 ∧ e = 0 ∧ (l13 = 34 ∨ l13 = 39)) ∨ (l12 = 3 ∧ s = 1 ∧ e = 1 ∧ (q = 34 ∨ q = 39))
theorem own_w0 {w : Int32} (h : w = 34 ∨ w = 39) : ¬ w = 0 := by rcases h with rfl | rfl <;> decide
theorem own_dA0 (d x : Int32) : own_Inv (if d = 91 then 1 else 0) x (f4_quote d 0 0 0) (f4_inSelector d 0 0 0) (f4_escaping d 0 0 0) := by
  rw [own_q00, own_s00, own_e00]
  unfold own_Inv
  by_cases h : d = 91
  · simp [h]
  · simp [h]
theorem own_dA1 (d : Int32) : own_Inv (if d = 93 then 0 else if f7 d = 0 then 1 else 2) (if d = 93 then 32 else if f7 d = 0 then 32 else d) (f4_quote d 0 1 0) (f4_inSelector d 0 1 0) (f4_escaping d 0 1 0) := by
  rw [own_q10, own_s10, own_e10]
  unfold own_Inv f7
  by_cases h1 : d = 93
  · subst h1; decide
  · by_cases h2 : d = 39
    · subst h2; decide
    · by_cases h3 : d = 34
      · subst h3; decide
      · simp [h1, h2, h3]
theorem own_dA2 (d w : Int32) (h : w = 34 ∨ w = 39) : own_Inv (if d = 92 then 3 else if d = w then 1 else 2) w (f4_quote d w 1 0) (f4_inSelector d w 1 0) (f4_escaping d w 1 0) := by
  rw [own_qq d w (own_w0 h), own_sq d w 0 (own_w0 h), own_eq d w (own_w0 h)]
  unfold own_Inv
  by_cases h1 : d = 92
  · simp [h1, h]
  · by_cases h2 : d = w
    · simp [h1, h2]; rcases h with rfl | rfl <;> simp
    · simp [h1, h2, h]
theorem own_dA3 (d w : Int32) (h : w = 34 ∨ w = 39) : own_Inv 2 w (f4_quote d w 1 1) (f4_inSelector d w 1 1) (f4_escaping d w 1 1) := by
  rw [own_qe d w (own_w0 h), own_sq d w 1 (own_w0 h), own_ee d w (own_w0 h)]
  unfold own_Inv
  simp [h]
def own_L12 (b c d : Int32) : Int32 := (if b = 93 then (if c = 91 then (if d = 93 then 0 else if f7 d = 0 then 1 else 2) else (if d = 91 then 1 else 0)) else (if f7 b = 0 then (if c = 93 then (if d = 91 then 1 else 0) else (if f7 c = 0 then (if d = 93 then 0 else if f7 d = 0 then 1 else 2) else (if d = 92 then 3 else if d = c then 1 else 2))) else (if c = 92 then 2 else (if c = b then (if d = 93 then 0 else if f7 d = 0 then 1 else 2) else (if d = 92 then 3 else if d = b then 1 else 2)))))
def own_L13 (b c d : Int32) : Int32 := (if b = 93 then (if c = 91 then (if d = 93 then 32 else if f7 d = 0 then 32 else d) else 32) else (if f7 b = 0 then (if c = 93 then 32 else (if f7 c = 0 then (if d = 93 then 32 else if f7 d = 0 then 32 else d) else c)) else (if c = 92 then b else (if c = b then (if d = 93 then 32 else if f7 d = 0 then 32 else d) else b))))
theorem own_f7 {x : Int32} (h : ¬ f7 x = 0) : x = 34 ∨ x = 39 := by
  unfold f7 at h
  by_cases h1 : x = 39
  · exact Or.inr h1
  · by_cases h2 : x = 34
    · exact Or.inl h2
    · rw [if_neg h1, if_neg h2] at h; exact absurd rfl h
theorem own_f7n {x : Int32} (h : f7 x = 0) : ¬ x = 34 ∧ ¬ x = 39 := by
  constructor
  · rintro rfl; revert h; decide
  · rintro rfl; revert h; decide
theorem own_inv (b c d : Int32) : own_Inv (own_L12 b c d) (own_L13 b c d)
    (f4_quote d (f4_quote c (f4_quote b 0 1 0) (f4_inSelector b 0 1 0) (f4_escaping b 0 1 0)) (f4_inSelector c (f4_quote b 0 1 0) (f4_inSelector b 0 1 0) (f4_escaping b 0 1 0)) (f4_escaping c (f4_quote b 0 1 0) (f4_inSelector b 0 1 0) (f4_escaping b 0 1 0)))
    (f4_inSelector d (f4_quote c (f4_quote b 0 1 0) (f4_inSelector b 0 1 0) (f4_escaping b 0 1 0)) (f4_inSelector c (f4_quote b 0 1 0) (f4_inSelector b 0 1 0) (f4_escaping b 0 1 0)) (f4_escaping c (f4_quote b 0 1 0) (f4_inSelector b 0 1 0) (f4_escaping b 0 1 0)))
    (f4_escaping d (f4_quote c (f4_quote b 0 1 0) (f4_inSelector b 0 1 0) (f4_escaping b 0 1 0)) (f4_inSelector c (f4_quote b 0 1 0) (f4_inSelector b 0 1 0) (f4_escaping b 0 1 0)) (f4_escaping c (f4_quote b 0 1 0) (f4_inSelector b 0 1 0) (f4_escaping b 0 1 0))) := by
  unfold own_L12 own_L13
  by_cases hb : b = 93
  · have q : f4_quote b 0 1 0 = 0 := by rw [hb]; decide
    have s : f4_inSelector b 0 1 0 = 0 := by rw [hb]; decide
    rw [q, s, own_e10, if_pos hb, if_pos hb, own_q00, own_s00, own_e00]
    by_cases hc : c = 91
    · rw [if_pos hc, if_pos hc, if_pos hc]; exact own_dA1 d
    · rw [if_neg hc, if_neg hc, if_neg hc]; exact own_dA0 d _
  · rw [if_neg hb, if_neg hb]
    by_cases hq : f7 b = 0
    · have hn := own_f7n hq
      have q : f4_quote b 0 1 0 = 0 := by rw [own_q10, if_neg hn.2, if_neg hn.1]
      have s : f4_inSelector b 0 1 0 = 1 := by rw [own_s10, if_neg hb]
      rw [q, s, own_e10, if_pos hq, if_pos hq]
      by_cases hc : c = 93
      · have q2 : f4_quote c 0 1 0 = 0 := by rw [hc]; decide
        have s2 : f4_inSelector c 0 1 0 = 0 := by rw [hc]; decide
        rw [q2, s2, own_e10, if_pos hc, if_pos hc]; exact own_dA0 d _
      · rw [if_neg hc, if_neg hc]
        have s2 : f4_inSelector c 0 1 0 = 1 := by rw [own_s10, if_neg hc]
        by_cases hcq : f7 c = 0
        · have hm := own_f7n hcq
          have q2 : f4_quote c 0 1 0 = 0 := by rw [own_q10, if_neg hm.2, if_neg hm.1]
          rw [q2, s2, own_e10, if_pos hcq, if_pos hcq]; exact own_dA1 d
        · have hm := own_f7 hcq
          have q2 : f4_quote c 0 1 0 = c := by rw [own_q10]; rcases hm with rfl | rfl <;> decide
          rw [q2, s2, own_e10, if_neg hcq, if_neg hcq]; exact own_dA2 d c hm
    · have hn := own_f7 hq
      have q : f4_quote b 0 1 0 = b := by rw [own_q10]; rcases hn with rfl | rfl <;> decide
      have s : f4_inSelector b 0 1 0 = 1 := by rw [own_s10, if_neg hb]
      rw [q, s, own_e10, if_neg hq, if_neg hq, own_qq c b (own_w0 hn), own_sq c b 0 (own_w0 hn), own_eq c b (own_w0 hn)]
      by_cases hc : c = 92
      · rw [if_pos hc, if_pos hc, if_pos hc, if_pos hc]; exact own_dA3 d b hn
      · rw [if_neg hc, if_neg hc, if_neg hc, if_neg hc]
        by_cases hcb : c = b
        · rw [if_pos hcb, if_pos hcb, if_pos hcb]; exact own_dA1 d
        · rw [if_neg hcb, if_neg hcb, if_neg hcb]; exact own_dA2 d b hn
theorem own_fin0 (l12 l13 q s e : Int32) (h : own_Inv l12 l13 q s e) : f6 q s e = if l12 = 0 then 1 else 0 := by
  unfold f6
  rcases h with ⟨rfl, rfl, rfl, rfl⟩ | ⟨rfl, rfl, rfl, rfl⟩ | ⟨rfl, rfl, rfl, rfl, -⟩ | ⟨rfl, rfl, rfl, -⟩ <;> decide
theorem own_fin1 (l12 l13 q s e : Int32) (h : own_Inv l12 l13 q s e) : f6 (f4_quote 93 q s e) (f4_inSelector 93 q s e) (f4_escaping 93 q s e) = if (1 : Int32) < l12 then 0 else 1 := by
  rcases h with ⟨rfl, rfl, rfl, rfl⟩ | ⟨rfl, rfl, rfl, rfl⟩ | ⟨rfl, rfl, rfl, rfl, rfl | rfl⟩ | ⟨rfl, rfl, rfl, rfl | rfl⟩ <;> decide
theorem own_fin2 (l12 l13 q s e r : Int32) (h : own_Inv l12 l13 q s e) (hr : r = 34 ∨ r = 39) :
    f6 (f4_quote 93 (f4_quote r q s e) (f4_inSelector r q s e) (f4_escaping r q s e)) (f4_inSelector 93 (f4_quote r q s e) (f4_inSelector r q s e) (f4_escaping r q s e)) (f4_escaping 93 (f4_quote r q s e) (f4_inSelector r q s e) (f4_escaping r q s e)) = if l12 = 0 then 1 else if l12 = 2 then (if l13 = r then 1 else 0) else 0 := by
  rcases hr with rfl | rfl <;> rcases h with ⟨rfl, rfl, rfl, rfl⟩ | ⟨rfl, rfl, rfl, rfl⟩ | ⟨rfl, rfl, rfl, rfl, rfl | rfl⟩ | ⟨rfl, rfl, rfl, rfl | rfl⟩ <;> first | decide | (rw [if_pos rfl]; decide) | (rw [if_neg (by decide), if_neg (by decide)]; decide)
theorem own_law (p0 p1 p2 p3 : Int32) : f0 p0 p1 p2 p3 = 1 := by
  have i := own_inv (f1 p0) (f1 p1) (f1 p2)
  have z0 := own_fin0 _ _ _ _ _ i
  have z1 := own_fin1 _ _ _ _ _ i
  have hr : f0_s0_44002 p3 = 34 ∨ f0_s0_44002 p3 = 39 := by
    unfold f0_s0_44002
    split
    · exact Or.inl rfl
    · exact Or.inr rfl
  have z2 := own_fin2 _ _ _ _ _ (f0_s0_44002 p3) i hr
  have e0 : f0_e7 p0 p1 p2 = f0_s0_405015 p0 p1 p2 := z0
  have e0' : f0_e7 p0 p1 p2 = f0_s0_405030 p0 p1 p2 := z0
  have e1 : f6 (f0_e14 p0 p1 p2) (f0_e15 p0 p1 p2) (f0_e16 p0 p1 p2) = f0_s0_423031 p0 p1 p2 := z1
  have e2 : f6 (f0_e11 p0 p1 p2 p3) (f0_e12 p0 p1 p2 p3) (f0_e13 p0 p1 p2 p3) = f0_s0_451016 p0 p1 p2 p3 := z2
  unfold f0 f0_s0_472017 f0_s0_472032
  rw [e1, e2]
  rw [← e0, ← e0']
  rw [if_pos rfl, if_pos rfl, if_pos rfl]
  split
  · rfl
  · rw [if_pos rfl]; rfl
set_option maxRecDepth 65536 in
set_option maxHeartbeats 40000000 in
theorem comes_1 {Post : Tables → Env → Array Value → State → Outcome → State → Prop} (hpost : ∀ tb e args s v u, (limb_1_1.after args s (.returned v) u = true ∧ limb_1_2.after args s (.returned v) u = true ∧ True) → FrameEnd s (.returned v) u (Jvm.fieldLocs frame_1_writes args s ++ Jvm.arrayLocs frame_1_arrays args s ++ Jvm.staticLocs frame_1_statics s) 16 128 → Post tb e args s (.returned v) u) :
    ArmFor flags0 classFile x code maxLocals ret World_1 tables_1 room_1 Calls_1 rest_1 Pre_1 Post := by
  intro l hfl _ _ p e ha hc hk s m args below hf hA hF happ hP
  obtain ⟨hcalls, hrest, hpre⟩ := hP
  obtain ⟨-, -, -, hnamed, -, -, -, hat⟩ := (Spec.applies_iff hf).mp happ
  obtain ⟨hg, hn⟩ := and_e (Cond.before_iff.mp (show (Jvm.Cond.and given_1 narrow_1).before args s = true from hpre))
  obtain ⟨g1, g2⟩ := and_e hg
  obtain ⟨g3, g4⟩ := and_e g2
  obtain ⟨g5, g6⟩ := and_e g4
  obtain ⟨g7, g8⟩ := and_e g6
  obtain ⟨w0, w1, w2, w3, rfl⟩ : ∃ w0 w1 w2 w3 : Value, args = #[w0, w1, w2, w3] := by
    have hs : args.size = 4 := by simpa [Cond.value, given_1] using g1
    obtain ⟨L⟩ := args
    match L, hs with
    | [w0, w1, w2, w3], _ => exact ⟨w0, w1, w2, w3, rfl⟩
  have hw := fun d (hd : d ∈ tables_1) => atoms_spec (ws := Jvm.Cond.code x code maxLocals ret :: tables_1) hat d (List.mem_cons_of_mem _ hd)
  have hfit : Fit s := fun {y c} hc i hi => by
    obtain ⟨ha, rfl⟩ := Array.getElem?_eq_some_iff.mp hc
    have q := List.all_eq_true.mp ((Array.all_eq_true_iff_forall_mem.mp hF) _ (Array.getElem_mem ha)) i (List.mem_range.mpr hi)
    simpa [Array.getElem?_eq_getElem hi] using q
  obtain ⟨i0, ei0⟩ := is_v g3
  obtain rfl : w0 = (.int i0) := Option.some.inj ei0
  obtain ⟨i1, ei1⟩ := is_v g5
  obtain rfl : w1 = (.int i1) := Option.some.inj ei1
  obtain ⟨i2, ei2⟩ := is_v g7
  obtain rfl : w2 = (.int i2) := Option.some.inj ei2
  obtain ⟨i3, ei3⟩ := is_v g8
  obtain rfl : w3 = (.int i3) := Option.some.inj ei3
  obtain ⟨n, o, h1, h2, h3, _, L, rfl, ⟨rfl, N⟩, hq⟩ := rm0 l s _ hw tables_1 i0 i1 i2 i3 s.heap s.heap.size (Nat.le_refl _) p e ha hc hk s m _ below hf ((Spec.applies_iff_loose hf).mp happ).1 ⟨rfl, State.Warmed39.refl s, rfl⟩ trivial
  refine ⟨n, _, h1, h2, h3, hpost _ _ _ _ _ _ ⟨Cond.after_iff.mpr rfl, Cond.after_iff.mpr (eq_i res_at (Term.int_eval (1)) (by rw [own_law i0 i1 i2 i3])), trivial⟩ ⟨hq.1, hq.2.1, (hq.2.2.sift fun y hy => Or.inr (N y hy)).mono (by decide) (by decide)⟩⟩
theorem main_1_1 : Claimed_1_1 := comes_1 fun _ _ _ _ _ _ h hF => ⟨h.1, hF⟩
theorem main_1_2 : Claimed_1_2 := comes_1 fun _ _ _ _ _ _ h hF => ⟨h.2.1, hF⟩
end Jvm.Pilot.@@N@@
namespace Jvm.Pilot.@@N@@
open Jvm Jvm.ClassFile Sem Op Lib Jvm.Free Jvm.Stand Jvm.Pilot.@@N@@.Jvm.D
/-! MADE BY PROGRAM (witnessworld.py) out of the Statement's table words and the real class files: 10 classes; the members and pool entries that the words name. The judged class is class 1, her method 3. -/
namespace start1
open Jvm.ClassFile
def u (s : String) : CpInfo := .utf8 (stringToUtf16 s)
/-- a pool by its gaps: so many unusable entries, then the entry; so many at the end -/
def gap : Nat → List CpInfo → List CpInfo
  | 0, r => r
  | n + 1, r => .unusable :: gap n r
def poolList (es : List (Nat × CpInfo)) (last : Nat) : List CpInfo := es.foldr (fun e r => gap e.1 (e.2 :: r)) (gap last [])
def pool (es : List (Nat × CpInfo)) (last : Nat) : Array CpInfo := ⟨poolList es last⟩
def fileOf (pool : Array CpInfo) (this : Nat) (attrs : Array Attribute := #[]) (ms : Array MethodInfo := #[]) (fl : Nat := 33) (sup : Nat := 0) (ifs : Array Nat := #[]) (fds : Array FieldInfo := #[]) : ClassFile where
  minorVersion := 0
  majorVersion := 65
  constantPool := pool
  accessFlags := fl
  thisClass := this
  superClass := sup
  interfaces := ifs
  fields := fds
  methods := ms
  attributes := attrs
def plain (name : String) (sup : Option ClassId) : Class where
  name := name
  kind := .ordinary
  loader := none
  accessFlags := 33
  super := sup
  interfaces := #[]
  cf := none
  fields := #[]
  methods := #[]
  instanceTypes := #[]
  staticTypes := #[]
  resolved := #[]
  callSites := []
  init := .initialized
  statics := none
  mirror := none

def pool0 : Array CpInfo := pool [(5, u "<init>"), (0, u "()V"), (1, .class_ 10), (1, u "java/lang/Object")] 113

def k0c0 : Code := { maxStack := 0, maxLocals := 1, code := object_method_1_code, exceptionTable := #[], attributes := #[] }
def k0m0 : Method := { name := "<init>", desc := "()V", sig := { parameters := [], returnType := none }, accessFlags := 1, code := some k0c0 }
/-- java/lang/Object -/
def k0 : Class := { plain "java/lang/Object" none with
  accessFlags := 33
  interfaces := #[]
  cf := some (fileOf pool0 8 #[] #[{ accessFlags := 1, nameIndex := 5, descriptorIndex := 6, attributes := #[] }] 33 0 #[] #[])
  fields := #[]
  methods := #[k0m0]
  instanceTypes := #[]
  staticTypes := #[]
  resolved := Array.replicate 124 none
  statics := none }

def pool1 : Array CpInfo := pool [(2, .class_ 4), (0, .nameAndType 5 6), (0, u "java/lang/Object"), (0, u "<init>"), (0, u "()V"), (0, .methodref 8 9), (0, .class_ 10), (0, .nameAndType 11 12), (0, u "com/example/libinterp/libinterp/SelectorScanReadPinLaw"), (0, u "pick"), (0, u "(I)C"), (0, .class_ 14), (0, u "com/example/libinterp/libinterp/PathParser$SelectorScan"), (0, .methodref 13 3), (0, .methodref 13 17), (0, .nameAndType 18 19), (0, u "read"), (0, u "(C)V"), (0, .methodref 13 21), (0, .nameAndType 22 23), (0, u "isOutside"), (0, u "()Z"), (0, .methodref 8 25), (0, .nameAndType 26 27), (0, u "isQuote"), (0, u "(C)Z"), (3, u "law"), (0, u "(IIII)Z")] 6

def k1m0 : Method := { name := "<init>", desc := "()V", sig := { parameters := [], returnType := none }, accessFlags := 2, code := none }
def k1c1 : Code := { maxStack := 2, maxLocals := 3, code := method_2_code, exceptionTable := #[], attributes := #[] }
def k1m1 : Method := { name := "pick", desc := "(I)C", sig := { parameters := [.int], returnType := some .char }, accessFlags := 10, code := some k1c1 }
def k1c2 : Code := { maxStack := 2, maxLocals := 1, code := method_3_code, exceptionTable := #[], attributes := #[] }
def k1m2 : Method := { name := "isQuote", desc := "(C)Z", sig := { parameters := [.char], returnType := some .boolean }, accessFlags := 10, code := some k1c2 }
def k1c3 : Code := { maxStack := 2, maxLocals := 16, code := code, exceptionTable := #[], attributes := #[] }
def k1m3 : Method := { name := "law", desc := "(IIII)Z", sig := { parameters := [.int, .int, .int, .int], returnType := some .boolean }, accessFlags := 9, code := some k1c3 }
/-- com/example/libinterp/libinterp/SelectorScanReadPinLaw -/
def k1 : Class := { plain "com/example/libinterp/libinterp/SelectorScanReadPinLaw" (some 0) with
  accessFlags := 49
  interfaces := #[]
  cf := some (fileOf pool1 8 #[] #[{ accessFlags := 2, nameIndex := 5, descriptorIndex := 6, attributes := #[] }, { accessFlags := 10, nameIndex := 11, descriptorIndex := 12, attributes := #[] }, { accessFlags := 10, nameIndex := 26, descriptorIndex := 27, attributes := #[] }, { accessFlags := 9, nameIndex := 31, descriptorIndex := 32, attributes := #[] }] 49 2 #[] #[])
  fields := #[]
  methods := #[k1m0, k1m1, k1m2, k1m3]
  instanceTypes := #[]
  staticTypes := #[]
  resolved := Array.replicate 39 none
  statics := none }

def pool2 : Array CpInfo := pool [(1, .class_ 2), (0, u "com/example/libinterp/libinterp/PathParser"), (0, .methodref 4 5), (0, .class_ 6), (0, .nameAndType 7 8), (0, u "java/lang/Object"), (0, u "<init>"), (0, u "()V"), (0, .class_ 10), (0, u "com/example/libinterp/libinterp/PathParser$SelectorScan"), (0, .fieldref 9 12), (0, .nameAndType 13 14), (0, u "quote"), (0, u "C"), (0, .methodref 9 16), (0, .nameAndType 17 18), (0, u "readQuoted"), (0, u "(C)V"), (0, .fieldref 9 20), (0, .nameAndType 21 22), (0, u "inSelector"), (0, u "Z"), (0, .methodref 1 24), (0, .nameAndType 25 26), (0, u "isQuote"), (0, u "(C)Z"), (0, .fieldref 9 28), (0, .nameAndType 29 22), (0, u "escaping"), (0, u "NO_QUOTE"), (4, u "read"), (1, u "isOutside"), (0, u "()Z")] 5

def k2c0 : Code := { maxStack := 2, maxLocals := 1, code := prog_39_method_1_code, exceptionTable := #[], attributes := #[] }
def k2m0 : Method := { name := "<init>", desc := "()V", sig := { parameters := [], returnType := none }, accessFlags := 0, code := some k2c0 }
def k2c1 : Code := { maxStack := 3, maxLocals := 2, code := prog_39_method_2_code, exceptionTable := #[], attributes := #[] }
def k2m1 : Method := { name := "read", desc := "(C)V", sig := { parameters := [.char], returnType := none }, accessFlags := 0, code := some k2c1 }
def k2c2 : Code := { maxStack := 2, maxLocals := 2, code := prog_39_method_3_code, exceptionTable := #[], attributes := #[] }
def k2m2 : Method := { name := "readQuoted", desc := "(C)V", sig := { parameters := [.char], returnType := none }, accessFlags := 2, code := some k2c2 }
def k2c3 : Code := { maxStack := 1, maxLocals := 1, code := prog_39_method_4_code, exceptionTable := #[], attributes := #[] }
def k2m3 : Method := { name := "isOutside", desc := "()Z", sig := { parameters := [], returnType := some .boolean }, accessFlags := 0, code := some k2c3 }
/-- com/example/libinterp/libinterp/PathParser$SelectorScan -/
def k2 : Class := { plain "com/example/libinterp/libinterp/PathParser$SelectorScan" (some 0) with
  accessFlags := 48
  interfaces := #[]
  cf := some (fileOf pool2 9 #[.nestHost 1] #[{ accessFlags := 0, nameIndex := 7, descriptorIndex := 8, attributes := #[] }, { accessFlags := 0, nameIndex := 35, descriptorIndex := 18, attributes := #[] }, { accessFlags := 2, nameIndex := 17, descriptorIndex := 18, attributes := #[] }, { accessFlags := 0, nameIndex := 37, descriptorIndex := 38, attributes := #[] }] 48 4 #[] #[{ accessFlags := 26, nameIndex := 30, descriptorIndex := 14, attributes := #[] }, { accessFlags := 2, nameIndex := 21, descriptorIndex := 22, attributes := #[] }, { accessFlags := 2, nameIndex := 13, descriptorIndex := 14, attributes := #[] }, { accessFlags := 2, nameIndex := 29, descriptorIndex := 22, attributes := #[] }])
  fields := #[{ name := "NO_QUOTE", type := .char, accessFlags := 26, slot := 0, constantValue := 0 }, { name := "inSelector", type := .boolean, accessFlags := 2, slot := 0, constantValue := 0 }, { name := "quote", type := .char, accessFlags := 2, slot := 1, constantValue := 0 }, { name := "escaping", type := .boolean, accessFlags := 2, slot := 2, constantValue := 0 }]
  methods := #[k2m0, k2m1, k2m2, k2m3]
  instanceTypes := #[.boolean, .char, .boolean]
  staticTypes := #[.char]
  resolved := Array.replicate 44 none
  statics := none }

def pool3 : Array CpInfo := pool [(2, .class_ 4), (1, u "java/lang/Object"), (6, .class_ 13), (1, u "com/example/libinterp/libinterp/PathParser"), (0, u "steps"), (0, u "Ljava/util/List;"), (2, u "path"), (0, u "Ljava/lang/String;"), (2, u "position"), (0, u "I"), (2, u "inExpression"), (0, u "Z"), (35, u "(C)Z"), (23, u "isQuote"), (123, u "DOT"), (0, u "C"), (2, u "OPENER"), (1, u "CLOSER"), (1, u "ESCAPER"), (1, u "SLASH"), (1, u "FIRST"), (0, u "LAST"), (14, .class_ 240), (0, u "com/example/libinterp/libinterp/PathParser$SelectorScan")] 3

def k3c0 : Code := { maxStack := 2, maxLocals := 1, code := prog_38_method_19_code, exceptionTable := #[], attributes := #[] }
def k3m0 : Method := { name := "isQuote", desc := "(C)Z", sig := { parameters := [.char], returnType := some .boolean }, accessFlags := 8, code := some k3c0 }
/-- com/example/libinterp/libinterp/PathParser -/
def k3 : Class := { plain "com/example/libinterp/libinterp/PathParser" (some 0) with
  accessFlags := 48
  interfaces := #[]
  cf := some (fileOf pool3 11 #[.nestMembers #[239]] #[{ accessFlags := 8, nameIndex := 87, descriptorIndex := 63, attributes := #[] }] 48 2 #[] #[{ accessFlags := 26, nameIndex := 211, descriptorIndex := 212, attributes := #[] }, { accessFlags := 26, nameIndex := 215, descriptorIndex := 212, attributes := #[] }, { accessFlags := 26, nameIndex := 217, descriptorIndex := 212, attributes := #[] }, { accessFlags := 26, nameIndex := 219, descriptorIndex := 212, attributes := #[] }, { accessFlags := 26, nameIndex := 221, descriptorIndex := 212, attributes := #[] }, { accessFlags := 26, nameIndex := 223, descriptorIndex := 19, attributes := #[] }, { accessFlags := 26, nameIndex := 224, descriptorIndex := 19, attributes := #[] }, { accessFlags := 18, nameIndex := 18, descriptorIndex := 19, attributes := #[] }, { accessFlags := 18, nameIndex := 14, descriptorIndex := 15, attributes := #[] }, { accessFlags := 18, nameIndex := 26, descriptorIndex := 27, attributes := #[] }, { accessFlags := 2, nameIndex := 22, descriptorIndex := 23, attributes := #[] }])
  fields := #[{ name := "DOT", type := .char, accessFlags := 26, slot := 0, constantValue := 0 }, { name := "OPENER", type := .char, accessFlags := 26, slot := 1, constantValue := 0 }, { name := "CLOSER", type := .char, accessFlags := 26, slot := 2, constantValue := 0 }, { name := "ESCAPER", type := .char, accessFlags := 26, slot := 3, constantValue := 0 }, { name := "SLASH", type := .char, accessFlags := 26, slot := 4, constantValue := 0 }, { name := "FIRST", type := (.object "java/lang/String"), accessFlags := 26, slot := 5, constantValue := 0 }, { name := "LAST", type := (.object "java/lang/String"), accessFlags := 26, slot := 6, constantValue := 0 }, { name := "path", type := (.object "java/lang/String"), accessFlags := 18, slot := 0, constantValue := 0 }, { name := "steps", type := (.object "java/util/List"), accessFlags := 18, slot := 1, constantValue := 0 }, { name := "inExpression", type := .boolean, accessFlags := 18, slot := 2, constantValue := 0 }, { name := "position", type := .int, accessFlags := 2, slot := 3, constantValue := 0 }]
  methods := #[k3m0]
  instanceTypes := #[(.object "java/lang/String"), (.object "java/util/List"), .boolean, .int]
  staticTypes := #[.char, .char, .char, .char, .char, (.object "java/lang/String"), (.object "java/lang/String")]
  resolved := Array.replicate 244 none
  statics := none }

def pool4 : Array CpInfo := pool [(1, u "java/lang/Cloneable"), (0, .class_ 1), (0, u "java/lang/Object"), (0, .class_ 3)] 3

/-- java/lang/Cloneable -/
def k4 : Class := { plain "java/lang/Cloneable" (some 0) with
  accessFlags := 1537
  interfaces := #[]
  cf := some (fileOf pool4 2 #[] #[] 1537 4 #[] #[])
  fields := #[]
  methods := #[]
  instanceTypes := #[]
  staticTypes := #[]
  resolved := Array.replicate 8 none
  statics := none }

def pool5 : Array CpInfo := pool [(1, u "java/io/Serializable"), (0, .class_ 1), (0, u "java/lang/Object"), (0, .class_ 3)] 3

/-- java/io/Serializable -/
def k5 : Class := { plain "java/io/Serializable" (some 0) with
  accessFlags := 1537
  interfaces := #[]
  cf := some (fileOf pool5 2 #[] #[] 1537 4 #[] #[])
  fields := #[]
  methods := #[]
  instanceTypes := #[]
  staticTypes := #[]
  resolved := Array.replicate 8 none
  statics := none }

/-- the primitive byte -/
def k6 : Class := { plain "byte" none with kind := .primitive 'B', accessFlags := 0x411 }
/-- [B -/
def k7 : Class := { plain "[B" (some 0) with kind := .array 6 .byte, interfaces := #[4, 5], accessFlags := 1041 }

/-- the primitive int -/
def k8 : Class := { plain "int" none with kind := .primitive 'I', accessFlags := 0x411 }
/-- [I -/
def k9 : Class := { plain "[I" (some 0) with kind := .array 8 .int, interfaces := #[4, 5], accessFlags := 1041 }

def heap : Heap := #[]
def classes : Array Class := #[k0, k1, k2, k3, k4, k5, k6, k7, k8, k9]
def interned : List (Array UInt16 × Addr) := []
def slotsUsed : Nat := 0
def theMethod : MethodId := ⟨1, 3⟩
def args0 : Array Value := #[.int 5, .int 5, .int 5, .int 5]
def aboutOver (below : List Frame) : State where
  vm := { classes := classes, interned := interned.toArray }
  heap := heap
  slotsUsed := slotsUsed
  threads := #[{ frames := .invoking theMethod args0 :: below }]
def below0 : List Frame := [.native { method := ⟨0, 0⟩, args := #[] }]
def about1 : State := aboutOver below0
def p0 : Program := .bare "" "" ""
def e0 : Env := launch0.env 0 0 0
theorem w_frames : about1.frames = Frame.invoking theMethod args0 :: below0 := rfl
set_option maxRecDepth 65536 in
theorem w_args : argsFit about1.vm theMethod args0 = true := by decide +kernel
set_option maxRecDepth 65536 in
theorem w_heap : heapFits about1 = true := by decide +kernel
set_option maxRecDepth 65536 in
theorem w_runnable : about1.curStatus? = some .runnable := by decide +kernel
set_option maxRecDepth 65536 in
theorem w_alone : about1.alone = true := by decide +kernel
set_option maxRecDepth 65536 in
theorem w_named : about1.methodNamed? x = some theMethod := by decide +kernel
set_option maxRecDepth 65536 in
theorem w_hears : about1.hears theMethod below0 = true := by decide +kernel
set_option maxRecDepth 65536 in
theorem w_ripe : about1.ripe theMethod args0 below0 = true := by decide +kernel
theorem w_running : about1.status = .running := rfl
set_option maxRecDepth 65536 in
theorem w_room : about1.hasRoom e0.platform room_1 = true :=
  launch0.hasRoom_least _ room_1 (by decide +kernel) (by decide +kernel) (by decide +kernel) (by decide +kernel) (by decide +kernel) (by decide +kernel)
theorem allAtoms_all (ts : List Jvm.Cond) (a : Array Jvm.Value) (st : Jvm.State) : (allAtoms ts).before a st = ts.all (fun c => c.before a st) := by
  induction ts with
  | nil => rfl
  | cons c t ih =>
    show (Jvm.Cond.and c (allAtoms t)).before a st = _
    rw [Jvm.Cond.before_and, ih, List.all_cons]
def words1 : List Jvm.Cond := Jvm.Cond.code x code maxLocals ret :: tables_1
/-- a 'code' word, met by the world's own term for the bytes: nothing is compared byte by byte -/
theorem code_word {y : MethodName} {bytes : ByteArray} {mx : Nat} {rt : Option FieldType} {a : Array Value} {s : State} {m : MethodId} {meth : Method} {c : Code} (h1 : s.methodNamed? y = some m) (h2 : s.vm.method? m = some meth) (h3 : meth.code = some c) (h4 : c.code = bytes)
    (h5 : (c.maxLocals == mx && c.exceptionTable.isEmpty && decide (c.maxStack ≤ mostOperands) && decide (meth.sig.returnType = rt) && !meth.locks && decide (parseMethodDescriptor y.desc = some meth.sig)) = true) : (Jvm.Cond.code y bytes mx rt).before a s = true := by
  simp only [Bool.and_eq_true, beq_iff_eq, Bool.not_eq_true', decide_eq_true_eq] at h5
  obtain ⟨⟨⟨⟨⟨g1, g2⟩, g3⟩, g4⟩, g5⟩, g6⟩ := h5
  simp [Cond.before, Cond.holds, Cond.value, h1, h2, h3, h4, g1, g2, g3, g4, g5, g6]
def isCode : Jvm.Cond → Bool
  | .code _ _ _ _ => true
  | _ => false
theorem all_split {L : List Jvm.Cond} {P : Jvm.Cond → Bool} (h1 : L.all (fun c => isCode c || P c) = true) (h2 : ∀ c ∈ L.filter isCode, P c = true) : L.all P = true := by
  refine List.all_eq_true.mpr fun c hc => ?_
  have h := List.all_eq_true.mp h1 c hc
  rcases Bool.eq_false_or_eq_true (isCode c) with hi | hi
  · exact h2 c (List.mem_filter.mpr ⟨hc, hi⟩)
  · simpa [hi] using h
set_option maxRecDepth 65536 in
theorem w_c0 : (Jvm.Cond.code x code maxLocals ret).before args0 about1 = true := code_word (m := ⟨1, 3⟩) (meth := k1m3) (c := k1c3) (by decide +kernel) rfl rfl rfl (by decide +kernel)
set_option maxRecDepth 65536 in
theorem w_c1 : (Jvm.Cond.code ({ cls := "com/example/libinterp/libinterp/SelectorScanReadPinLaw", name := "pick", desc := "(I)C" } : Jvm.MethodName) method_2_code (3 : Nat) (Option.some Jvm.ClassFile.FieldType.char)).before args0 about1 = true := code_word (m := ⟨1, 1⟩) (meth := k1m1) (c := k1c1) (by decide +kernel) rfl rfl rfl (by decide +kernel)
set_option maxRecDepth 65536 in
theorem w_c2 : (Jvm.Cond.code ({ cls := "com/example/libinterp/libinterp/PathParser$SelectorScan", name := "<init>", desc := "()V" } : Jvm.MethodName) prog_39_method_1_code (1 : Nat) (Option.none : Option Jvm.ClassFile.FieldType)).before args0 about1 = true := code_word (m := ⟨2, 0⟩) (meth := k2m0) (c := k2c0) (by decide +kernel) rfl rfl rfl (by decide +kernel)
set_option maxRecDepth 65536 in
theorem w_c3 : (Jvm.Cond.code ({ cls := "java/lang/Object", name := "<init>", desc := "()V" } : Jvm.MethodName) object_method_1_code (1 : Nat) (Option.none : Option Jvm.ClassFile.FieldType)).before args0 about1 = true := code_word (m := ⟨0, 0⟩) (meth := k0m0) (c := k0c0) (by decide +kernel) rfl rfl rfl (by decide +kernel)
set_option maxRecDepth 65536 in
theorem w_c4 : (Jvm.Cond.code ({ cls := "com/example/libinterp/libinterp/PathParser$SelectorScan", name := "read", desc := "(C)V" } : Jvm.MethodName) prog_39_method_2_code (2 : Nat) (Option.none : Option Jvm.ClassFile.FieldType)).before args0 about1 = true := code_word (m := ⟨2, 1⟩) (meth := k2m1) (c := k2c1) (by decide +kernel) rfl rfl rfl (by decide +kernel)
set_option maxRecDepth 65536 in
theorem w_c5 : (Jvm.Cond.code ({ cls := "com/example/libinterp/libinterp/PathParser", name := "isQuote", desc := "(C)Z" } : Jvm.MethodName) prog_38_method_19_code (1 : Nat) (Option.some Jvm.ClassFile.FieldType.boolean)).before args0 about1 = true := code_word (m := ⟨3, 0⟩) (meth := k3m0) (c := k3c0) (by decide +kernel) rfl rfl rfl (by decide +kernel)
set_option maxRecDepth 65536 in
theorem w_c6 : (Jvm.Cond.code ({ cls := "com/example/libinterp/libinterp/PathParser$SelectorScan", name := "isOutside", desc := "()Z" } : Jvm.MethodName) prog_39_method_4_code (1 : Nat) (Option.some Jvm.ClassFile.FieldType.boolean)).before args0 about1 = true := code_word (m := ⟨2, 3⟩) (meth := k2m3) (c := k2c3) (by decide +kernel) rfl rfl rfl (by decide +kernel)
set_option maxRecDepth 65536 in
theorem w_c7 : (Jvm.Cond.code ({ cls := "com/example/libinterp/libinterp/SelectorScanReadPinLaw", name := "isQuote", desc := "(C)Z" } : Jvm.MethodName) method_3_code (1 : Nat) (Option.some Jvm.ClassFile.FieldType.boolean)).before args0 about1 = true := code_word (m := ⟨1, 2⟩) (meth := k1m2) (c := k1c2) (by decide +kernel) rfl rfl rfl (by decide +kernel)
set_option maxRecDepth 65536 in
theorem w_c8 : (Jvm.Cond.code ({ cls := "com/example/libinterp/libinterp/PathParser$SelectorScan", name := "readQuoted", desc := "(C)V" } : Jvm.MethodName) prog_39_method_3_code (2 : Nat) (Option.none : Option Jvm.ClassFile.FieldType)).before args0 about1 = true := code_word (m := ⟨2, 2⟩) (meth := k2m2) (c := k2c2) (by decide +kernel) rfl rfl rfl (by decide +kernel)
def codes1 : List Jvm.Cond := [Jvm.Cond.code x code maxLocals ret, Jvm.Cond.code ({ cls := "com/example/libinterp/libinterp/SelectorScanReadPinLaw", name := "pick", desc := "(I)C" } : Jvm.MethodName) method_2_code (3 : Nat) (Option.some Jvm.ClassFile.FieldType.char), Jvm.Cond.code ({ cls := "com/example/libinterp/libinterp/PathParser$SelectorScan", name := "<init>", desc := "()V" } : Jvm.MethodName) prog_39_method_1_code (1 : Nat) (Option.none : Option Jvm.ClassFile.FieldType), Jvm.Cond.code ({ cls := "java/lang/Object", name := "<init>", desc := "()V" } : Jvm.MethodName) object_method_1_code (1 : Nat) (Option.none : Option Jvm.ClassFile.FieldType), Jvm.Cond.code ({ cls := "com/example/libinterp/libinterp/PathParser$SelectorScan", name := "read", desc := "(C)V" } : Jvm.MethodName) prog_39_method_2_code (2 : Nat) (Option.none : Option Jvm.ClassFile.FieldType), Jvm.Cond.code ({ cls := "com/example/libinterp/libinterp/PathParser", name := "isQuote", desc := "(C)Z" } : Jvm.MethodName) prog_38_method_19_code (1 : Nat) (Option.some Jvm.ClassFile.FieldType.boolean), Jvm.Cond.code ({ cls := "com/example/libinterp/libinterp/PathParser$SelectorScan", name := "isOutside", desc := "()Z" } : Jvm.MethodName) prog_39_method_4_code (1 : Nat) (Option.some Jvm.ClassFile.FieldType.boolean), Jvm.Cond.code ({ cls := "com/example/libinterp/libinterp/SelectorScanReadPinLaw", name := "isQuote", desc := "(C)Z" } : Jvm.MethodName) method_3_code (1 : Nat) (Option.some Jvm.ClassFile.FieldType.boolean), Jvm.Cond.code ({ cls := "com/example/libinterp/libinterp/PathParser$SelectorScan", name := "readQuoted", desc := "(C)V" } : Jvm.MethodName) prog_39_method_3_code (2 : Nat) (Option.none : Option Jvm.ClassFile.FieldType)]
set_option maxRecDepth 65536 in
theorem codes_eq : words1.filter isCode = codes1 := rfl
theorem w_codes : ∀ c ∈ words1.filter isCode, c.before args0 about1 = true := by
  rw [codes_eq]
  intro c hc
  simp only [codes1, List.mem_cons, List.not_mem_nil, or_false] at hc
  rcases hc with rfl | rfl | rfl | rfl | rfl | rfl | rfl | rfl | rfl
  · exact w_c0
  · exact w_c1
  · exact w_c2
  · exact w_c3
  · exact w_c4
  · exact w_c5
  · exact w_c6
  · exact w_c7
  · exact w_c8
set_option maxRecDepth 65536 in
theorem w_t1 : (words1.take 24).all (fun c => isCode c || c.before args0 about1) = true := by decide +kernel
set_option maxRecDepth 65536 in
theorem w_t2 : (words1.drop 24).all (fun c => isCode c || c.before args0 about1) = true := by decide +kernel
theorem w_tables : (allAtoms (Jvm.Cond.code x code maxLocals ret :: tables_1)).before args0 about1 = true := by
  rw [allAtoms_all]
  show words1.all (fun c => c.before args0 about1) = true
  refine all_split ?_ w_codes
  rw [← List.take_append_drop 24 words1, List.all_append, w_t1, w_t2]
  rfl
set_option maxRecDepth 65536 in
theorem w_case : (Jvm.Cond.and given_1 narrow_1).before args0 about1 = true := by decide +kernel
theorem w_applies : (headSpec (Jvm.Cond.code x code maxLocals ret :: tables_1) room_1).applies x e0.platform about1 = true :=
  (Spec.applies_iff w_frames).mpr ⟨w_running, w_runnable, w_alone, w_named, w_hears, w_ripe, w_room, w_tables⟩
theorem atStart : AtStart classFile x code maxLocals ret World_1 tables_1 room_1 Calls_1 rest_1 Pre_1 launch0 p0 e0 about1 theMethod args0 below0 :=
  ⟨lists_1, trivial, launch0.admits_env _ _ _, launch0.least_env, fairChoices_fair.cas, fairChoices_fair.clock, w_frames, w_args, w_heap, w_applies, trivial, trivial, w_case⟩
end start1
theorem witness_1 : WitnessClaimed_1 := ⟨start1.p0, start1.e0, start1.about1, start1.theMethod, start1.args0, start1.below0, start1.atStart⟩
end Jvm.Pilot.@@N@@

import JvmDerived
import JvmDerived.Pilot.@@N@@Statement
import JvmDerived.Pilot.@@N@@Code
set_option linter.unusedVariables false
set_option linter.unusedSimpArgs false
namespace Jvm.RoadKit
open Sem ClassFile Op Lib Jvm.Stand Jvm.Free Jvm.LawKit
section New
variable {p : Program} {l : Launch} {e : Env} {R : Room} {s : State} {m : MethodId} {args : Array Value} {below : List Frame} {meth : Method} {c : Code} {T : State} {locs : List Loc} {cells slots : Nat}
theorem retI (X : Stand p l e R s m args below meth c T locs cells slots) (hx : p.tables.exec = Jvm.exec) {pc : Nat} {Ls : Array Slot} {z : Int32} {rest : List Value} (hret : meth.sig.returnType = some .int) (hd : decode c.code pc = .ok (.ireturn, 1)) {fs : List Frame}
    (hl : ∀ (f : JFrame) (acts : List Action), f.method = m → f.locked = none → f.entered = [] → (doReturn e (T.setTop f) acts (some (.int z))).1 = T.setFrames fs) : Steps p.tables e below (T.setTop (mkF m pc Ls (.int z :: rest))) (T.setFrames fs) := by
  have hm' : T.vm.method? m = some meth := X.method'
  have hn : narrow .int (.int z) = .int z := rfl
  show Steps p.tables e below (T.setTop { method := m, pc := pc, locals := Ls, stack := _ :: rest, locked := none }) _
  jvm_step X.here [X.here.top, hx, hd, hm', hret, hn]
  first | (intro acts; rw [hl _ acts rfl rfl rfl]) | rw [hl _ _ rfl rfl rfl]
  exact Steps.refl _
end New
end Jvm.RoadKit
namespace Jvm.Pilot.@@N@@
open Jvm Jvm.ClassFile Sem Op Lib Jvm.Free Jvm.Stand Jvm.LawKit Jvm.RoadKit Bundle Jvm.Pilot.@@N@@.Jvm.D
theorem pn_0 : plainName "com/example/sealwax/sealwax/PacketHeader" = true := by first | (simp [plainName, overriddenIn]; done) | decide +kernel
theorem d1_0 : decode prog_31_method_2_code 0 = .ok (.iload_n 0, 1) := by decide +kernel
theorem d1_1 : decode prog_31_method_2_code 1 = .ok (.ifCond .lt 11, 3) := by decide +kernel
theorem d1_4 : decode prog_31_method_2_code 4 = .ok (.iload_n 0, 1) := by decide +kernel
theorem d1_5 : decode prog_31_method_2_code 5 = .ok (.sipush 128, 3) := by decide +kernel
theorem d1_8 : decode prog_31_method_2_code 8 = .ok (.iand, 1) := by decide +kernel
theorem d1_9 : decode prog_31_method_2_code 9 = .ok (.ifCond .ne 5, 3) := by decide +kernel
theorem d1_12 : decode prog_31_method_2_code 12 = .ok (.iconst (-1), 1) := by decide +kernel
theorem d1_13 : decode prog_31_method_2_code 13 = .ok (.ireturn, 1) := by decide +kernel
theorem d1_14 : decode prog_31_method_2_code 14 = .ok (.iload_n 0, 1) := by decide +kernel
theorem d1_15 : decode prog_31_method_2_code 15 = .ok (.bipush 64, 2) := by decide +kernel
theorem d1_17 : decode prog_31_method_2_code 17 = .ok (.iand, 1) := by decide +kernel
theorem d1_18 : decode prog_31_method_2_code 18 = .ok (.ifCond .eq 10, 3) := by decide +kernel
theorem d1_21 : decode prog_31_method_2_code 21 = .ok (.iload_n 0, 1) := by decide +kernel
theorem d1_22 : decode prog_31_method_2_code 22 = .ok (.bipush 63, 2) := by decide +kernel
theorem d1_24 : decode prog_31_method_2_code 24 = .ok (.iand, 1) := by decide +kernel
theorem d1_25 : decode prog_31_method_2_code 25 = .ok (.goto 9, 3) := by decide +kernel
theorem d1_28 : decode prog_31_method_2_code 28 = .ok (.iload_n 0, 1) := by decide +kernel
theorem d1_29 : decode prog_31_method_2_code 29 = .ok (.iconst 2, 1) := by decide +kernel
theorem d1_30 : decode prog_31_method_2_code 30 = .ok (.ishr, 1) := by decide +kernel
theorem d1_31 : decode prog_31_method_2_code 31 = .ok (.bipush 15, 2) := by decide +kernel
theorem d1_33 : decode prog_31_method_2_code 33 = .ok (.iand, 1) := by decide +kernel
theorem d1_34 : decode prog_31_method_2_code 34 = .ok (.ireturn, 1) := by decide +kernel
theorem ef_1 (m : MethodId) (x0 : Int32) : entryFrame m #[(.int x0)] 1 = mkF m 0 #[.val (.int x0)] [] := by first | (simp [entryFrame, mkF, argsToLocals, Value.category]; done) | rfl
def f1 (p0 : Int32) : Int32 := (if p0 < (0 : Int32) then (-1 : Int32) else (if (p0 &&& (128 : Int32)) = (0 : Int32) then (-1 : Int32) else (if (p0 &&& (64 : Int32)) = (0 : Int32) then ((p0 >>> ((2 : Int32) &&& 31)) &&& (15 : Int32)) else (p0 &&& (63 : Int32)))))
def Q1 (Z : State) (p0 : Int32) (h0 : Heap) (n0 : Nat) (v : Option Value) (h : Heap) (L : List Loc) : Prop := v = some (.int (f1 p0)) ∧ Fr n0 L ∧ h = h0
set_option maxRecDepth 65536 in
set_option maxHeartbeats 40000000 in
theorem rm1 (l : Launch) (Z : State) (a0 : Array Value) (hw : ∀ d ∈ tables_1, d.before a0 Z = true) (ws : List Jvm.Cond) (p0 : Int32) (h0 : Heap) (n0 : Nat) (Z0 : n0 ≤ h0.size)  :
    MetFree l (⟨"com/example/sealwax/sealwax/PacketHeader", "tag", "(I)I"⟩ : MethodName) (head1 (Jvm.Cond.code (⟨"com/example/sealwax/sealwax/PacketHeader", "tag", "(I)I"⟩ : MethodName) prog_31_method_2_code 1 (some .int) :: ws) ({ frames := 0, cells := 0, slots := 0, locals := 0 } : Room)) (fun a U => a = #[(.int p0)] ∧ Z.Warmed39 U.vm ∧ U.heap = h0) (fun _ _ _ _ _ => True) (fun _ U o U' => ∃ v L, o = .returned v ∧ Q1 Z p0 h0 n0 v U'.heap L ∧ FrameEnd U o U' L ({ frames := 0, cells := 0, slots := 0, locals := 0 } : Room).cells ({ frames := 0, cells := 0, slots := 0, locals := 0 } : Room).slots) := by
  refine MetFree.of_bodySF (plainFor_of_name pn_0) hisR ?_
  intro p e s m args below meth c s₁ Bd hml0 hP hK
  obtain ⟨rfl, hZ, hh⟩ := hP
  have hx := Bd.exec
  have hby := Bd.bytes
  have hml : c.maxLocals = 1 := hml0
  have hown : s.vm.findClass "com/example/sealwax/sealwax/PacketHeader" = some m.cls := findClass_of_methodNamed Bd.named
  have hnm := (name_of_methodNamed Bd.named Bd.method).1
  have X0 : Stand p l e ({ frames := 0, cells := 0, slots := 0, locals := 0 } : Room) s m #[(.int p0)] below meth c s₁ [] 0 0 := Stand.of_body Bd
  have e0 : s₁.heap = h0 := by rw [← hh, Bd.state]; rfl
  have N0 := Fr.nil n0
  have K0 := Keep.refl h0 []
  have pre0 : ∀ t, Steps p.tables e below (s₁.setTop (mkF m 0 #[.val (.int p0)] [])) t → Steps p.tables e below (s₁.setTop (entryFrame m #[(.int p0)] 1)) t := fun t k => castTop (ef_1 m p0) k
  have pre1 : ∀ t, Steps p.tables e below (s₁.setTop (mkF m 1 #[.val (.int p0)] [(.int p0)])) t → Steps p.tables e below (s₁.setTop (entryFrame m #[(.int p0)] 1)) t := fun t kt => pre0 t (by
    show Steps p.tables e below (s₁.setTop (mkF m 0 #[.val (.int p0)] [])) _
    refine XS.iloadN X0.here hx rfl (hb hby d1_0) rfl ?_
    exact kt)
  by_cases hc2 : p0 < (0 : Int32)
  · obtain ⟨fs, hr, hrun, hended, hW, hsame⟩ := X0.leave (v := some (.int (-1 : Int32))) (fun h => by rw [Bd.returns] at h; cases h)
    refine ⟨_, _, pre1 _ ?_, hrun, hended, _, _, rfl, ?_, ⟨_, rfl⟩, hW, hsame.mono (by decide) (by decide)⟩
    · show Steps p.tables e below (s₁.setTop (mkF m 1 #[.val (.int p0)] [(.int p0)])) _
      refine XS.ifYes X0.here hx rfl (pc0 := 1) (pc' := 12) rfl (hb hby d1_1) rfl ((if0 _ _).trans (tlt hc2).1) (by decide) (by decide) ?_
      show Steps p.tables e below (s₁.setTop (mkF m 12 #[.val (.int p0)] [])) _
      refine XS.iconst X0.here hx rfl (hb hby d1_12) ?_
      show Steps p.tables e below (s₁.setTop (mkF m 13 #[.val (.int p0)] [(.int (-1 : Int32))])) _
      exact retI X0 hx Bd.returns (hb hby d1_13) hr
    · show Q1 Z p0 h0 n0 _ s₁.heap _
      rw [e0]
      exact ⟨by rw [show f1 p0 = (-1 : Int32) from by unfold f1; rw [if_pos hc2]], N0, rfl⟩
  · have pre3 : ∀ t, Steps p.tables e below (s₁.setTop (mkF m 9 #[.val (.int p0)] [(.int (p0 &&& (128 : Int32)))])) t → Steps p.tables e below (s₁.setTop (entryFrame m #[(.int p0)] 1)) t := fun t kt => pre1 t (by
      show Steps p.tables e below (s₁.setTop (mkF m 1 #[.val (.int p0)] [(.int p0)])) _
      refine XS.ifNo X0.here hx rfl (hb hby d1_1) rfl ((if0 _ _).trans (flt hc2).1) ?_
      show Steps p.tables e below (s₁.setTop (mkF m 4 #[.val (.int p0)] [])) _
      refine XS.iloadN X0.here hx rfl (hb hby d1_4) rfl ?_
      show Steps p.tables e below (s₁.setTop (mkF m 5 #[.val (.int p0)] [(.int p0)])) _
      refine XS.sipush X0.here hx rfl (hb hby d1_5) ?_
      show Steps p.tables e below (s₁.setTop (mkF m 8 #[.val (.int p0)] [(.int (128 : Int32)), (.int p0)])) _
      refine XS.iand X0.here hx rfl (hb hby d1_8) rfl ?_
      exact kt)
    by_cases hc4 : (p0 &&& (128 : Int32)) = (0 : Int32)
    · obtain ⟨fs, hr, hrun, hended, hW, hsame⟩ := X0.leave (v := some (.int (-1 : Int32))) (fun h => by rw [Bd.returns] at h; cases h)
      refine ⟨_, _, pre3 _ ?_, hrun, hended, _, _, rfl, ?_, ⟨_, rfl⟩, hW, hsame.mono (by decide) (by decide)⟩
      · show Steps p.tables e below (s₁.setTop (mkF m 9 #[.val (.int p0)] [(.int (p0 &&& (128 : Int32)))])) _
        refine XS.ifNo X0.here hx rfl (hb hby d1_9) rfl ((if0 _ _).trans (teq hc4).2) ?_
        show Steps p.tables e below (s₁.setTop (mkF m 12 #[.val (.int p0)] [])) _
        refine XS.iconst X0.here hx rfl (hb hby d1_12) ?_
        show Steps p.tables e below (s₁.setTop (mkF m 13 #[.val (.int p0)] [(.int (-1 : Int32))])) _
        exact retI X0 hx Bd.returns (hb hby d1_13) hr
      · show Q1 Z p0 h0 n0 _ s₁.heap _
        rw [e0]
        exact ⟨by rw [show f1 p0 = (-1 : Int32) from by unfold f1; rw [if_neg hc2, if_pos hc4]], N0, rfl⟩
    · have pre5 : ∀ t, Steps p.tables e below (s₁.setTop (mkF m 18 #[.val (.int p0)] [(.int (p0 &&& (64 : Int32)))])) t → Steps p.tables e below (s₁.setTop (entryFrame m #[(.int p0)] 1)) t := fun t kt => pre3 t (by
        show Steps p.tables e below (s₁.setTop (mkF m 9 #[.val (.int p0)] [(.int (p0 &&& (128 : Int32)))])) _
        refine XS.ifYes X0.here hx rfl (pc0 := 9) (pc' := 14) rfl (hb hby d1_9) rfl ((if0 _ _).trans (feq hc4).2) (by decide) (by decide) ?_
        show Steps p.tables e below (s₁.setTop (mkF m 14 #[.val (.int p0)] [])) _
        refine XS.iloadN X0.here hx rfl (hb hby d1_14) rfl ?_
        show Steps p.tables e below (s₁.setTop (mkF m 15 #[.val (.int p0)] [(.int p0)])) _
        refine XS.bipush X0.here hx rfl (hb hby d1_15) ?_
        show Steps p.tables e below (s₁.setTop (mkF m 17 #[.val (.int p0)] [(.int (64 : Int32)), (.int p0)])) _
        refine XS.iand X0.here hx rfl (hb hby d1_17) rfl ?_
        exact kt)
      by_cases hc6 : (p0 &&& (64 : Int32)) = (0 : Int32)
      · obtain ⟨fs, hr, hrun, hended, hW, hsame⟩ := X0.leave (v := some (.int ((p0 >>> ((2 : Int32) &&& 31)) &&& (15 : Int32)))) (fun h => by rw [Bd.returns] at h; cases h)
        refine ⟨_, _, pre5 _ ?_, hrun, hended, _, _, rfl, ?_, ⟨_, rfl⟩, hW, hsame.mono (by decide) (by decide)⟩
        · show Steps p.tables e below (s₁.setTop (mkF m 18 #[.val (.int p0)] [(.int (p0 &&& (64 : Int32)))])) _
          refine XS.ifYes X0.here hx rfl (pc0 := 18) (pc' := 28) rfl (hb hby d1_18) rfl ((if0 _ _).trans (teq hc6).1) (by decide) (by decide) ?_
          show Steps p.tables e below (s₁.setTop (mkF m 28 #[.val (.int p0)] [])) _
          refine XS.iloadN X0.here hx rfl (hb hby d1_28) rfl ?_
          show Steps p.tables e below (s₁.setTop (mkF m 29 #[.val (.int p0)] [(.int p0)])) _
          refine XS.iconst X0.here hx rfl (hb hby d1_29) ?_
          show Steps p.tables e below (s₁.setTop (mkF m 30 #[.val (.int p0)] [(.int (2 : Int32)), (.int p0)])) _
          refine XS.ishr X0.here hx rfl (hb hby d1_30) rfl ?_
          show Steps p.tables e below (s₁.setTop (mkF m 31 #[.val (.int p0)] [(.int (p0 >>> ((2 : Int32) &&& 31)))])) _
          refine XS.bipush X0.here hx rfl (hb hby d1_31) ?_
          show Steps p.tables e below (s₁.setTop (mkF m 33 #[.val (.int p0)] [(.int (15 : Int32)), (.int (p0 >>> ((2 : Int32) &&& 31)))])) _
          refine XS.iand X0.here hx rfl (hb hby d1_33) rfl ?_
          show Steps p.tables e below (s₁.setTop (mkF m 34 #[.val (.int p0)] [(.int ((p0 >>> ((2 : Int32) &&& 31)) &&& (15 : Int32)))])) _
          exact retI X0 hx Bd.returns (hb hby d1_34) hr
        · show Q1 Z p0 h0 n0 _ s₁.heap _
          rw [e0]
          exact ⟨by rw [show f1 p0 = ((p0 >>> ((2 : Int32) &&& 31)) &&& (15 : Int32)) from by unfold f1; rw [if_neg hc2, if_neg hc4, if_pos hc6]], N0, rfl⟩
      · obtain ⟨fs, hr, hrun, hended, hW, hsame⟩ := X0.leave (v := some (.int (p0 &&& (63 : Int32)))) (fun h => by rw [Bd.returns] at h; cases h)
        refine ⟨_, _, pre5 _ ?_, hrun, hended, _, _, rfl, ?_, ⟨_, rfl⟩, hW, hsame.mono (by decide) (by decide)⟩
        · show Steps p.tables e below (s₁.setTop (mkF m 18 #[.val (.int p0)] [(.int (p0 &&& (64 : Int32)))])) _
          refine XS.ifNo X0.here hx rfl (hb hby d1_18) rfl ((if0 _ _).trans (feq hc6).1) ?_
          show Steps p.tables e below (s₁.setTop (mkF m 21 #[.val (.int p0)] [])) _
          refine XS.iloadN X0.here hx rfl (hb hby d1_21) rfl ?_
          show Steps p.tables e below (s₁.setTop (mkF m 22 #[.val (.int p0)] [(.int p0)])) _
          refine XS.bipush X0.here hx rfl (hb hby d1_22) ?_
          show Steps p.tables e below (s₁.setTop (mkF m 24 #[.val (.int p0)] [(.int (63 : Int32)), (.int p0)])) _
          refine XS.iand X0.here hx rfl (hb hby d1_24) rfl ?_
          show Steps p.tables e below (s₁.setTop (mkF m 25 #[.val (.int p0)] [(.int (p0 &&& (63 : Int32)))])) _
          refine XS.goto X0.here hx rfl (pc0 := 25) (pc' := 34) rfl (hb hby d1_25) (by decide) (by decide) ?_
          show Steps p.tables e below (s₁.setTop (mkF m 34 #[.val (.int p0)] [(.int (p0 &&& (63 : Int32)))])) _
          exact retI X0 hx Bd.returns (hb hby d1_34) hr
        · show Q1 Z p0 h0 n0 _ s₁.heap _
          rw [e0]
          exact ⟨by rw [show f1 p0 = (p0 &&& (63 : Int32)) from by unfold f1; rw [if_neg hc2, if_neg hc4, if_neg hc6]], N0, rfl⟩
theorem pd_0 : parseMethodDescriptor "(I)I" = some ⟨[.int], some .int⟩ := by decide +kernel
theorem pn_1 : plainName "com/example/sealwax/sealwax/PacketHeaderTagPinLaw" = true := by first | (simp [plainName, overriddenIn]; done) | decide +kernel
theorem ef_0 (m : MethodId) (x0 : Int32) (x1 : Int32) : entryFrame m #[(.int x0), (.int x1)] maxLocals = mkF m 0 #[.val (.int x0), .val (.int x1), .unset, .unset, .unset, .unset, .unset] [] := by first | (simp [entryFrame, mkF, argsToLocals, Value.category, maxLocals]; done) | rfl
def f0_e1 (p0 : Int32) (p1 : Int32) : Int32 := (((128 : Int32) ||| ((p0 &&& (15 : Int32)) <<< ((2 : Int32) &&& 31))) ||| ((p1 >>> ((2 : Int32) &&& 31)) &&& (3 : Int32)))
def f0_l4_88001 (p0 : Int32) (p1 : Int32) : Int32 := (if (p1 &&& (3 : Int32)) = (2 : Int32) then (f0_e1 p0 p1) else ((192 : Int32) ||| (p0 &&& (63 : Int32))))
def f0_l5_88002 (p0 : Int32) (p1 : Int32) : Int32 := (if (p1 &&& (3 : Int32)) = (2 : Int32) then (p0 &&& (15 : Int32)) else (p0 &&& (63 : Int32)))
def f0_l6_88003 (p0 : Int32) (p1 : Int32) : Int32 := (if (p1 &&& (3 : Int32)) = (2 : Int32) then (p0 &&& (15 : Int32)) else (p0 &&& (63 : Int32)))
def f0 (p0 : Int32) (p1 : Int32) : Int32 := (if (p1 &&& (3 : Int32)) = (0 : Int32) then (if (f1 (-1 : Int32)) = (-1 : Int32) then (1 : Int32) else (0 : Int32)) else (if (p1 &&& (3 : Int32)) = (1 : Int32) then (if (f1 (p0 &&& (127 : Int32))) = (-1 : Int32) then (1 : Int32) else (0 : Int32)) else (if (f1 (f0_l4_88001 p0 p1)) = (f0_l5_88002 p0 p1) then (1 : Int32) else (0 : Int32))))
def Q0 (Z : State) (p0 : Int32) (p1 : Int32) (h0 : Heap) (n0 : Nat) (v : Option Value) (h : Heap) (L : List Loc) : Prop := v = some (.int (f0 p0 p1)) ∧ Fr n0 L
set_option maxRecDepth 65536 in
set_option maxHeartbeats 40000000 in
theorem rm0 (l : Launch) (Z : State) (a0 : Array Value) (hw : ∀ d ∈ tables_1, d.before a0 Z = true) (ws : List Jvm.Cond) (p0 : Int32) (p1 : Int32) (h0 : Heap) (n0 : Nat) (Z0 : n0 ≤ h0.size)  :
    MetFree l x (head1 (Jvm.Cond.code x code maxLocals ret :: ws) room_1) (fun a U => a = #[(.int p0), (.int p1)] ∧ Z.Warmed39 U.vm ∧ U.heap = h0) (fun _ _ _ _ _ => True) (fun _ U o U' => ∃ v L, o = .returned v ∧ Q0 Z p0 p1 h0 n0 v U'.heap L ∧ FrameEnd U o U' L room_1.cells room_1.slots) := by
  refine MetFree.of_bodySF (plainFor_of_name pn_1) hisR ?_
  intro p e s m args below meth c s₁ Bd hml0 hP hK
  obtain ⟨rfl, hZ, hh⟩ := hP
  have hx := Bd.exec
  have hby := Bd.bytes
  have hml : c.maxLocals = 7 := hml0
  have hown : s.vm.findClass "com/example/sealwax/sealwax/PacketHeaderTagPinLaw" = some m.cls := findClass_of_methodNamed Bd.named
  have hnm := (name_of_methodNamed Bd.named Bd.method).1
  have X0 : Stand p l e room_1 s m #[(.int p0), (.int p1)] below meth c s₁ [] 0 0 := Stand.of_body Bd
  have e0 : s₁.heap = h0 := by rw [← hh, Bd.state]; rfl
  have N0 := Fr.nil n0
  have K0 := Keep.refl h0 []
  have pre0 : ∀ t, Steps p.tables e below (s₁.setTop (mkF m 0 #[.val (.int p0), .val (.int p1), .unset, .unset, .unset, .unset, .unset] [])) t → Steps p.tables e below (s₁.setTop (entryFrame m #[(.int p0), (.int p1)] maxLocals)) t := fun t k => castTop (ef_0 m p0 p1) k
  have pre1 : ∀ t, Steps p.tables e below (s₁.setTop (mkF m 11 #[.val (.int p0), .val (.int p1), .val (.int (p1 &&& (3 : Int32))), .val (.int ((p1 >>> ((2 : Int32) &&& 31)) &&& (3 : Int32))), .unset, .unset, .unset] [(.int (p1 &&& (3 : Int32)))])) t → Steps p.tables e below (s₁.setTop (entryFrame m #[(.int p0), (.int p1)] maxLocals)) t := fun t kt => pre0 t (by
    show Steps p.tables e below (s₁.setTop (mkF m 0 #[.val (.int p0), .val (.int p1), .unset, .unset, .unset, .unset, .unset] [])) _
    refine XS.iloadN X0.here hx rfl (hb hby at_0) rfl ?_
    show Steps p.tables e below (s₁.setTop (mkF m 1 #[.val (.int p0), .val (.int p1), .unset, .unset, .unset, .unset, .unset] [(.int p1)])) _
    refine XS.iconst X0.here hx rfl (hb hby at_1) ?_
    show Steps p.tables e below (s₁.setTop (mkF m 2 #[.val (.int p0), .val (.int p1), .unset, .unset, .unset, .unset, .unset] [(.int (3 : Int32)), (.int p1)])) _
    refine XS.iand X0.here hx rfl (hb hby at_2) rfl ?_
    show Steps p.tables e below (s₁.setTop (mkF m 3 #[.val (.int p0), .val (.int p1), .unset, .unset, .unset, .unset, .unset] [(.int (p1 &&& (3 : Int32)))])) _
    refine XS.istoreN X0.here hx rfl (hb hby at_3) rfl (l' := #[.val (.int p0), .val (.int p1), .val (.int (p1 &&& (3 : Int32))), .unset, .unset, .unset, .unset]) rfl ?_
    show Steps p.tables e below (s₁.setTop (mkF m 4 #[.val (.int p0), .val (.int p1), .val (.int (p1 &&& (3 : Int32))), .unset, .unset, .unset, .unset] [])) _
    refine XS.iloadN X0.here hx rfl (hb hby at_4) rfl ?_
    show Steps p.tables e below (s₁.setTop (mkF m 5 #[.val (.int p0), .val (.int p1), .val (.int (p1 &&& (3 : Int32))), .unset, .unset, .unset, .unset] [(.int p1)])) _
    refine XS.iconst X0.here hx rfl (hb hby at_5) ?_
    show Steps p.tables e below (s₁.setTop (mkF m 6 #[.val (.int p0), .val (.int p1), .val (.int (p1 &&& (3 : Int32))), .unset, .unset, .unset, .unset] [(.int (2 : Int32)), (.int p1)])) _
    refine XS.ishr X0.here hx rfl (hb hby at_6) rfl ?_
    show Steps p.tables e below (s₁.setTop (mkF m 7 #[.val (.int p0), .val (.int p1), .val (.int (p1 &&& (3 : Int32))), .unset, .unset, .unset, .unset] [(.int (p1 >>> ((2 : Int32) &&& 31)))])) _
    refine XS.iconst X0.here hx rfl (hb hby at_7) ?_
    show Steps p.tables e below (s₁.setTop (mkF m 8 #[.val (.int p0), .val (.int p1), .val (.int (p1 &&& (3 : Int32))), .unset, .unset, .unset, .unset] [(.int (3 : Int32)), (.int (p1 >>> ((2 : Int32) &&& 31)))])) _
    refine XS.iand X0.here hx rfl (hb hby at_8) rfl ?_
    show Steps p.tables e below (s₁.setTop (mkF m 9 #[.val (.int p0), .val (.int p1), .val (.int (p1 &&& (3 : Int32))), .unset, .unset, .unset, .unset] [(.int ((p1 >>> ((2 : Int32) &&& 31)) &&& (3 : Int32)))])) _
    refine XS.istoreN X0.here hx rfl (hb hby at_9) rfl (l' := #[.val (.int p0), .val (.int p1), .val (.int (p1 &&& (3 : Int32))), .val (.int ((p1 >>> ((2 : Int32) &&& 31)) &&& (3 : Int32))), .unset, .unset, .unset]) rfl ?_
    show Steps p.tables e below (s₁.setTop (mkF m 10 #[.val (.int p0), .val (.int p1), .val (.int (p1 &&& (3 : Int32))), .val (.int ((p1 >>> ((2 : Int32) &&& 31)) &&& (3 : Int32))), .unset, .unset, .unset] [])) _
    refine XS.iloadN X0.here hx rfl (hb hby at_10) rfl ?_
    exact kt)
  by_cases hc5 : (p1 &&& (3 : Int32)) = (0 : Int32)
  · obtain ⟨_, _, ⟨T6, L6, k6, n6⟩, -, X6, ⟨Lc6, hQ6, l6, y6, z6⟩, st6⟩ := Jvm.LawKit.callS X0 hx (y := (⟨"com/example/sealwax/sealwax/PacketHeader", "tag", "(I)I"⟩ : MethodName)) hown (mvT hZ (hw _ (List.mem_of_getElem? (i := 0) rfl))) (mvT hZ (hw _ (List.mem_of_getElem? (i := 1) rfl))) (mvT hZ (hw _ (List.mem_of_getElem? (i := 2) rfl))) (mvT hZ (hw _ (List.mem_of_getElem? (i := 3) rfl))) (by decide) (backOf (W := 0) (rm1 l Z a0 hw [] (-1 : Int32) h0 n0 Z0) hZ (hw _ (List.mem_of_getElem? (i := 3) rfl)) (hw _ (List.mem_of_getElem? (i := 2) rfl)) (by decide) (by decide)) (g := (mkF m 90 #[.val (.int p0), .val (.int p1), .val (.int (p1 &&& (3 : Int32))), .val (.int ((p1 >>> ((2 : Int32) &&& 31)) &&& (3 : Int32))), .val (.int (-1 : Int32)), .val (.int (-1 : Int32)), .unset] [(.int (-1 : Int32))])) rfl (by rw [hml]; rfl) (argsL := [(.int (-1 : Int32))]) (rest := []) (lenOf pd_0 rfl) rfl (by show 2 * 0 + _ ≤ _; exact Nat.le_of_eq rfl) (hb hby at_90) (fun _ _ => ⟨rfl, e0, (by decide : 0 + 0 ≤ _), (by decide : 0 + 0 ≤ _)⟩)
    dsimp only [Pt.U, Pt.locs, Pt.cells, Pt.slots] at X6 l6 y6 z6 st6 hQ6
    subst l6 y6 z6
    obtain ⟨rfl, N6q, e6⟩ := hQ6
    have N6 := Fr.app N0 N6q
    have pre7 : ∀ t, Steps p.tables e below (T6.setTop (mkF m 95 #[.val (.int p0), .val (.int p1), .val (.int (p1 &&& (3 : Int32))), .val (.int ((p1 >>> ((2 : Int32) &&& 31)) &&& (3 : Int32))), .val (.int (-1 : Int32)), .val (.int (-1 : Int32)), .unset] [(.int (-1 : Int32)), (.int (f1 (-1 : Int32)))])) t → Steps p.tables e below (s₁.setTop (entryFrame m #[(.int p0), (.int p1)] maxLocals)) t := fun t kt => pre1 t (by
      show Steps p.tables e below (s₁.setTop (mkF m 11 #[.val (.int p0), .val (.int p1), .val (.int (p1 &&& (3 : Int32))), .val (.int ((p1 >>> ((2 : Int32) &&& 31)) &&& (3 : Int32))), .unset, .unset, .unset] [(.int (p1 &&& (3 : Int32)))])) _
      refine XS.ifNo X0.here hx rfl (hb hby at_11) rfl ((if0 _ _).trans (teq hc5).2) ?_
      show Steps p.tables e below (s₁.setTop (mkF m 14 #[.val (.int p0), .val (.int p1), .val (.int (p1 &&& (3 : Int32))), .val (.int ((p1 >>> ((2 : Int32) &&& 31)) &&& (3 : Int32))), .unset, .unset, .unset] [])) _
      refine XS.iconst X0.here hx rfl (hb hby at_14) ?_
      show Steps p.tables e below (s₁.setTop (mkF m 15 #[.val (.int p0), .val (.int p1), .val (.int (p1 &&& (3 : Int32))), .val (.int ((p1 >>> ((2 : Int32) &&& 31)) &&& (3 : Int32))), .unset, .unset, .unset] [(.int (-1 : Int32))])) _
      refine XS.istore X0.here hx rfl (hb hby at_15) rfl (l' := #[.val (.int p0), .val (.int p1), .val (.int (p1 &&& (3 : Int32))), .val (.int ((p1 >>> ((2 : Int32) &&& 31)) &&& (3 : Int32))), .val (.int (-1 : Int32)), .unset, .unset]) rfl ?_
      show Steps p.tables e below (s₁.setTop (mkF m 17 #[.val (.int p0), .val (.int p1), .val (.int (p1 &&& (3 : Int32))), .val (.int ((p1 >>> ((2 : Int32) &&& 31)) &&& (3 : Int32))), .val (.int (-1 : Int32)), .unset, .unset] [])) _
      refine XS.iconst X0.here hx rfl (hb hby at_17) ?_
      show Steps p.tables e below (s₁.setTop (mkF m 18 #[.val (.int p0), .val (.int p1), .val (.int (p1 &&& (3 : Int32))), .val (.int ((p1 >>> ((2 : Int32) &&& 31)) &&& (3 : Int32))), .val (.int (-1 : Int32)), .unset, .unset] [(.int (-1 : Int32))])) _
      refine XS.istore X0.here hx rfl (hb hby at_18) rfl (l' := #[.val (.int p0), .val (.int p1), .val (.int (p1 &&& (3 : Int32))), .val (.int ((p1 >>> ((2 : Int32) &&& 31)) &&& (3 : Int32))), .val (.int (-1 : Int32)), .val (.int (-1 : Int32)), .unset]) rfl ?_
      show Steps p.tables e below (s₁.setTop (mkF m 20 #[.val (.int p0), .val (.int p1), .val (.int (p1 &&& (3 : Int32))), .val (.int ((p1 >>> ((2 : Int32) &&& 31)) &&& (3 : Int32))), .val (.int (-1 : Int32)), .val (.int (-1 : Int32)), .unset] [])) _
      refine XS.goto X0.here hx rfl (pc0 := 20) (pc' := 88) rfl (hb hby at_20) (by decide) (by decide) ?_
      show Steps p.tables e below (s₁.setTop (mkF m 88 #[.val (.int p0), .val (.int p1), .val (.int (p1 &&& (3 : Int32))), .val (.int ((p1 >>> ((2 : Int32) &&& 31)) &&& (3 : Int32))), .val (.int (-1 : Int32)), .val (.int (-1 : Int32)), .unset] [])) _
      refine XS.iload X0.here hx rfl (hb hby at_88) rfl ?_
      show Steps p.tables e below (s₁.setTop (mkF m 90 #[.val (.int p0), .val (.int p1), .val (.int (p1 &&& (3 : Int32))), .val (.int ((p1 >>> ((2 : Int32) &&& 31)) &&& (3 : Int32))), .val (.int (-1 : Int32)), .val (.int (-1 : Int32)), .unset] [(.int (-1 : Int32))])) _
      refine st6 _ ?_
      show Steps p.tables e below (T6.setTop (mkF m 93 #[.val (.int p0), .val (.int p1), .val (.int (p1 &&& (3 : Int32))), .val (.int ((p1 >>> ((2 : Int32) &&& 31)) &&& (3 : Int32))), .val (.int (-1 : Int32)), .val (.int (-1 : Int32)), .unset] [(.int (f1 (-1 : Int32)))])) _
      refine XS.iload X6.here hx rfl (hb hby at_93) rfl ?_
      exact kt)
    by_cases hc8 : (f1 (-1 : Int32)) = (-1 : Int32)
    · obtain ⟨fs, hr, hrun, hended, hW, hsame⟩ := X6.leave (v := some (.int (1 : Int32))) (fun h => by rw [Bd.returns] at h; cases h)
      refine ⟨_, _, pre7 _ ?_, hrun, hended, _, _, rfl, ?_, ⟨_, rfl⟩, hW, hsame.mono (by decide) (by decide)⟩
      · show Steps p.tables e below (T6.setTop (mkF m 95 #[.val (.int p0), .val (.int p1), .val (.int (p1 &&& (3 : Int32))), .val (.int ((p1 >>> ((2 : Int32) &&& 31)) &&& (3 : Int32))), .val (.int (-1 : Int32)), .val (.int (-1 : Int32)), .unset] [(.int (-1 : Int32)), (.int (f1 (-1 : Int32)))])) _
        refine XS.icmpNo X6.here hx rfl (hb hby at_95) rfl (teq hc8).2 ?_
        show Steps p.tables e below (T6.setTop (mkF m 98 #[.val (.int p0), .val (.int p1), .val (.int (p1 &&& (3 : Int32))), .val (.int ((p1 >>> ((2 : Int32) &&& 31)) &&& (3 : Int32))), .val (.int (-1 : Int32)), .val (.int (-1 : Int32)), .unset] [])) _
        refine XS.iconst X6.here hx rfl (hb hby at_98) ?_
        show Steps p.tables e below (T6.setTop (mkF m 99 #[.val (.int p0), .val (.int p1), .val (.int (p1 &&& (3 : Int32))), .val (.int ((p1 >>> ((2 : Int32) &&& 31)) &&& (3 : Int32))), .val (.int (-1 : Int32)), .val (.int (-1 : Int32)), .unset] [(.int (1 : Int32))])) _
        refine XS.goto X6.here hx rfl (pc0 := 99) (pc' := 103) rfl (hb hby at_99) (by decide) (by decide) ?_
        show Steps p.tables e below (T6.setTop (mkF m 103 #[.val (.int p0), .val (.int p1), .val (.int (p1 &&& (3 : Int32))), .val (.int ((p1 >>> ((2 : Int32) &&& 31)) &&& (3 : Int32))), .val (.int (-1 : Int32)), .val (.int (-1 : Int32)), .unset] [(.int (1 : Int32))])) _
        exact retN X6 hx (t := .boolean) Bd.returns (by simp) (hb hby at_103) hr
      · show Q0 Z p0 p1 h0 n0 _ T6.heap _
        rw [e6]
        exact ⟨by rw [show f0 p0 p1 = (1 : Int32) from by unfold f0; rw [if_pos hc5, if_pos hc8]], N6⟩
    · obtain ⟨fs, hr, hrun, hended, hW, hsame⟩ := X6.leave (v := some (.int (0 : Int32))) (fun h => by rw [Bd.returns] at h; cases h)
      refine ⟨_, _, pre7 _ ?_, hrun, hended, _, _, rfl, ?_, ⟨_, rfl⟩, hW, hsame.mono (by decide) (by decide)⟩
      · show Steps p.tables e below (T6.setTop (mkF m 95 #[.val (.int p0), .val (.int p1), .val (.int (p1 &&& (3 : Int32))), .val (.int ((p1 >>> ((2 : Int32) &&& 31)) &&& (3 : Int32))), .val (.int (-1 : Int32)), .val (.int (-1 : Int32)), .unset] [(.int (-1 : Int32)), (.int (f1 (-1 : Int32)))])) _
        refine XS.icmpYes X6.here hx rfl (pc0 := 95) (pc' := 102) rfl (hb hby at_95) rfl (feq hc8).2 (by decide) (by decide) ?_
        show Steps p.tables e below (T6.setTop (mkF m 102 #[.val (.int p0), .val (.int p1), .val (.int (p1 &&& (3 : Int32))), .val (.int ((p1 >>> ((2 : Int32) &&& 31)) &&& (3 : Int32))), .val (.int (-1 : Int32)), .val (.int (-1 : Int32)), .unset] [])) _
        refine XS.iconst X6.here hx rfl (hb hby at_102) ?_
        show Steps p.tables e below (T6.setTop (mkF m 103 #[.val (.int p0), .val (.int p1), .val (.int (p1 &&& (3 : Int32))), .val (.int ((p1 >>> ((2 : Int32) &&& 31)) &&& (3 : Int32))), .val (.int (-1 : Int32)), .val (.int (-1 : Int32)), .unset] [(.int (0 : Int32))])) _
        exact retN X6 hx (t := .boolean) Bd.returns (by simp) (hb hby at_103) hr
      · show Q0 Z p0 p1 h0 n0 _ T6.heap _
        rw [e6]
        exact ⟨by rw [show f0 p0 p1 = (0 : Int32) from by unfold f0; rw [if_pos hc5, if_neg hc8]], N6⟩
  · have pre9 : ∀ t, Steps p.tables e below (s₁.setTop (mkF m 25 #[.val (.int p0), .val (.int p1), .val (.int (p1 &&& (3 : Int32))), .val (.int ((p1 >>> ((2 : Int32) &&& 31)) &&& (3 : Int32))), .unset, .unset, .unset] [(.int (1 : Int32)), (.int (p1 &&& (3 : Int32)))])) t → Steps p.tables e below (s₁.setTop (entryFrame m #[(.int p0), (.int p1)] maxLocals)) t := fun t kt => pre1 t (by
      show Steps p.tables e below (s₁.setTop (mkF m 11 #[.val (.int p0), .val (.int p1), .val (.int (p1 &&& (3 : Int32))), .val (.int ((p1 >>> ((2 : Int32) &&& 31)) &&& (3 : Int32))), .unset, .unset, .unset] [(.int (p1 &&& (3 : Int32)))])) _
      refine XS.ifYes X0.here hx rfl (pc0 := 11) (pc' := 23) rfl (hb hby at_11) rfl ((if0 _ _).trans (feq hc5).2) (by decide) (by decide) ?_
      show Steps p.tables e below (s₁.setTop (mkF m 23 #[.val (.int p0), .val (.int p1), .val (.int (p1 &&& (3 : Int32))), .val (.int ((p1 >>> ((2 : Int32) &&& 31)) &&& (3 : Int32))), .unset, .unset, .unset] [])) _
      refine XS.iloadN X0.here hx rfl (hb hby at_23) rfl ?_
      show Steps p.tables e below (s₁.setTop (mkF m 24 #[.val (.int p0), .val (.int p1), .val (.int (p1 &&& (3 : Int32))), .val (.int ((p1 >>> ((2 : Int32) &&& 31)) &&& (3 : Int32))), .unset, .unset, .unset] [(.int (p1 &&& (3 : Int32)))])) _
      refine XS.iconst X0.here hx rfl (hb hby at_24) ?_
      exact kt)
    by_cases hc12 : (p1 &&& (3 : Int32)) = (1 : Int32)
    · obtain ⟨_, _, ⟨T13, L13, k13, n13⟩, -, X13, ⟨Lc13, hQ13, l13, y13, z13⟩, st13⟩ := Jvm.LawKit.callS X0 hx (y := (⟨"com/example/sealwax/sealwax/PacketHeader", "tag", "(I)I"⟩ : MethodName)) hown (mvT hZ (hw _ (List.mem_of_getElem? (i := 0) rfl))) (mvT hZ (hw _ (List.mem_of_getElem? (i := 1) rfl))) (mvT hZ (hw _ (List.mem_of_getElem? (i := 2) rfl))) (mvT hZ (hw _ (List.mem_of_getElem? (i := 3) rfl))) (by decide) (backOf (W := 0) (rm1 l Z a0 hw [] (p0 &&& (127 : Int32)) h0 n0 Z0) hZ (hw _ (List.mem_of_getElem? (i := 3) rfl)) (hw _ (List.mem_of_getElem? (i := 2) rfl)) (by decide) (by decide)) (g := (mkF m 90 #[.val (.int p0), .val (.int p1), .val (.int (p1 &&& (3 : Int32))), .val (.int ((p1 >>> ((2 : Int32) &&& 31)) &&& (3 : Int32))), .val (.int (p0 &&& (127 : Int32))), .val (.int (-1 : Int32)), .unset] [(.int (p0 &&& (127 : Int32)))])) rfl (by rw [hml]; rfl) (argsL := [(.int (p0 &&& (127 : Int32)))]) (rest := []) (lenOf pd_0 rfl) rfl (by show 2 * 0 + _ ≤ _; exact Nat.le_of_eq rfl) (hb hby at_90) (fun _ _ => ⟨rfl, e0, (by decide : 0 + 0 ≤ _), (by decide : 0 + 0 ≤ _)⟩)
      dsimp only [Pt.U, Pt.locs, Pt.cells, Pt.slots] at X13 l13 y13 z13 st13 hQ13
      subst l13 y13 z13
      obtain ⟨rfl, N13q, e13⟩ := hQ13
      have N13 := Fr.app N0 N13q
      have pre14 : ∀ t, Steps p.tables e below (T13.setTop (mkF m 95 #[.val (.int p0), .val (.int p1), .val (.int (p1 &&& (3 : Int32))), .val (.int ((p1 >>> ((2 : Int32) &&& 31)) &&& (3 : Int32))), .val (.int (p0 &&& (127 : Int32))), .val (.int (-1 : Int32)), .unset] [(.int (-1 : Int32)), (.int (f1 (p0 &&& (127 : Int32))))])) t → Steps p.tables e below (s₁.setTop (entryFrame m #[(.int p0), (.int p1)] maxLocals)) t := fun t kt => pre9 t (by
        show Steps p.tables e below (s₁.setTop (mkF m 25 #[.val (.int p0), .val (.int p1), .val (.int (p1 &&& (3 : Int32))), .val (.int ((p1 >>> ((2 : Int32) &&& 31)) &&& (3 : Int32))), .unset, .unset, .unset] [(.int (1 : Int32)), (.int (p1 &&& (3 : Int32)))])) _
        refine XS.icmpNo X0.here hx rfl (hb hby at_25) rfl (teq hc12).2 ?_
        show Steps p.tables e below (s₁.setTop (mkF m 28 #[.val (.int p0), .val (.int p1), .val (.int (p1 &&& (3 : Int32))), .val (.int ((p1 >>> ((2 : Int32) &&& 31)) &&& (3 : Int32))), .unset, .unset, .unset] [])) _
        refine XS.iloadN X0.here hx rfl (hb hby at_28) rfl ?_
        show Steps p.tables e below (s₁.setTop (mkF m 29 #[.val (.int p0), .val (.int p1), .val (.int (p1 &&& (3 : Int32))), .val (.int ((p1 >>> ((2 : Int32) &&& 31)) &&& (3 : Int32))), .unset, .unset, .unset] [(.int p0)])) _
        refine XS.bipush X0.here hx rfl (hb hby at_29) ?_
        show Steps p.tables e below (s₁.setTop (mkF m 31 #[.val (.int p0), .val (.int p1), .val (.int (p1 &&& (3 : Int32))), .val (.int ((p1 >>> ((2 : Int32) &&& 31)) &&& (3 : Int32))), .unset, .unset, .unset] [(.int (127 : Int32)), (.int p0)])) _
        refine XS.iand X0.here hx rfl (hb hby at_31) rfl ?_
        show Steps p.tables e below (s₁.setTop (mkF m 32 #[.val (.int p0), .val (.int p1), .val (.int (p1 &&& (3 : Int32))), .val (.int ((p1 >>> ((2 : Int32) &&& 31)) &&& (3 : Int32))), .unset, .unset, .unset] [(.int (p0 &&& (127 : Int32)))])) _
        refine XS.istore X0.here hx rfl (hb hby at_32) rfl (l' := #[.val (.int p0), .val (.int p1), .val (.int (p1 &&& (3 : Int32))), .val (.int ((p1 >>> ((2 : Int32) &&& 31)) &&& (3 : Int32))), .val (.int (p0 &&& (127 : Int32))), .unset, .unset]) rfl ?_
        show Steps p.tables e below (s₁.setTop (mkF m 34 #[.val (.int p0), .val (.int p1), .val (.int (p1 &&& (3 : Int32))), .val (.int ((p1 >>> ((2 : Int32) &&& 31)) &&& (3 : Int32))), .val (.int (p0 &&& (127 : Int32))), .unset, .unset] [])) _
        refine XS.iconst X0.here hx rfl (hb hby at_34) ?_
        show Steps p.tables e below (s₁.setTop (mkF m 35 #[.val (.int p0), .val (.int p1), .val (.int (p1 &&& (3 : Int32))), .val (.int ((p1 >>> ((2 : Int32) &&& 31)) &&& (3 : Int32))), .val (.int (p0 &&& (127 : Int32))), .unset, .unset] [(.int (-1 : Int32))])) _
        refine XS.istore X0.here hx rfl (hb hby at_35) rfl (l' := #[.val (.int p0), .val (.int p1), .val (.int (p1 &&& (3 : Int32))), .val (.int ((p1 >>> ((2 : Int32) &&& 31)) &&& (3 : Int32))), .val (.int (p0 &&& (127 : Int32))), .val (.int (-1 : Int32)), .unset]) rfl ?_
        show Steps p.tables e below (s₁.setTop (mkF m 37 #[.val (.int p0), .val (.int p1), .val (.int (p1 &&& (3 : Int32))), .val (.int ((p1 >>> ((2 : Int32) &&& 31)) &&& (3 : Int32))), .val (.int (p0 &&& (127 : Int32))), .val (.int (-1 : Int32)), .unset] [])) _
        refine XS.goto X0.here hx rfl (pc0 := 37) (pc' := 88) rfl (hb hby at_37) (by decide) (by decide) ?_
        show Steps p.tables e below (s₁.setTop (mkF m 88 #[.val (.int p0), .val (.int p1), .val (.int (p1 &&& (3 : Int32))), .val (.int ((p1 >>> ((2 : Int32) &&& 31)) &&& (3 : Int32))), .val (.int (p0 &&& (127 : Int32))), .val (.int (-1 : Int32)), .unset] [])) _
        refine XS.iload X0.here hx rfl (hb hby at_88) rfl ?_
        show Steps p.tables e below (s₁.setTop (mkF m 90 #[.val (.int p0), .val (.int p1), .val (.int (p1 &&& (3 : Int32))), .val (.int ((p1 >>> ((2 : Int32) &&& 31)) &&& (3 : Int32))), .val (.int (p0 &&& (127 : Int32))), .val (.int (-1 : Int32)), .unset] [(.int (p0 &&& (127 : Int32)))])) _
        refine st13 _ ?_
        show Steps p.tables e below (T13.setTop (mkF m 93 #[.val (.int p0), .val (.int p1), .val (.int (p1 &&& (3 : Int32))), .val (.int ((p1 >>> ((2 : Int32) &&& 31)) &&& (3 : Int32))), .val (.int (p0 &&& (127 : Int32))), .val (.int (-1 : Int32)), .unset] [(.int (f1 (p0 &&& (127 : Int32))))])) _
        refine XS.iload X13.here hx rfl (hb hby at_93) rfl ?_
        exact kt)
      by_cases hc15 : (f1 (p0 &&& (127 : Int32))) = (-1 : Int32)
      · obtain ⟨fs, hr, hrun, hended, hW, hsame⟩ := X13.leave (v := some (.int (1 : Int32))) (fun h => by rw [Bd.returns] at h; cases h)
        refine ⟨_, _, pre14 _ ?_, hrun, hended, _, _, rfl, ?_, ⟨_, rfl⟩, hW, hsame.mono (by decide) (by decide)⟩
        · show Steps p.tables e below (T13.setTop (mkF m 95 #[.val (.int p0), .val (.int p1), .val (.int (p1 &&& (3 : Int32))), .val (.int ((p1 >>> ((2 : Int32) &&& 31)) &&& (3 : Int32))), .val (.int (p0 &&& (127 : Int32))), .val (.int (-1 : Int32)), .unset] [(.int (-1 : Int32)), (.int (f1 (p0 &&& (127 : Int32))))])) _
          refine XS.icmpNo X13.here hx rfl (hb hby at_95) rfl (teq hc15).2 ?_
          show Steps p.tables e below (T13.setTop (mkF m 98 #[.val (.int p0), .val (.int p1), .val (.int (p1 &&& (3 : Int32))), .val (.int ((p1 >>> ((2 : Int32) &&& 31)) &&& (3 : Int32))), .val (.int (p0 &&& (127 : Int32))), .val (.int (-1 : Int32)), .unset] [])) _
          refine XS.iconst X13.here hx rfl (hb hby at_98) ?_
          show Steps p.tables e below (T13.setTop (mkF m 99 #[.val (.int p0), .val (.int p1), .val (.int (p1 &&& (3 : Int32))), .val (.int ((p1 >>> ((2 : Int32) &&& 31)) &&& (3 : Int32))), .val (.int (p0 &&& (127 : Int32))), .val (.int (-1 : Int32)), .unset] [(.int (1 : Int32))])) _
          refine XS.goto X13.here hx rfl (pc0 := 99) (pc' := 103) rfl (hb hby at_99) (by decide) (by decide) ?_
          show Steps p.tables e below (T13.setTop (mkF m 103 #[.val (.int p0), .val (.int p1), .val (.int (p1 &&& (3 : Int32))), .val (.int ((p1 >>> ((2 : Int32) &&& 31)) &&& (3 : Int32))), .val (.int (p0 &&& (127 : Int32))), .val (.int (-1 : Int32)), .unset] [(.int (1 : Int32))])) _
          exact retN X13 hx (t := .boolean) Bd.returns (by simp) (hb hby at_103) hr
        · show Q0 Z p0 p1 h0 n0 _ T13.heap _
          rw [e13]
          exact ⟨by rw [show f0 p0 p1 = (1 : Int32) from by unfold f0; rw [if_neg hc5, if_pos hc12, if_pos hc15]], N13⟩
      · obtain ⟨fs, hr, hrun, hended, hW, hsame⟩ := X13.leave (v := some (.int (0 : Int32))) (fun h => by rw [Bd.returns] at h; cases h)
        refine ⟨_, _, pre14 _ ?_, hrun, hended, _, _, rfl, ?_, ⟨_, rfl⟩, hW, hsame.mono (by decide) (by decide)⟩
        · show Steps p.tables e below (T13.setTop (mkF m 95 #[.val (.int p0), .val (.int p1), .val (.int (p1 &&& (3 : Int32))), .val (.int ((p1 >>> ((2 : Int32) &&& 31)) &&& (3 : Int32))), .val (.int (p0 &&& (127 : Int32))), .val (.int (-1 : Int32)), .unset] [(.int (-1 : Int32)), (.int (f1 (p0 &&& (127 : Int32))))])) _
          refine XS.icmpYes X13.here hx rfl (pc0 := 95) (pc' := 102) rfl (hb hby at_95) rfl (feq hc15).2 (by decide) (by decide) ?_
          show Steps p.tables e below (T13.setTop (mkF m 102 #[.val (.int p0), .val (.int p1), .val (.int (p1 &&& (3 : Int32))), .val (.int ((p1 >>> ((2 : Int32) &&& 31)) &&& (3 : Int32))), .val (.int (p0 &&& (127 : Int32))), .val (.int (-1 : Int32)), .unset] [])) _
          refine XS.iconst X13.here hx rfl (hb hby at_102) ?_
          show Steps p.tables e below (T13.setTop (mkF m 103 #[.val (.int p0), .val (.int p1), .val (.int (p1 &&& (3 : Int32))), .val (.int ((p1 >>> ((2 : Int32) &&& 31)) &&& (3 : Int32))), .val (.int (p0 &&& (127 : Int32))), .val (.int (-1 : Int32)), .unset] [(.int (0 : Int32))])) _
          exact retN X13 hx (t := .boolean) Bd.returns (by simp) (hb hby at_103) hr
        · show Q0 Z p0 p1 h0 n0 _ T13.heap _
          rw [e13]
          exact ⟨by rw [show f0 p0 p1 = (0 : Int32) from by unfold f0; rw [if_neg hc5, if_pos hc12, if_neg hc15]], N13⟩
    · have pre16 : ∀ t, Steps p.tables e below (s₁.setTop (mkF m 42 #[.val (.int p0), .val (.int p1), .val (.int (p1 &&& (3 : Int32))), .val (.int ((p1 >>> ((2 : Int32) &&& 31)) &&& (3 : Int32))), .unset, .unset, .unset] [(.int (2 : Int32)), (.int (p1 &&& (3 : Int32)))])) t → Steps p.tables e below (s₁.setTop (entryFrame m #[(.int p0), (.int p1)] maxLocals)) t := fun t kt => pre9 t (by
        show Steps p.tables e below (s₁.setTop (mkF m 25 #[.val (.int p0), .val (.int p1), .val (.int (p1 &&& (3 : Int32))), .val (.int ((p1 >>> ((2 : Int32) &&& 31)) &&& (3 : Int32))), .unset, .unset, .unset] [(.int (1 : Int32)), (.int (p1 &&& (3 : Int32)))])) _
        refine XS.icmpYes X0.here hx rfl (pc0 := 25) (pc' := 40) rfl (hb hby at_25) rfl (feq hc12).2 (by decide) (by decide) ?_
        show Steps p.tables e below (s₁.setTop (mkF m 40 #[.val (.int p0), .val (.int p1), .val (.int (p1 &&& (3 : Int32))), .val (.int ((p1 >>> ((2 : Int32) &&& 31)) &&& (3 : Int32))), .unset, .unset, .unset] [])) _
        refine XS.iloadN X0.here hx rfl (hb hby at_40) rfl ?_
        show Steps p.tables e below (s₁.setTop (mkF m 41 #[.val (.int p0), .val (.int p1), .val (.int (p1 &&& (3 : Int32))), .val (.int ((p1 >>> ((2 : Int32) &&& 31)) &&& (3 : Int32))), .unset, .unset, .unset] [(.int (p1 &&& (3 : Int32)))])) _
        refine XS.iconst X0.here hx rfl (hb hby at_41) ?_
        exact kt)
      have pre18 : ∀ t, Steps p.tables e below (s₁.setTop (mkF m 88 #[.val (.int p0), .val (.int p1), .val (.int (p1 &&& (3 : Int32))), .val (.int ((p1 >>> ((2 : Int32) &&& 31)) &&& (3 : Int32))), .val (.int (f0_l4_88001 p0 p1)), .val (.int (f0_l5_88002 p0 p1)), .val (.int (f0_l6_88003 p0 p1))] [])) t → Steps p.tables e below (s₁.setTop (entryFrame m #[(.int p0), (.int p1)] maxLocals)) t := by
        intro t kt
        by_cases hc17 : (p1 &&& (3 : Int32)) = (2 : Int32)
        · have hj : (f0_l4_88001 p0 p1) = (f0_e1 p0 p1) := by unfold f0_l4_88001; rw [if_pos hc17]
          rw [hj] at kt
          have hj : (f0_l5_88002 p0 p1) = (p0 &&& (15 : Int32)) := by unfold f0_l5_88002; rw [if_pos hc17]
          rw [hj] at kt
          have hj : (f0_l6_88003 p0 p1) = (p0 &&& (15 : Int32)) := by unfold f0_l6_88003; rw [if_pos hc17]
          rw [hj] at kt
          refine pre16 t ?_
          show Steps p.tables e below (s₁.setTop (mkF m 42 #[.val (.int p0), .val (.int p1), .val (.int (p1 &&& (3 : Int32))), .val (.int ((p1 >>> ((2 : Int32) &&& 31)) &&& (3 : Int32))), .unset, .unset, .unset] [(.int (2 : Int32)), (.int (p1 &&& (3 : Int32)))])) _
          refine XS.icmpNo X0.here hx rfl (hb hby at_42) rfl (teq hc17).2 ?_
          show Steps p.tables e below (s₁.setTop (mkF m 45 #[.val (.int p0), .val (.int p1), .val (.int (p1 &&& (3 : Int32))), .val (.int ((p1 >>> ((2 : Int32) &&& 31)) &&& (3 : Int32))), .unset, .unset, .unset] [])) _
          refine XS.iloadN X0.here hx rfl (hb hby at_45) rfl ?_
          show Steps p.tables e below (s₁.setTop (mkF m 46 #[.val (.int p0), .val (.int p1), .val (.int (p1 &&& (3 : Int32))), .val (.int ((p1 >>> ((2 : Int32) &&& 31)) &&& (3 : Int32))), .unset, .unset, .unset] [(.int p0)])) _
          refine XS.bipush X0.here hx rfl (hb hby at_46) ?_
          show Steps p.tables e below (s₁.setTop (mkF m 48 #[.val (.int p0), .val (.int p1), .val (.int (p1 &&& (3 : Int32))), .val (.int ((p1 >>> ((2 : Int32) &&& 31)) &&& (3 : Int32))), .unset, .unset, .unset] [(.int (15 : Int32)), (.int p0)])) _
          refine XS.iand X0.here hx rfl (hb hby at_48) rfl ?_
          show Steps p.tables e below (s₁.setTop (mkF m 49 #[.val (.int p0), .val (.int p1), .val (.int (p1 &&& (3 : Int32))), .val (.int ((p1 >>> ((2 : Int32) &&& 31)) &&& (3 : Int32))), .unset, .unset, .unset] [(.int (p0 &&& (15 : Int32)))])) _
          refine XS.istore X0.here hx rfl (hb hby at_49) rfl (l' := #[.val (.int p0), .val (.int p1), .val (.int (p1 &&& (3 : Int32))), .val (.int ((p1 >>> ((2 : Int32) &&& 31)) &&& (3 : Int32))), .unset, .unset, .val (.int (p0 &&& (15 : Int32)))]) rfl ?_
          show Steps p.tables e below (s₁.setTop (mkF m 51 #[.val (.int p0), .val (.int p1), .val (.int (p1 &&& (3 : Int32))), .val (.int ((p1 >>> ((2 : Int32) &&& 31)) &&& (3 : Int32))), .unset, .unset, .val (.int (p0 &&& (15 : Int32)))] [])) _
          refine XS.sipush X0.here hx rfl (hb hby at_51) ?_
          show Steps p.tables e below (s₁.setTop (mkF m 54 #[.val (.int p0), .val (.int p1), .val (.int (p1 &&& (3 : Int32))), .val (.int ((p1 >>> ((2 : Int32) &&& 31)) &&& (3 : Int32))), .unset, .unset, .val (.int (p0 &&& (15 : Int32)))] [(.int (128 : Int32))])) _
          refine XS.iload X0.here hx rfl (hb hby at_54) rfl ?_
          show Steps p.tables e below (s₁.setTop (mkF m 56 #[.val (.int p0), .val (.int p1), .val (.int (p1 &&& (3 : Int32))), .val (.int ((p1 >>> ((2 : Int32) &&& 31)) &&& (3 : Int32))), .unset, .unset, .val (.int (p0 &&& (15 : Int32)))] [(.int (p0 &&& (15 : Int32))), (.int (128 : Int32))])) _
          refine XS.iconst X0.here hx rfl (hb hby at_56) ?_
          show Steps p.tables e below (s₁.setTop (mkF m 57 #[.val (.int p0), .val (.int p1), .val (.int (p1 &&& (3 : Int32))), .val (.int ((p1 >>> ((2 : Int32) &&& 31)) &&& (3 : Int32))), .unset, .unset, .val (.int (p0 &&& (15 : Int32)))] [(.int (2 : Int32)), (.int (p0 &&& (15 : Int32))), (.int (128 : Int32))])) _
          refine XS.ishl X0.here hx rfl (hb hby at_57) rfl ?_
          show Steps p.tables e below (s₁.setTop (mkF m 58 #[.val (.int p0), .val (.int p1), .val (.int (p1 &&& (3 : Int32))), .val (.int ((p1 >>> ((2 : Int32) &&& 31)) &&& (3 : Int32))), .unset, .unset, .val (.int (p0 &&& (15 : Int32)))] [(.int ((p0 &&& (15 : Int32)) <<< ((2 : Int32) &&& 31))), (.int (128 : Int32))])) _
          refine XS.ior X0.here hx rfl (hb hby at_58) rfl ?_
          show Steps p.tables e below (s₁.setTop (mkF m 59 #[.val (.int p0), .val (.int p1), .val (.int (p1 &&& (3 : Int32))), .val (.int ((p1 >>> ((2 : Int32) &&& 31)) &&& (3 : Int32))), .unset, .unset, .val (.int (p0 &&& (15 : Int32)))] [(.int ((128 : Int32) ||| ((p0 &&& (15 : Int32)) <<< ((2 : Int32) &&& 31))))])) _
          refine XS.iloadN X0.here hx rfl (hb hby at_59) rfl ?_
          show Steps p.tables e below (s₁.setTop (mkF m 60 #[.val (.int p0), .val (.int p1), .val (.int (p1 &&& (3 : Int32))), .val (.int ((p1 >>> ((2 : Int32) &&& 31)) &&& (3 : Int32))), .unset, .unset, .val (.int (p0 &&& (15 : Int32)))] [(.int ((p1 >>> ((2 : Int32) &&& 31)) &&& (3 : Int32))), (.int ((128 : Int32) ||| ((p0 &&& (15 : Int32)) <<< ((2 : Int32) &&& 31))))])) _
          refine XS.ior X0.here hx rfl (hb hby at_60) rfl ?_
          show Steps p.tables e below (s₁.setTop (mkF m 61 #[.val (.int p0), .val (.int p1), .val (.int (p1 &&& (3 : Int32))), .val (.int ((p1 >>> ((2 : Int32) &&& 31)) &&& (3 : Int32))), .unset, .unset, .val (.int (p0 &&& (15 : Int32)))] [(.int (f0_e1 p0 p1))])) _
          refine XS.istore X0.here hx rfl (hb hby at_61) rfl (l' := #[.val (.int p0), .val (.int p1), .val (.int (p1 &&& (3 : Int32))), .val (.int ((p1 >>> ((2 : Int32) &&& 31)) &&& (3 : Int32))), .val (.int (f0_e1 p0 p1)), .unset, .val (.int (p0 &&& (15 : Int32)))]) rfl ?_
          show Steps p.tables e below (s₁.setTop (mkF m 63 #[.val (.int p0), .val (.int p1), .val (.int (p1 &&& (3 : Int32))), .val (.int ((p1 >>> ((2 : Int32) &&& 31)) &&& (3 : Int32))), .val (.int (f0_e1 p0 p1)), .unset, .val (.int (p0 &&& (15 : Int32)))] [])) _
          refine XS.iload X0.here hx rfl (hb hby at_63) rfl ?_
          show Steps p.tables e below (s₁.setTop (mkF m 65 #[.val (.int p0), .val (.int p1), .val (.int (p1 &&& (3 : Int32))), .val (.int ((p1 >>> ((2 : Int32) &&& 31)) &&& (3 : Int32))), .val (.int (f0_e1 p0 p1)), .unset, .val (.int (p0 &&& (15 : Int32)))] [(.int (p0 &&& (15 : Int32)))])) _
          refine XS.istore X0.here hx rfl (hb hby at_65) rfl (l' := #[.val (.int p0), .val (.int p1), .val (.int (p1 &&& (3 : Int32))), .val (.int ((p1 >>> ((2 : Int32) &&& 31)) &&& (3 : Int32))), .val (.int (f0_e1 p0 p1)), .val (.int (p0 &&& (15 : Int32))), .val (.int (p0 &&& (15 : Int32)))]) rfl ?_
          show Steps p.tables e below (s₁.setTop (mkF m 67 #[.val (.int p0), .val (.int p1), .val (.int (p1 &&& (3 : Int32))), .val (.int ((p1 >>> ((2 : Int32) &&& 31)) &&& (3 : Int32))), .val (.int (f0_e1 p0 p1)), .val (.int (p0 &&& (15 : Int32))), .val (.int (p0 &&& (15 : Int32)))] [])) _
          refine XS.goto X0.here hx rfl (pc0 := 67) (pc' := 88) rfl (hb hby at_67) (by decide) (by decide) ?_
          exact kt
        · have hj : (f0_l4_88001 p0 p1) = ((192 : Int32) ||| (p0 &&& (63 : Int32))) := by unfold f0_l4_88001; rw [if_neg hc17]
          rw [hj] at kt
          have hj : (f0_l5_88002 p0 p1) = (p0 &&& (63 : Int32)) := by unfold f0_l5_88002; rw [if_neg hc17]
          rw [hj] at kt
          have hj : (f0_l6_88003 p0 p1) = (p0 &&& (63 : Int32)) := by unfold f0_l6_88003; rw [if_neg hc17]
          rw [hj] at kt
          refine pre16 t ?_
          show Steps p.tables e below (s₁.setTop (mkF m 42 #[.val (.int p0), .val (.int p1), .val (.int (p1 &&& (3 : Int32))), .val (.int ((p1 >>> ((2 : Int32) &&& 31)) &&& (3 : Int32))), .unset, .unset, .unset] [(.int (2 : Int32)), (.int (p1 &&& (3 : Int32)))])) _
          refine XS.icmpYes X0.here hx rfl (pc0 := 42) (pc' := 70) rfl (hb hby at_42) rfl (feq hc17).2 (by decide) (by decide) ?_
          show Steps p.tables e below (s₁.setTop (mkF m 70 #[.val (.int p0), .val (.int p1), .val (.int (p1 &&& (3 : Int32))), .val (.int ((p1 >>> ((2 : Int32) &&& 31)) &&& (3 : Int32))), .unset, .unset, .unset] [])) _
          refine XS.iloadN X0.here hx rfl (hb hby at_70) rfl ?_
          show Steps p.tables e below (s₁.setTop (mkF m 71 #[.val (.int p0), .val (.int p1), .val (.int (p1 &&& (3 : Int32))), .val (.int ((p1 >>> ((2 : Int32) &&& 31)) &&& (3 : Int32))), .unset, .unset, .unset] [(.int p0)])) _
          refine XS.bipush X0.here hx rfl (hb hby at_71) ?_
          show Steps p.tables e below (s₁.setTop (mkF m 73 #[.val (.int p0), .val (.int p1), .val (.int (p1 &&& (3 : Int32))), .val (.int ((p1 >>> ((2 : Int32) &&& 31)) &&& (3 : Int32))), .unset, .unset, .unset] [(.int (63 : Int32)), (.int p0)])) _
          refine XS.iand X0.here hx rfl (hb hby at_73) rfl ?_
          show Steps p.tables e below (s₁.setTop (mkF m 74 #[.val (.int p0), .val (.int p1), .val (.int (p1 &&& (3 : Int32))), .val (.int ((p1 >>> ((2 : Int32) &&& 31)) &&& (3 : Int32))), .unset, .unset, .unset] [(.int (p0 &&& (63 : Int32)))])) _
          refine XS.istore X0.here hx rfl (hb hby at_74) rfl (l' := #[.val (.int p0), .val (.int p1), .val (.int (p1 &&& (3 : Int32))), .val (.int ((p1 >>> ((2 : Int32) &&& 31)) &&& (3 : Int32))), .unset, .unset, .val (.int (p0 &&& (63 : Int32)))]) rfl ?_
          show Steps p.tables e below (s₁.setTop (mkF m 76 #[.val (.int p0), .val (.int p1), .val (.int (p1 &&& (3 : Int32))), .val (.int ((p1 >>> ((2 : Int32) &&& 31)) &&& (3 : Int32))), .unset, .unset, .val (.int (p0 &&& (63 : Int32)))] [])) _
          refine XS.sipush X0.here hx rfl (hb hby at_76) ?_
          show Steps p.tables e below (s₁.setTop (mkF m 79 #[.val (.int p0), .val (.int p1), .val (.int (p1 &&& (3 : Int32))), .val (.int ((p1 >>> ((2 : Int32) &&& 31)) &&& (3 : Int32))), .unset, .unset, .val (.int (p0 &&& (63 : Int32)))] [(.int (192 : Int32))])) _
          refine XS.iload X0.here hx rfl (hb hby at_79) rfl ?_
          show Steps p.tables e below (s₁.setTop (mkF m 81 #[.val (.int p0), .val (.int p1), .val (.int (p1 &&& (3 : Int32))), .val (.int ((p1 >>> ((2 : Int32) &&& 31)) &&& (3 : Int32))), .unset, .unset, .val (.int (p0 &&& (63 : Int32)))] [(.int (p0 &&& (63 : Int32))), (.int (192 : Int32))])) _
          refine XS.ior X0.here hx rfl (hb hby at_81) rfl ?_
          show Steps p.tables e below (s₁.setTop (mkF m 82 #[.val (.int p0), .val (.int p1), .val (.int (p1 &&& (3 : Int32))), .val (.int ((p1 >>> ((2 : Int32) &&& 31)) &&& (3 : Int32))), .unset, .unset, .val (.int (p0 &&& (63 : Int32)))] [(.int ((192 : Int32) ||| (p0 &&& (63 : Int32))))])) _
          refine XS.istore X0.here hx rfl (hb hby at_82) rfl (l' := #[.val (.int p0), .val (.int p1), .val (.int (p1 &&& (3 : Int32))), .val (.int ((p1 >>> ((2 : Int32) &&& 31)) &&& (3 : Int32))), .val (.int ((192 : Int32) ||| (p0 &&& (63 : Int32)))), .unset, .val (.int (p0 &&& (63 : Int32)))]) rfl ?_
          show Steps p.tables e below (s₁.setTop (mkF m 84 #[.val (.int p0), .val (.int p1), .val (.int (p1 &&& (3 : Int32))), .val (.int ((p1 >>> ((2 : Int32) &&& 31)) &&& (3 : Int32))), .val (.int ((192 : Int32) ||| (p0 &&& (63 : Int32)))), .unset, .val (.int (p0 &&& (63 : Int32)))] [])) _
          refine XS.iload X0.here hx rfl (hb hby at_84) rfl ?_
          show Steps p.tables e below (s₁.setTop (mkF m 86 #[.val (.int p0), .val (.int p1), .val (.int (p1 &&& (3 : Int32))), .val (.int ((p1 >>> ((2 : Int32) &&& 31)) &&& (3 : Int32))), .val (.int ((192 : Int32) ||| (p0 &&& (63 : Int32)))), .unset, .val (.int (p0 &&& (63 : Int32)))] [(.int (p0 &&& (63 : Int32)))])) _
          refine XS.istore X0.here hx rfl (hb hby at_86) rfl (l' := #[.val (.int p0), .val (.int p1), .val (.int (p1 &&& (3 : Int32))), .val (.int ((p1 >>> ((2 : Int32) &&& 31)) &&& (3 : Int32))), .val (.int ((192 : Int32) ||| (p0 &&& (63 : Int32)))), .val (.int (p0 &&& (63 : Int32))), .val (.int (p0 &&& (63 : Int32)))]) rfl ?_
          exact kt
      obtain ⟨_, _, ⟨T19, L19, k19, n19⟩, -, X19, ⟨Lc19, hQ19, l19, y19, z19⟩, st19⟩ := Jvm.LawKit.callS X0 hx (y := (⟨"com/example/sealwax/sealwax/PacketHeader", "tag", "(I)I"⟩ : MethodName)) hown (mvT hZ (hw _ (List.mem_of_getElem? (i := 0) rfl))) (mvT hZ (hw _ (List.mem_of_getElem? (i := 1) rfl))) (mvT hZ (hw _ (List.mem_of_getElem? (i := 2) rfl))) (mvT hZ (hw _ (List.mem_of_getElem? (i := 3) rfl))) (by decide) (backOf (W := 0) (rm1 l Z a0 hw [] (f0_l4_88001 p0 p1) h0 n0 Z0) hZ (hw _ (List.mem_of_getElem? (i := 3) rfl)) (hw _ (List.mem_of_getElem? (i := 2) rfl)) (by decide) (by decide)) (g := (mkF m 90 #[.val (.int p0), .val (.int p1), .val (.int (p1 &&& (3 : Int32))), .val (.int ((p1 >>> ((2 : Int32) &&& 31)) &&& (3 : Int32))), .val (.int (f0_l4_88001 p0 p1)), .val (.int (f0_l5_88002 p0 p1)), .val (.int (f0_l6_88003 p0 p1))] [(.int (f0_l4_88001 p0 p1))])) rfl (by rw [hml]; rfl) (argsL := [(.int (f0_l4_88001 p0 p1))]) (rest := []) (lenOf pd_0 rfl) rfl (by show 2 * 0 + _ ≤ _; exact Nat.le_of_eq rfl) (hb hby at_90) (fun _ _ => ⟨rfl, e0, (by decide : 0 + 0 ≤ _), (by decide : 0 + 0 ≤ _)⟩)
      dsimp only [Pt.U, Pt.locs, Pt.cells, Pt.slots] at X19 l19 y19 z19 st19 hQ19
      subst l19 y19 z19
      obtain ⟨rfl, N19q, e19⟩ := hQ19
      have N19 := Fr.app N0 N19q
      have pre20 : ∀ t, Steps p.tables e below (T19.setTop (mkF m 95 #[.val (.int p0), .val (.int p1), .val (.int (p1 &&& (3 : Int32))), .val (.int ((p1 >>> ((2 : Int32) &&& 31)) &&& (3 : Int32))), .val (.int (f0_l4_88001 p0 p1)), .val (.int (f0_l5_88002 p0 p1)), .val (.int (f0_l6_88003 p0 p1))] [(.int (f0_l5_88002 p0 p1)), (.int (f1 (f0_l4_88001 p0 p1)))])) t → Steps p.tables e below (s₁.setTop (entryFrame m #[(.int p0), (.int p1)] maxLocals)) t := fun t kt => pre18 t (by
        show Steps p.tables e below (s₁.setTop (mkF m 88 #[.val (.int p0), .val (.int p1), .val (.int (p1 &&& (3 : Int32))), .val (.int ((p1 >>> ((2 : Int32) &&& 31)) &&& (3 : Int32))), .val (.int (f0_l4_88001 p0 p1)), .val (.int (f0_l5_88002 p0 p1)), .val (.int (f0_l6_88003 p0 p1))] [])) _
        refine XS.iload X0.here hx rfl (hb hby at_88) rfl ?_
        show Steps p.tables e below (s₁.setTop (mkF m 90 #[.val (.int p0), .val (.int p1), .val (.int (p1 &&& (3 : Int32))), .val (.int ((p1 >>> ((2 : Int32) &&& 31)) &&& (3 : Int32))), .val (.int (f0_l4_88001 p0 p1)), .val (.int (f0_l5_88002 p0 p1)), .val (.int (f0_l6_88003 p0 p1))] [(.int (f0_l4_88001 p0 p1))])) _
        refine st19 _ ?_
        show Steps p.tables e below (T19.setTop (mkF m 93 #[.val (.int p0), .val (.int p1), .val (.int (p1 &&& (3 : Int32))), .val (.int ((p1 >>> ((2 : Int32) &&& 31)) &&& (3 : Int32))), .val (.int (f0_l4_88001 p0 p1)), .val (.int (f0_l5_88002 p0 p1)), .val (.int (f0_l6_88003 p0 p1))] [(.int (f1 (f0_l4_88001 p0 p1)))])) _
        refine XS.iload X19.here hx rfl (hb hby at_93) rfl ?_
        exact kt)
      by_cases hc21 : (f1 (f0_l4_88001 p0 p1)) = (f0_l5_88002 p0 p1)
      · obtain ⟨fs, hr, hrun, hended, hW, hsame⟩ := X19.leave (v := some (.int (1 : Int32))) (fun h => by rw [Bd.returns] at h; cases h)
        refine ⟨_, _, pre20 _ ?_, hrun, hended, _, _, rfl, ?_, ⟨_, rfl⟩, hW, hsame.mono (by decide) (by decide)⟩
        · show Steps p.tables e below (T19.setTop (mkF m 95 #[.val (.int p0), .val (.int p1), .val (.int (p1 &&& (3 : Int32))), .val (.int ((p1 >>> ((2 : Int32) &&& 31)) &&& (3 : Int32))), .val (.int (f0_l4_88001 p0 p1)), .val (.int (f0_l5_88002 p0 p1)), .val (.int (f0_l6_88003 p0 p1))] [(.int (f0_l5_88002 p0 p1)), (.int (f1 (f0_l4_88001 p0 p1)))])) _
          refine XS.icmpNo X19.here hx rfl (hb hby at_95) rfl (teq hc21).2 ?_
          show Steps p.tables e below (T19.setTop (mkF m 98 #[.val (.int p0), .val (.int p1), .val (.int (p1 &&& (3 : Int32))), .val (.int ((p1 >>> ((2 : Int32) &&& 31)) &&& (3 : Int32))), .val (.int (f0_l4_88001 p0 p1)), .val (.int (f0_l5_88002 p0 p1)), .val (.int (f0_l6_88003 p0 p1))] [])) _
          refine XS.iconst X19.here hx rfl (hb hby at_98) ?_
          show Steps p.tables e below (T19.setTop (mkF m 99 #[.val (.int p0), .val (.int p1), .val (.int (p1 &&& (3 : Int32))), .val (.int ((p1 >>> ((2 : Int32) &&& 31)) &&& (3 : Int32))), .val (.int (f0_l4_88001 p0 p1)), .val (.int (f0_l5_88002 p0 p1)), .val (.int (f0_l6_88003 p0 p1))] [(.int (1 : Int32))])) _
          refine XS.goto X19.here hx rfl (pc0 := 99) (pc' := 103) rfl (hb hby at_99) (by decide) (by decide) ?_
          show Steps p.tables e below (T19.setTop (mkF m 103 #[.val (.int p0), .val (.int p1), .val (.int (p1 &&& (3 : Int32))), .val (.int ((p1 >>> ((2 : Int32) &&& 31)) &&& (3 : Int32))), .val (.int (f0_l4_88001 p0 p1)), .val (.int (f0_l5_88002 p0 p1)), .val (.int (f0_l6_88003 p0 p1))] [(.int (1 : Int32))])) _
          exact retN X19 hx (t := .boolean) Bd.returns (by simp) (hb hby at_103) hr
        · show Q0 Z p0 p1 h0 n0 _ T19.heap _
          rw [e19]
          exact ⟨by rw [show f0 p0 p1 = (1 : Int32) from by unfold f0; rw [if_neg hc5, if_neg hc12, if_pos hc21]], N19⟩
      · obtain ⟨fs, hr, hrun, hended, hW, hsame⟩ := X19.leave (v := some (.int (0 : Int32))) (fun h => by rw [Bd.returns] at h; cases h)
        refine ⟨_, _, pre20 _ ?_, hrun, hended, _, _, rfl, ?_, ⟨_, rfl⟩, hW, hsame.mono (by decide) (by decide)⟩
        · show Steps p.tables e below (T19.setTop (mkF m 95 #[.val (.int p0), .val (.int p1), .val (.int (p1 &&& (3 : Int32))), .val (.int ((p1 >>> ((2 : Int32) &&& 31)) &&& (3 : Int32))), .val (.int (f0_l4_88001 p0 p1)), .val (.int (f0_l5_88002 p0 p1)), .val (.int (f0_l6_88003 p0 p1))] [(.int (f0_l5_88002 p0 p1)), (.int (f1 (f0_l4_88001 p0 p1)))])) _
          refine XS.icmpYes X19.here hx rfl (pc0 := 95) (pc' := 102) rfl (hb hby at_95) rfl (feq hc21).2 (by decide) (by decide) ?_
          show Steps p.tables e below (T19.setTop (mkF m 102 #[.val (.int p0), .val (.int p1), .val (.int (p1 &&& (3 : Int32))), .val (.int ((p1 >>> ((2 : Int32) &&& 31)) &&& (3 : Int32))), .val (.int (f0_l4_88001 p0 p1)), .val (.int (f0_l5_88002 p0 p1)), .val (.int (f0_l6_88003 p0 p1))] [])) _
          refine XS.iconst X19.here hx rfl (hb hby at_102) ?_
          show Steps p.tables e below (T19.setTop (mkF m 103 #[.val (.int p0), .val (.int p1), .val (.int (p1 &&& (3 : Int32))), .val (.int ((p1 >>> ((2 : Int32) &&& 31)) &&& (3 : Int32))), .val (.int (f0_l4_88001 p0 p1)), .val (.int (f0_l5_88002 p0 p1)), .val (.int (f0_l6_88003 p0 p1))] [(.int (0 : Int32))])) _
          exact retN X19 hx (t := .boolean) Bd.returns (by simp) (hb hby at_103) hr
        · show Q0 Z p0 p1 h0 n0 _ T19.heap _
          rw [e19]
          exact ⟨by rw [show f0 p0 p1 = (0 : Int32) from by unfold f0; rw [if_neg hc5, if_neg hc12, if_neg hc21]], N19⟩
theorem own_of {c : Int32} {k : Nat} (h0 : 0 ≤ c.toInt) (h1 : c.toInt < k) : ∃ n : Fin k, c = Int32.ofInt ((n.val : Nat) : Int) :=
  ⟨⟨c.toInt.toNat, by omega⟩, by show c = Int32.ofInt ((c.toInt.toNat : Nat) : Int); rw [Int.toNat_of_nonneg h0, Int32.ofInt_toInt]⟩
theorem own_mask (x m : Int32) (k : Nat) (hk : k ≤ 31) (hm : m.toBitVec.toNat = 2 ^ k - 1) : ∃ n : Fin (2 ^ k), (x &&& m) = Int32.ofInt ((n.val : Nat) : Int) := by
  have e := c_mask x m k hk hm
  have hp : (0 : Int) < ((2 ^ k : Nat) : Int) := Int.natCast_pos.mpr (Nat.two_pow_pos k)
  exact own_of (by rw [e]; exact Int.emod_nonneg _ (by omega)) (by rw [e]; exact Int.emod_lt_of_pos _ hp)
theorem own_m1 : ∀ n : Fin (2 ^ 7), f1 (Int32.ofInt ((n.val : Nat) : Int)) = -1 := by decide +kernel
theorem own_m2 : ∀ n : Fin (2 ^ 4), ∀ j : Fin (2 ^ 2), f1 (((128 : Int32) ||| ((Int32.ofInt ((n.val : Nat) : Int)) <<< ((2 : Int32) &&& 31))) ||| (Int32.ofInt ((j.val : Nat) : Int))) = Int32.ofInt ((n.val : Nat) : Int) := by decide +kernel
theorem own_m3 : ∀ n : Fin (2 ^ 6), f1 ((192 : Int32) ||| (Int32.ofInt ((n.val : Nat) : Int))) = Int32.ofInt ((n.val : Nat) : Int) := by decide +kernel
theorem own_law (p0 p1 : Int32) : f0 p0 p1 = 1 := by
  unfold f0
  by_cases h0 : (p1 &&& 3) = 0
  · rw [if_pos h0]; decide +kernel
  · rw [if_neg h0]
    by_cases h1 : (p1 &&& 3) = 1
    · rw [if_pos h1, if_pos]
      obtain ⟨n, e⟩ := own_mask p0 127 7 (by decide) (by decide)
      rw [e]; exact own_m1 n
    · rw [if_neg h1, if_pos]
      unfold f0_l4_88001 f0_l5_88002 f0_e1
      by_cases h2 : (p1 &&& 3) = 2
      · rw [if_pos h2, if_pos h2]
        obtain ⟨n, e⟩ := own_mask p0 15 4 (by decide) (by decide)
        obtain ⟨j, d⟩ := own_mask (p1 >>> ((2 : Int32) &&& 31)) 3 2 (by decide) (by decide)
        rw [e, d]; exact own_m2 n j
      · rw [if_neg h2, if_neg h2]
        obtain ⟨n, e⟩ := own_mask p0 63 6 (by decide) (by decide)
        rw [e]; exact own_m3 n
set_option maxRecDepth 65536 in
set_option maxHeartbeats 40000000 in
theorem comes_1 {Post : Tables → Env → Array Value → State → Outcome → State → Prop} (hpost : ∀ tb e args s v u, (limb_1_1.after args s (.returned v) u = true ∧ limb_1_2.after args s (.returned v) u = true ∧ True) → FrameEnd s (.returned v) u (Jvm.fieldLocs frame_1_writes args s ++ Jvm.arrayLocs frame_1_arrays args s ++ Jvm.staticLocs frame_1_statics s) 0 0 → Post tb e args s (.returned v) u) :
    ArmFor flags0 classFile x code maxLocals ret World_1 tables_1 room_1 Calls_1 rest_1 Pre_1 Post := by
  intro l hfl _ _ p e ha hc hk s m args below hf hA hF happ hP
  obtain ⟨hcalls, hrest, hpre⟩ := hP
  obtain ⟨-, -, -, hnamed, -, -, -, hat⟩ := (Spec.applies_iff hf).mp happ
  obtain ⟨hg, hn⟩ := and_e (Cond.before_iff.mp (show (Jvm.Cond.and given_1 narrow_1).before args s = true from hpre))
  obtain ⟨g1, g2⟩ := and_e hg
  obtain ⟨g3, g4⟩ := and_e g2
  obtain ⟨w0, w1, rfl⟩ : ∃ w0 w1 : Value, args = #[w0, w1] := by
    have hs : args.size = 2 := by simpa [Cond.value, given_1] using g1
    obtain ⟨L⟩ := args
    match L, hs with
    | [w0, w1], _ => exact ⟨w0, w1, rfl⟩
  have hw := fun d (hd : d ∈ tables_1) => atoms_spec (ws := Jvm.Cond.code x code maxLocals ret :: tables_1) hat d (List.mem_cons_of_mem _ hd)
  have hfit : Fit s := fun {y c} hc i hi => by
    obtain ⟨ha, rfl⟩ := Array.getElem?_eq_some_iff.mp hc
    have q := List.all_eq_true.mp ((Array.all_eq_true_iff_forall_mem.mp hF) _ (Array.getElem_mem ha)) i (List.mem_range.mpr hi)
    simpa [Array.getElem?_eq_getElem hi] using q
  obtain ⟨i0, ei0⟩ := is_v g3
  obtain rfl : w0 = (.int i0) := Option.some.inj ei0
  obtain ⟨i1, ei1⟩ := is_v g4
  obtain rfl : w1 = (.int i1) := Option.some.inj ei1
  obtain ⟨n, o, h1, h2, h3, _, L, rfl, ⟨rfl, N⟩, hq⟩ := rm0 l s _ hw tables_1 i0 i1 s.heap s.heap.size (Nat.le_refl _) p e ha hc hk s m _ below hf ((Spec.applies_iff_loose hf).mp happ).1 ⟨rfl, State.Warmed39.refl s, rfl⟩ trivial
  refine ⟨n, _, h1, h2, h3, hpost _ _ _ _ _ _ ⟨Cond.after_iff.mpr rfl, Cond.after_iff.mpr (eq_i res_at (Term.int_eval (1)) (by rw [own_law i0 i1])), trivial⟩ ⟨hq.1, hq.2.1, (hq.2.2.sift fun y hy => Or.inr (N y hy)).mono (by decide) (by decide)⟩⟩
theorem main_1_1 : Claimed_1_1 := comes_1 fun _ _ _ _ _ _ h hF => ⟨h.1, hF⟩
theorem main_1_2 : Claimed_1_2 := comes_1 fun _ _ _ _ _ _ h hF => ⟨h.2.1, hF⟩
end Jvm.Pilot.@@N@@
namespace Jvm.Pilot.@@N@@
open Jvm Jvm.ClassFile Sem Op Lib Jvm.Free Jvm.Stand Jvm.Pilot.@@N@@.Jvm.D
/-! MADE BY PROGRAM (witnessworld.py) out of the Statement's table words and the real class files: 9 classes; the members and pool entries that the words name. The judged class is class 1, her method 1. -/
namespace start1
open Jvm.ClassFile
def u (s : String) : CpInfo := .utf8 (stringToUtf16 s)
/-- a pool by its gaps: so many unusable entries, then the entry; so many at the end -/
def gap : Nat → List CpInfo → List CpInfo
  | 0, r => r
  | n + 1, r => .unusable :: gap n r
def poolList (es : List (Nat × CpInfo)) (last : Nat) : List CpInfo := es.foldr (fun e r => gap e.1 (e.2 :: r)) (gap last [])
def pool (es : List (Nat × CpInfo)) (last : Nat) : Array CpInfo := ⟨poolList es last⟩
def fileOf (pool : Array CpInfo) (this : Nat) (attrs : Array Attribute := #[]) (ms : Array MethodInfo := #[]) (fl : Nat := 33) (sup : Nat := 0) (ifs : Array Nat := #[]) (fds : Array FieldInfo := #[]) : ClassFile where
  minorVersion := 0
  majorVersion := 65
  constantPool := pool
  accessFlags := fl
  thisClass := this
  superClass := sup
  interfaces := ifs
  fields := fds
  methods := ms
  attributes := attrs
def plain (name : String) (sup : Option ClassId) : Class where
  name := name
  kind := .ordinary
  loader := none
  accessFlags := 33
  super := sup
  interfaces := #[]
  cf := none
  fields := #[]
  methods := #[]
  instanceTypes := #[]
  staticTypes := #[]
  resolved := #[]
  callSites := []
  init := .initialized
  statics := none
  mirror := none

def pool0 : Array CpInfo := pool [(5, u "<init>"), (0, u "()V"), (1, .class_ 10), (1, u "java/lang/Object")] 113

def k0m0 : Method := { name := "<init>", desc := "()V", sig := { parameters := [], returnType := none }, accessFlags := 1, code := none }
/-- java/lang/Object -/
def k0 : Class := { plain "java/lang/Object" none with
  accessFlags := 33
  interfaces := #[]
  cf := some (fileOf pool0 8 #[] #[{ accessFlags := 1, nameIndex := 5, descriptorIndex := 6, attributes := #[] }] 33 0 #[] #[])
  fields := #[]
  methods := #[k0m0]
  instanceTypes := #[]
  staticTypes := #[]
  resolved := Array.replicate 124 none
  statics := none }

def pool1 : Array CpInfo := pool [(2, .class_ 4), (1, u "java/lang/Object"), (0, u "<init>"), (0, u "()V"), (0, .methodref 8 9), (0, .class_ 10), (0, .nameAndType 11 12), (0, u "com/example/sealwax/sealwax/PacketHeader"), (0, u "tag"), (0, u "(I)I"), (0, .class_ 14), (0, u "com/example/sealwax/sealwax/PacketHeaderTagPinLaw"), (2, u "law"), (0, u "(II)Z")] 3

def k1m0 : Method := { name := "<init>", desc := "()V", sig := { parameters := [], returnType := none }, accessFlags := 1, code := none }
def k1c1 : Code := { maxStack := 3, maxLocals := 7, code := code, exceptionTable := #[], attributes := #[] }
def k1m1 : Method := { name := "law", desc := "(II)Z", sig := { parameters := [.int, .int], returnType := some .boolean }, accessFlags := 9, code := some k1c1 }
/-- com/example/sealwax/sealwax/PacketHeaderTagPinLaw -/
def k1 : Class := { plain "com/example/sealwax/sealwax/PacketHeaderTagPinLaw" (some 0) with
  accessFlags := 49
  interfaces := #[]
  cf := some (fileOf pool1 13 #[] #[{ accessFlags := 1, nameIndex := 5, descriptorIndex := 6, attributes := #[] }, { accessFlags := 9, nameIndex := 17, descriptorIndex := 18, attributes := #[] }] 49 2 #[] #[])
  fields := #[]
  methods := #[k1m0, k1m1]
  instanceTypes := #[]
  staticTypes := #[]
  resolved := Array.replicate 22 none
  statics := none }

def pool2 : Array CpInfo := pool [(2, .class_ 4), (1, u "java/lang/Object"), (3, .class_ 10), (1, u "com/example/sealwax/sealwax/PacketHeader"), (0, u "tag"), (0, u "I"), (2, u "newFormat"), (0, u "Z"), (2, u "length"), (0, u "J"), (2, u "partial"), (8, u "(I)I"), (46, u "TAG_PUBLIC_KEY_ENCRYPTED_SESSION_KEY"), (2, u "TAG_SIGNATURE"), (1, u "TAG_SYMMETRIC_KEY_ENCRYPTED_SESSION_KEY"), (1, u "TAG_ONE_PASS_SIGNATURE"), (1, u "TAG_SECRET_KEY"), (1, u "TAG_PUBLIC_KEY"), (1, u "TAG_SECRET_SUBKEY"), (1, u "TAG_COMPRESSED_DATA"), (1, u "TAG_SYMMETRICALLY_ENCRYPTED_DATA"), (1, u "TAG_MARKER"), (1, u "TAG_LITERAL_DATA"), (1, u "TAG_TRUST"), (1, u "TAG_USER_ID"), (1, u "TAG_PUBLIC_SUBKEY"), (1, u "TAG_USER_ATTRIBUTE"), (1, u "TAG_INTEGRITY_PROTECTED_DATA"), (1, u "INDETERMINATE"), (0, u "TRUNCATED"), (0, u "Ljava/lang/String;")] 16

def k2c0 : Code := { maxStack := 2, maxLocals := 1, code := prog_31_method_2_code, exceptionTable := #[], attributes := #[] }
def k2m0 : Method := { name := "tag", desc := "(I)I", sig := { parameters := [.int], returnType := some .int }, accessFlags := 8, code := some k2c0 }
/-- com/example/sealwax/sealwax/PacketHeader -/
def k2 : Class := { plain "com/example/sealwax/sealwax/PacketHeader" (some 0) with
  accessFlags := 48
  interfaces := #[]
  cf := some (fileOf pool2 8 #[] #[{ accessFlags := 8, nameIndex := 11, descriptorIndex := 32, attributes := #[] }] 48 2 #[] #[{ accessFlags := 24, nameIndex := 79, descriptorIndex := 12, attributes := #[] }, { accessFlags := 24, nameIndex := 82, descriptorIndex := 12, attributes := #[] }, { accessFlags := 24, nameIndex := 84, descriptorIndex := 12, attributes := #[] }, { accessFlags := 24, nameIndex := 86, descriptorIndex := 12, attributes := #[] }, { accessFlags := 24, nameIndex := 88, descriptorIndex := 12, attributes := #[] }, { accessFlags := 24, nameIndex := 90, descriptorIndex := 12, attributes := #[] }, { accessFlags := 24, nameIndex := 92, descriptorIndex := 12, attributes := #[] }, { accessFlags := 24, nameIndex := 94, descriptorIndex := 12, attributes := #[] }, { accessFlags := 24, nameIndex := 96, descriptorIndex := 12, attributes := #[] }, { accessFlags := 24, nameIndex := 98, descriptorIndex := 12, attributes := #[] }, { accessFlags := 24, nameIndex := 100, descriptorIndex := 12, attributes := #[] }, { accessFlags := 24, nameIndex := 102, descriptorIndex := 12, attributes := #[] }, { accessFlags := 24, nameIndex := 104, descriptorIndex := 12, attributes := #[] }, { accessFlags := 24, nameIndex := 106, descriptorIndex := 12, attributes := #[] }, { accessFlags := 24, nameIndex := 108, descriptorIndex := 12, attributes := #[] }, { accessFlags := 24, nameIndex := 110, descriptorIndex := 12, attributes := #[] }, { accessFlags := 24, nameIndex := 112, descriptorIndex := 20, attributes := #[] }, { accessFlags := 26, nameIndex := 113, descriptorIndex := 114, attributes := #[] }, { accessFlags := 18, nameIndex := 11, descriptorIndex := 12, attributes := #[] }, { accessFlags := 18, nameIndex := 15, descriptorIndex := 16, attributes := #[] }, { accessFlags := 18, nameIndex := 19, descriptorIndex := 20, attributes := #[] }, { accessFlags := 18, nameIndex := 23, descriptorIndex := 16, attributes := #[] }])
  fields := #[{ name := "TAG_PUBLIC_KEY_ENCRYPTED_SESSION_KEY", type := .int, accessFlags := 24, slot := 0, constantValue := 0 }, { name := "TAG_SIGNATURE", type := .int, accessFlags := 24, slot := 1, constantValue := 0 }, { name := "TAG_SYMMETRIC_KEY_ENCRYPTED_SESSION_KEY", type := .int, accessFlags := 24, slot := 2, constantValue := 0 }, { name := "TAG_ONE_PASS_SIGNATURE", type := .int, accessFlags := 24, slot := 3, constantValue := 0 }, { name := "TAG_SECRET_KEY", type := .int, accessFlags := 24, slot := 4, constantValue := 0 }, { name := "TAG_PUBLIC_KEY", type := .int, accessFlags := 24, slot := 5, constantValue := 0 }, { name := "TAG_SECRET_SUBKEY", type := .int, accessFlags := 24, slot := 6, constantValue := 0 }, { name := "TAG_COMPRESSED_DATA", type := .int, accessFlags := 24, slot := 7, constantValue := 0 }, { name := "TAG_SYMMETRICALLY_ENCRYPTED_DATA", type := .int, accessFlags := 24, slot := 8, constantValue := 0 }, { name := "TAG_MARKER", type := .int, accessFlags := 24, slot := 9, constantValue := 0 }, { name := "TAG_LITERAL_DATA", type := .int, accessFlags := 24, slot := 10, constantValue := 0 }, { name := "TAG_TRUST", type := .int, accessFlags := 24, slot := 11, constantValue := 0 }, { name := "TAG_USER_ID", type := .int, accessFlags := 24, slot := 12, constantValue := 0 }, { name := "TAG_PUBLIC_SUBKEY", type := .int, accessFlags := 24, slot := 13, constantValue := 0 }, { name := "TAG_USER_ATTRIBUTE", type := .int, accessFlags := 24, slot := 14, constantValue := 0 }, { name := "TAG_INTEGRITY_PROTECTED_DATA", type := .int, accessFlags := 24, slot := 15, constantValue := 0 }, { name := "INDETERMINATE", type := .long, accessFlags := 24, slot := 16, constantValue := 0 }, { name := "TRUNCATED", type := (.object "java/lang/String"), accessFlags := 26, slot := 17, constantValue := 0 }, { name := "tag", type := .int, accessFlags := 18, slot := 0, constantValue := 0 }, { name := "newFormat", type := .boolean, accessFlags := 18, slot := 1, constantValue := 0 }, { name := "length", type := .long, accessFlags := 18, slot := 2, constantValue := 0 }, { name := "partial", type := .boolean, accessFlags := 18, slot := 3, constantValue := 0 }]
  methods := #[k2m0]
  instanceTypes := #[.int, .boolean, .long, .boolean]
  staticTypes := #[.int, .int, .int, .int, .int, .int, .int, .int, .int, .int, .int, .int, .int, .int, .int, .int, .long, (.object "java/lang/String")]
  resolved := Array.replicate 131 none
  statics := none }

def pool3 : Array CpInfo := pool [(1, u "java/lang/Cloneable"), (0, .class_ 1), (0, u "java/lang/Object"), (0, .class_ 3)] 3

/-- java/lang/Cloneable -/
def k3 : Class := { plain "java/lang/Cloneable" (some 0) with
  accessFlags := 1537
  interfaces := #[]
  cf := some (fileOf pool3 2 #[] #[] 1537 4 #[] #[])
  fields := #[]
  methods := #[]
  instanceTypes := #[]
  staticTypes := #[]
  resolved := Array.replicate 8 none
  statics := none }

def pool4 : Array CpInfo := pool [(1, u "java/io/Serializable"), (0, .class_ 1), (0, u "java/lang/Object"), (0, .class_ 3)] 3

/-- java/io/Serializable -/
def k4 : Class := { plain "java/io/Serializable" (some 0) with
  accessFlags := 1537
  interfaces := #[]
  cf := some (fileOf pool4 2 #[] #[] 1537 4 #[] #[])
  fields := #[]
  methods := #[]
  instanceTypes := #[]
  staticTypes := #[]
  resolved := Array.replicate 8 none
  statics := none }

/-- the primitive byte -/
def k5 : Class := { plain "byte" none with kind := .primitive 'B', accessFlags := 0x411 }
/-- [B -/
def k6 : Class := { plain "[B" (some 0) with kind := .array 5 .byte, interfaces := #[3, 4], accessFlags := 1041 }

/-- the primitive int -/
def k7 : Class := { plain "int" none with kind := .primitive 'I', accessFlags := 0x411 }
/-- [I -/
def k8 : Class := { plain "[I" (some 0) with kind := .array 7 .int, interfaces := #[3, 4], accessFlags := 1041 }

def heap : Heap := #[]
def classes : Array Class := #[k0, k1, k2, k3, k4, k5, k6, k7, k8]
def interned : List (Array UInt16 × Addr) := []
def slotsUsed : Nat := 0
def theMethod : MethodId := ⟨1, 1⟩
def args0 : Array Value := #[.int 5, .int 5]
def aboutOver (below : List Frame) : State where
  vm := { classes := classes, interned := interned.toArray }
  heap := heap
  slotsUsed := slotsUsed
  threads := #[{ frames := .invoking theMethod args0 :: below }]
def below0 : List Frame := [.native { method := ⟨0, 0⟩, args := #[] }]
def about1 : State := aboutOver below0
def p0 : Program := .bare "" "" ""
def e0 : Env := launch0.env 0 0 0
theorem w_frames : about1.frames = Frame.invoking theMethod args0 :: below0 := rfl
set_option maxRecDepth 65536 in
theorem w_args : argsFit about1.vm theMethod args0 = true := by decide +kernel
set_option maxRecDepth 65536 in
theorem w_heap : heapFits about1 = true := by decide +kernel
set_option maxRecDepth 65536 in
theorem w_runnable : about1.curStatus? = some .runnable := by decide +kernel
set_option maxRecDepth 65536 in
theorem w_alone : about1.alone = true := by decide +kernel
set_option maxRecDepth 65536 in
theorem w_named : about1.methodNamed? x = some theMethod := by decide +kernel
set_option maxRecDepth 65536 in
theorem w_hears : about1.hears theMethod below0 = true := by decide +kernel
set_option maxRecDepth 65536 in
theorem w_ripe : about1.ripe theMethod args0 below0 = true := by decide +kernel
theorem w_running : about1.status = .running := rfl
set_option maxRecDepth 65536 in
theorem w_room : about1.hasRoom e0.platform room_1 = true :=
  launch0.hasRoom_least _ room_1 (by decide +kernel) (by decide +kernel) (by decide +kernel) (by decide +kernel) (by decide +kernel) (by decide +kernel)
theorem allAtoms_all (ts : List Jvm.Cond) (a : Array Jvm.Value) (st : Jvm.State) : (allAtoms ts).before a st = ts.all (fun c => c.before a st) := by
  induction ts with
  | nil => rfl
  | cons c t ih =>
    show (Jvm.Cond.and c (allAtoms t)).before a st = _
    rw [Jvm.Cond.before_and, ih, List.all_cons]
def words1 : List Jvm.Cond := Jvm.Cond.code x code maxLocals ret :: tables_1
/-- a 'code' word, met by the world's own term for the bytes: nothing is compared byte by byte -/
theorem code_word {y : MethodName} {bytes : ByteArray} {mx : Nat} {rt : Option FieldType} {a : Array Value} {s : State} {m : MethodId} {meth : Method} {c : Code} (h1 : s.methodNamed? y = some m) (h2 : s.vm.method? m = some meth) (h3 : meth.code = some c) (h4 : c.code = bytes)
    (h5 : (c.maxLocals == mx && c.exceptionTable.isEmpty && decide (c.maxStack ≤ mostOperands) && decide (meth.sig.returnType = rt) && !meth.locks && decide (parseMethodDescriptor y.desc = some meth.sig)) = true) : (Jvm.Cond.code y bytes mx rt).before a s = true := by
  simp only [Bool.and_eq_true, beq_iff_eq, Bool.not_eq_true', decide_eq_true_eq] at h5
  obtain ⟨⟨⟨⟨⟨g1, g2⟩, g3⟩, g4⟩, g5⟩, g6⟩ := h5
  simp [Cond.before, Cond.holds, Cond.value, h1, h2, h3, h4, g1, g2, g3, g4, g5, g6]
def isCode : Jvm.Cond → Bool
  | .code _ _ _ _ => true
  | _ => false
theorem all_split {L : List Jvm.Cond} {P : Jvm.Cond → Bool} (h1 : L.all (fun c => isCode c || P c) = true) (h2 : ∀ c ∈ L.filter isCode, P c = true) : L.all P = true := by
  refine List.all_eq_true.mpr fun c hc => ?_
  have h := List.all_eq_true.mp h1 c hc
  rcases Bool.eq_false_or_eq_true (isCode c) with hi | hi
  · exact h2 c (List.mem_filter.mpr ⟨hc, hi⟩)
  · simpa [hi] using h
set_option maxRecDepth 65536 in
theorem w_c0 : (Jvm.Cond.code x code maxLocals ret).before args0 about1 = true := code_word (m := ⟨1, 1⟩) (meth := k1m1) (c := k1c1) (by decide +kernel) rfl rfl rfl (by decide +kernel)
set_option maxRecDepth 65536 in
theorem w_c1 : (Jvm.Cond.code ({ cls := "com/example/sealwax/sealwax/PacketHeader", name := "tag", desc := "(I)I" } : Jvm.MethodName) prog_31_method_2_code (1 : Nat) (Option.some Jvm.ClassFile.FieldType.int)).before args0 about1 = true := code_word (m := ⟨2, 0⟩) (meth := k2m0) (c := k2c0) (by decide +kernel) rfl rfl rfl (by decide +kernel)
def codes1 : List Jvm.Cond := [Jvm.Cond.code x code maxLocals ret, Jvm.Cond.code ({ cls := "com/example/sealwax/sealwax/PacketHeader", name := "tag", desc := "(I)I" } : Jvm.MethodName) prog_31_method_2_code (1 : Nat) (Option.some Jvm.ClassFile.FieldType.int)]
set_option maxRecDepth 65536 in
theorem codes_eq : words1.filter isCode = codes1 := rfl
theorem w_codes : ∀ c ∈ words1.filter isCode, c.before args0 about1 = true := by
  rw [codes_eq]
  intro c hc
  simp only [codes1, List.mem_cons, List.not_mem_nil, or_false] at hc
  rcases hc with rfl | rfl
  · exact w_c0
  · exact w_c1
set_option maxRecDepth 65536 in
theorem w_t1 : words1.all (fun c => isCode c || c.before args0 about1) = true := by decide +kernel
theorem w_tables : (allAtoms (Jvm.Cond.code x code maxLocals ret :: tables_1)).before args0 about1 = true := by
  rw [allAtoms_all]
  show words1.all (fun c => c.before args0 about1) = true
  refine all_split ?_ w_codes
  rw [w_t1]
set_option maxRecDepth 65536 in
theorem w_case : (Jvm.Cond.and given_1 narrow_1).before args0 about1 = true := by decide +kernel
theorem w_applies : (headSpec (Jvm.Cond.code x code maxLocals ret :: tables_1) room_1).applies x e0.platform about1 = true :=
  (Spec.applies_iff w_frames).mpr ⟨w_running, w_runnable, w_alone, w_named, w_hears, w_ripe, w_room, w_tables⟩
theorem atStart : AtStart classFile x code maxLocals ret World_1 tables_1 room_1 Calls_1 rest_1 Pre_1 launch0 p0 e0 about1 theMethod args0 below0 :=
  ⟨lists_1, trivial, launch0.admits_env _ _ _, launch0.least_env, fairChoices_fair.cas, fairChoices_fair.clock, w_frames, w_args, w_heap, w_applies, trivial, trivial, w_case⟩
end start1
theorem witness_1 : WitnessClaimed_1 := ⟨start1.p0, start1.e0, start1.about1, start1.theMethod, start1.args0, start1.below0, start1.atStart⟩
end Jvm.Pilot.@@N@@

import JvmDerived
import JvmDerived.Pilot.@@N@@Statement
import JvmDerived.Pilot.@@N@@Code
set_option linter.unusedVariables false
set_option linter.unusedSimpArgs false
namespace Jvm.RoadKit
open Sem ClassFile Op Lib Jvm.Stand Jvm.Free Jvm.LawKit
section New
variable {p : Program} {l : Launch} {e : Env} {R : Room} {s : State} {m : MethodId} {args : Array Value} {below : List Frame} {meth : Method} {c : Code} {T : State} {locs : List Loc} {cells slots : Nat}
theorem retI (X : Stand p l e R s m args below meth c T locs cells slots) (hx : p.tables.exec = Jvm.exec) {pc : Nat} {Ls : Array Slot} {z : Int32} {rest : List Value} (hret : meth.sig.returnType = some .int) (hd : decode c.code pc = .ok (.ireturn, 1)) {fs : List Frame}
    (hl : ∀ (f : JFrame) (acts : List Action), f.method = m → f.locked = none → f.entered = [] → (doReturn e (T.setTop f) acts (some (.int z))).1 = T.setFrames fs) : Steps p.tables e below (T.setTop (mkF m pc Ls (.int z :: rest))) (T.setFrames fs) := by
  have hm' : T.vm.method? m = some meth := X.method'
  have hn : narrow .int (.int z) = .int z := rfl
  show Steps p.tables e below (T.setTop { method := m, pc := pc, locals := Ls, stack := _ :: rest, locked := none }) _
  jvm_step X.here [X.here.top, hx, hd, hm', hret, hn]
  first | (intro acts; rw [hl _ acts rfl rfl rfl]) | rw [hl _ _ rfl rfl rfl]
  exact Steps.refl _
end New
end Jvm.RoadKit
namespace Jvm.Pilot.@@N@@
open Jvm Jvm.ClassFile Sem Op Lib Jvm.Free Jvm.Stand Jvm.LawKit Jvm.RoadKit Bundle Jvm.Pilot.@@N@@.Jvm.D
theorem pn_0 : plainName "java/lang/StringLatin1" = true := by first | (simp [plainName, overriddenIn]; done) | decide +kernel
theorem d2_0 : decode jdk_43_method_3_code 0 = .ok (.iload_n 0, 1) := by decide +kernel
theorem d2_1 : decode jdk_43_method_3_code 1 = .ok (.sipush 255, 3) := by decide +kernel
theorem d2_4 : decode jdk_43_method_3_code 4 = .ok (.if_icmp .gt 7, 3) := by decide +kernel
theorem d2_7 : decode jdk_43_method_3_code 7 = .ok (.iconst 1, 1) := by decide +kernel
theorem d2_8 : decode jdk_43_method_3_code 8 = .ok (.goto 4, 3) := by decide +kernel
theorem d2_11 : decode jdk_43_method_3_code 11 = .ok (.iconst 0, 1) := by decide +kernel
theorem d2_12 : decode jdk_43_method_3_code 12 = .ok (.ireturn, 1) := by decide +kernel
theorem ef_2 (m : MethodId) (x0 : Int32) : entryFrame m #[(.int x0)] 1 = mkF m 0 #[.val (.int x0)] [] := by first | (simp [entryFrame, mkF, argsToLocals, Value.category]; done) | rfl
def f2 (p0 : Int32) : Int32 := (if (255 : Int32) < p0 then (0 : Int32) else (1 : Int32))
def Q2 (Z : State) (p0 : Int32) (h0 : Heap) (n0 : Nat) (v : Option Value) (h : Heap) (L : List Loc) : Prop := v = some (.int (f2 p0)) ∧ Fr n0 L ∧ h = h0
set_option maxRecDepth 65536 in
set_option maxHeartbeats 40000000 in
theorem rm2 (l : Launch) (Z : State) (a0 : Array Value) (hw : ∀ d ∈ tables_1, d.before a0 Z = true) (ws : List Jvm.Cond) (p0 : Int32) (h0 : Heap) (n0 : Nat) (Z0 : n0 ≤ h0.size)  :
    MetFree l (⟨"java/lang/StringLatin1", "canEncode", "(C)Z"⟩ : MethodName) (head1 (Jvm.Cond.code (⟨"java/lang/StringLatin1", "canEncode", "(C)Z"⟩ : MethodName) jdk_43_method_3_code 1 (some .boolean) :: ws) ({ frames := 0, cells := 0, slots := 0, locals := 0 } : Room)) (fun a U => a = #[(.int p0)] ∧ Z.Warmed39 U.vm ∧ U.heap = h0) (fun _ _ _ _ _ => True) (fun _ U o U' => ∃ v L, o = .returned v ∧ Q2 Z p0 h0 n0 v U'.heap L ∧ FrameEnd U o U' L ({ frames := 0, cells := 0, slots := 0, locals := 0 } : Room).cells ({ frames := 0, cells := 0, slots := 0, locals := 0 } : Room).slots) := by
  refine MetFree.of_bodySF (plainFor_of_name pn_0) hisR ?_
  intro p e s m args below meth c s₁ Bd hml0 hP hK
  obtain ⟨rfl, hZ, hh⟩ := hP
  have hx := Bd.exec
  have hby := Bd.bytes
  have hml : c.maxLocals = 1 := hml0
  have hown : s.vm.findClass "java/lang/StringLatin1" = some m.cls := findClass_of_methodNamed Bd.named
  have hnm := (name_of_methodNamed Bd.named Bd.method).1
  have X0 : Stand p l e ({ frames := 0, cells := 0, slots := 0, locals := 0 } : Room) s m #[(.int p0)] below meth c s₁ [] 0 0 := Stand.of_body Bd
  have e0 : s₁.heap = h0 := by rw [← hh, Bd.state]; rfl
  have N0 := Fr.nil n0
  have K0 := Keep.refl h0 []
  have pre0 : ∀ t, Steps p.tables e below (s₁.setTop (mkF m 0 #[.val (.int p0)] [])) t → Steps p.tables e below (s₁.setTop (entryFrame m #[(.int p0)] 1)) t := fun t k => castTop (ef_2 m p0) k
  have pre1 : ∀ t, Steps p.tables e below (s₁.setTop (mkF m 4 #[.val (.int p0)] [(.int (255 : Int32)), (.int p0)])) t → Steps p.tables e below (s₁.setTop (entryFrame m #[(.int p0)] 1)) t := fun t kt => pre0 t (by
    show Steps p.tables e below (s₁.setTop (mkF m 0 #[.val (.int p0)] [])) _
    refine XS.iloadN X0.here hx rfl (hb hby d2_0) rfl ?_
    show Steps p.tables e below (s₁.setTop (mkF m 1 #[.val (.int p0)] [(.int p0)])) _
    refine XS.sipush X0.here hx rfl (hb hby d2_1) ?_
    exact kt)
  by_cases hc2 : (255 : Int32) < p0
  · obtain ⟨fs, hr, hrun, hended, hW, hsame⟩ := X0.leave (v := some (.int (0 : Int32))) (fun h => by rw [Bd.returns] at h; cases h)
    refine ⟨_, _, pre1 _ ?_, hrun, hended, _, _, rfl, ?_, ⟨_, rfl⟩, hW, hsame.mono (by decide) (by decide)⟩
    · show Steps p.tables e below (s₁.setTop (mkF m 4 #[.val (.int p0)] [(.int (255 : Int32)), (.int p0)])) _
      refine XS.icmpYes X0.here hx rfl (pc0 := 4) (pc' := 11) rfl (hb hby d2_4) rfl (tlt hc2).2.2.1 (by decide) (by decide) ?_
      show Steps p.tables e below (s₁.setTop (mkF m 11 #[.val (.int p0)] [])) _
      refine XS.iconst X0.here hx rfl (hb hby d2_11) ?_
      show Steps p.tables e below (s₁.setTop (mkF m 12 #[.val (.int p0)] [(.int (0 : Int32))])) _
      exact retN X0 hx (t := .boolean) Bd.returns (by simp) (hb hby d2_12) hr
    · show Q2 Z p0 h0 n0 _ s₁.heap _
      rw [e0]
      exact ⟨by rw [show f2 p0 = (0 : Int32) from by unfold f2; rw [if_pos hc2]], N0, rfl⟩
  · obtain ⟨fs, hr, hrun, hended, hW, hsame⟩ := X0.leave (v := some (.int (1 : Int32))) (fun h => by rw [Bd.returns] at h; cases h)
    refine ⟨_, _, pre1 _ ?_, hrun, hended, _, _, rfl, ?_, ⟨_, rfl⟩, hW, hsame.mono (by decide) (by decide)⟩
    · show Steps p.tables e below (s₁.setTop (mkF m 4 #[.val (.int p0)] [(.int (255 : Int32)), (.int p0)])) _
      refine XS.icmpNo X0.here hx rfl (hb hby d2_4) rfl (flt hc2).2.2.1 ?_
      show Steps p.tables e below (s₁.setTop (mkF m 7 #[.val (.int p0)] [])) _
      refine XS.iconst X0.here hx rfl (hb hby d2_7) ?_
      show Steps p.tables e below (s₁.setTop (mkF m 8 #[.val (.int p0)] [(.int (1 : Int32))])) _
      refine XS.goto X0.here hx rfl (pc0 := 8) (pc' := 12) rfl (hb hby d2_8) (by decide) (by decide) ?_
      show Steps p.tables e below (s₁.setTop (mkF m 12 #[.val (.int p0)] [(.int (1 : Int32))])) _
      exact retN X0 hx (t := .boolean) Bd.returns (by simp) (hb hby d2_12) hr
    · show Q2 Z p0 h0 n0 _ s₁.heap _
      rw [e0]
      exact ⟨by rw [show f2 p0 = (1 : Int32) from by unfold f2; rw [if_neg hc2]], N0, rfl⟩
theorem d3_0 : decode jdk_43_method_46_code 0 = .ok (.iconst 1, 1) := by decide +kernel
theorem d3_1 : decode jdk_43_method_46_code 1 = .ok (.newarray .byte, 2) := by decide +kernel
theorem d3_3 : decode jdk_43_method_46_code 3 = .ok (.dup, 1) := by decide +kernel
theorem d3_4 : decode jdk_43_method_46_code 4 = .ok (.iconst 0, 1) := by decide +kernel
theorem d3_5 : decode jdk_43_method_46_code 5 = .ok (.iload_n 0, 1) := by decide +kernel
theorem d3_6 : decode jdk_43_method_46_code 6 = .ok (.i2b, 1) := by decide +kernel
theorem d3_7 : decode jdk_43_method_46_code 7 = .ok (.bastore, 1) := by decide +kernel
theorem d3_8 : decode jdk_43_method_46_code 8 = .ok (.areturn, 1) := by decide +kernel
theorem ef_3 (m : MethodId) (x0 : Int32) : entryFrame m #[(.int x0)] 1 = mkF m 0 #[.val (.int x0)] [] := by first | (simp [entryFrame, mkF, argsToLocals, Value.category]; done) | rfl
def Q3 (Z : State) (p0 : Int32) (h0 : Heap) (n0 : Nat) (v : Option Value) (h : Heap) (L : List Loc) : Prop := ∃ b : Addr, v = some (.ref b) ∧ Fr n0 L ∧ Keep h0 h [] ∧ h0.size ≤ b
set_option maxRecDepth 65536 in
set_option maxHeartbeats 40000000 in
theorem rm3 (l : Launch) (Z : State) (a0 : Array Value) (hw : ∀ d ∈ tables_1, d.before a0 Z = true) (ws : List Jvm.Cond) (p0 : Int32) (h0 : Heap) (n0 : Nat) (Z0 : n0 ≤ h0.size)  :
    MetFree l (⟨"java/lang/StringLatin1", "toBytes", "(C)[B"⟩ : MethodName) (head1 (Jvm.Cond.code (⟨"java/lang/StringLatin1", "toBytes", "(C)[B"⟩ : MethodName) jdk_43_method_46_code 1 (some (.array .byte)) :: ws) ({ frames := 0, cells := 1, slots := 1, locals := 0 } : Room)) (fun a U => a = #[(.int p0)] ∧ Z.Warmed39 U.vm ∧ U.heap = h0) (fun _ _ _ _ _ => True) (fun _ U o U' => ∃ v L, o = .returned v ∧ Q3 Z p0 h0 n0 v U'.heap L ∧ FrameEnd U o U' L ({ frames := 0, cells := 1, slots := 1, locals := 0 } : Room).cells ({ frames := 0, cells := 1, slots := 1, locals := 0 } : Room).slots) := by
  refine MetFree.of_bodySF (plainFor_of_name pn_0) hisR ?_
  intro p e s m args below meth c s₁ Bd hml0 hP hK
  obtain ⟨rfl, hZ, hh⟩ := hP
  have hx := Bd.exec
  have hby := Bd.bytes
  have hml : c.maxLocals = 1 := hml0
  have hown : s.vm.findClass "java/lang/StringLatin1" = some m.cls := findClass_of_methodNamed Bd.named
  have hnm := (name_of_methodNamed Bd.named Bd.method).1
  have X0 : Stand p l e ({ frames := 0, cells := 1, slots := 1, locals := 0 } : Room) s m #[(.int p0)] below meth c s₁ [] 0 0 := Stand.of_body Bd
  have e0 : s₁.heap = h0 := by rw [← hh, Bd.state]; rfl
  have N0 := Fr.nil n0
  have K0 := Keep.refl h0 []
  have pre0 : ∀ t, Steps p.tables e below (s₁.setTop (mkF m 0 #[.val (.int p0)] [])) t → Steps p.tables e below (s₁.setTop (entryFrame m #[(.int p0)] 1)) t := fun t k => castTop (ef_3 m p0) k
  obtain ⟨T1, h1, k1, X1, e1, E1, A1, st1⟩ := newP X0 hx hZ (hw _ (List.mem_of_getElem? (i := 17) rfl)) e0 (g := (mkF m 1 #[.val (.int p0)] [(.int (1 : Int32))])) rfl (hb hby d3_1) rfl (by decide) (cap := 1) (by decide) (by decide) (by decide) (by decide)
  obtain ⟨b1, g1⟩ : ∃ z, z = h0.size := ⟨_, rfl⟩
  rw [← g1] at A1 st1
  have gn_b1 : n0 ≤ b1 := Nat.le_trans Z0 (Nat.le_of_eq g1.symm)
  have sz_b1 : h0.size ≤ b1 := Nat.le_trans K0.1 (Nat.le_of_eq g1.symm)
  have Zz1 := Nat.le_trans Z0 E1.1
  have K1 := K0.ext E1
  have V_b1 : Arv Z h1 b1 k1 .byte (1 : Int32) [(.int (0 : Int32))] (.int (0 : Int32)) := (Arv.new A1 (by decide)).pad (pad_rep [] (.int (0 : Int32)) 1)
  obtain ⟨cl2, Ar2, q2, S2, N2_, H2, G2⟩ := V_b1
  have hin2 : ¬ ((0 : Int32) < 0 ∨ cl2.slots.size ≤ ((0 : Int32)).toNatClampNeg) := inb_of S2 ⟨by decide, by decide⟩
  obtain ⟨T2, h2, X2, e2, W2, st2⟩ := stB X1 hx hZ e1 Ar2 (j := (0 : Int32)) hin2 (g := (mkF m 7 #[.val (.int p0)] [(.int (p0.toInt8.toInt32)), (.int (0 : Int32)), (.ref b1), (.ref b1)])) rfl rfl (hb hby d3_7)
  have V_b1_2 : Arv Z h2 b1 k1 .byte (1 : Int32) [(.int ((p0.toInt8.toInt32).toInt8.toInt32))] (.int (0 : Int32)) := Arv.set Ar2 q2 S2 N2_ H2 G2 (fits_nar_byte _) W2 0 rfl (Nat.le_of_ble_eq_true rfl)
  have N2 := Fr.snoc X2 N0 gn_b1
  have Zz2 := Nat.le_trans Zz1 (Keep.of_wr W2).1
  have K2 : Keep h0 h2 [] := K1.wr W2 (Or.inr sz_b1)
  obtain ⟨fs, hr, hrun, hended, hW, hsame⟩ := X2.leave (v := some (.ref b1)) (fun h => by rw [Bd.returns] at h; cases h)
  refine ⟨_, _, pre0 _ ?_, hrun, hended, _, _, rfl, ?_, ⟨_, rfl⟩, hW, hsame.mono (by decide) (by decide)⟩
  · show Steps p.tables e below (s₁.setTop (mkF m 0 #[.val (.int p0)] [])) _
    refine XS.iconst X0.here hx rfl (hb hby d3_0) ?_
    show Steps p.tables e below (s₁.setTop (mkF m 1 #[.val (.int p0)] [(.int (1 : Int32))])) _
    refine st1 _ ?_
    show Steps p.tables e below (T1.setTop (mkF m 3 #[.val (.int p0)] [(.ref b1)])) _
    refine XS.dup X1.here hx rfl (hb hby d3_3) rfl rfl ?_
    show Steps p.tables e below (T1.setTop (mkF m 4 #[.val (.int p0)] [(.ref b1), (.ref b1)])) _
    refine XS.iconst X1.here hx rfl (hb hby d3_4) ?_
    show Steps p.tables e below (T1.setTop (mkF m 5 #[.val (.int p0)] [(.int (0 : Int32)), (.ref b1), (.ref b1)])) _
    refine XS.iloadN X1.here hx rfl (hb hby d3_5) rfl ?_
    show Steps p.tables e below (T1.setTop (mkF m 6 #[.val (.int p0)] [(.int p0), (.int (0 : Int32)), (.ref b1), (.ref b1)])) _
    refine XS.i2b X1.here hx rfl (hb hby d3_6) rfl ?_
    show Steps p.tables e below (T1.setTop (mkF m 7 #[.val (.int p0)] [(.int (p0.toInt8.toInt32)), (.int (0 : Int32)), (.ref b1), (.ref b1)])) _
    refine st2 _ ?_
    show Steps p.tables e below (T2.setTop (mkF m 8 #[.val (.int p0)] [(.ref b1)])) _
    jvm_step X2.here [X2.here.top, hx, (hb hby d3_8), X2.method', Bd.returns, Value.isRef, FieldType.isReference]
    first | (intro acts; rw [hr _ acts rfl rfl rfl]) | rw [hr _ _ rfl rfl rfl]
    exact Steps.refl _
  · show Q3 Z p0 h0 n0 _ T2.heap _
    rw [e2]
    exact ⟨b1, rfl, N2, K2, sz_b1⟩
theorem pn_1 : plainName "java/lang/String" = true := by first | (simp [plainName, overriddenIn]; done) | decide +kernel
theorem d4_0 : decode jdk_42_method_151_code 0 = .ok (.aload_n 0, 1) := by decide +kernel
theorem d4_1 : decode jdk_42_method_151_code 1 = .ok (.invokespecial 1, 3) := by decide +kernel
theorem d4_4 : decode jdk_42_method_151_code 4 = .ok (.aload_n 0, 1) := by decide +kernel
theorem d4_5 : decode jdk_42_method_151_code 5 = .ok (.aload_n 1, 1) := by decide +kernel
theorem d4_6 : decode jdk_42_method_151_code 6 = .ok (.putfield 9, 3) := by decide +kernel
theorem d4_9 : decode jdk_42_method_151_code 9 = .ok (.aload_n 0, 1) := by decide +kernel
theorem d4_10 : decode jdk_42_method_151_code 10 = .ok (.iload_n 2, 1) := by decide +kernel
theorem d4_11 : decode jdk_42_method_151_code 11 = .ok (.putfield 15, 3) := by decide +kernel
theorem d4_14 : decode jdk_42_method_151_code 14 = .ok (.return_, 1) := by decide +kernel
theorem ef_4 (m : MethodId) (x0 : Addr) (x1 : Addr) (x2 : Int32) : entryFrame m #[(.ref x0), (.ref x1), (.int x2)] 3 = mkF m 0 #[.val (.ref x0), .val (.ref x1), .val (.int x2)] [] := by first | (simp [entryFrame, mkF, argsToLocals, Value.category]; done) | rfl
def Q4 (Z : State) (a0t : Addr) (r0 : Addr) (p1 : Int32) (w_value : Value) (w_coder : Int32) (h0 : Heap) (n0 : Nat) (v : Option Value) (h : Heap) (L : List Loc) : Prop := v = none ∧ Fr n0 L ∧ Keep h0 h [a0t] ∧ Exa Z h a0t "java/lang/String"
set_option maxRecDepth 65536 in
set_option maxHeartbeats 40000000 in
theorem rm4 (l : Launch) (Z : State) (a0 : Array Value) (hw : ∀ d ∈ tables_1, d.before a0 Z = true) (ws : List Jvm.Cond) (a0t : Addr) (r0 : Addr) (p1 : Int32) (w_value : Value) (w_coder : Int32) (h0 : Heap) (n0 : Nat) (Z0 : n0 ≤ h0.size) (E_this : Exa Z h0 a0t "java/lang/String") (g_this : n0 ≤ a0t) (F_value : Fld Z h0 a0t "java/lang/String" "value" "[B" w_value) (F_coder : Fld Z h0 a0t "java/lang/String" "coder" "B" (.int w_coder)) :
    MetFree l (⟨"java/lang/String", "<init>", "([BB)V"⟩ : MethodName) (head1 (Jvm.Cond.code (⟨"java/lang/String", "<init>", "([BB)V"⟩ : MethodName) jdk_42_method_151_code 3 none :: ws) ({ frames := 1, cells := 0, slots := 0, locals := 12 } : Room)) (fun a U => a = #[(.ref a0t), (.ref r0), (.int p1)] ∧ Z.Warmed39 U.vm ∧ U.heap = h0) (fun _ _ _ _ _ => True) (fun _ U o U' => ∃ v L, o = .returned v ∧ Q4 Z a0t r0 p1 w_value w_coder h0 n0 v U'.heap L ∧ FrameEnd U o U' L ({ frames := 1, cells := 0, slots := 0, locals := 12 } : Room).cells ({ frames := 1, cells := 0, slots := 0, locals := 12 } : Room).slots) := by
  refine MetFree.of_bodySF (plainFor_of_name pn_1) hisR ?_
  intro p e s m args below meth c s₁ Bd hml0 hP hK
  obtain ⟨rfl, hZ, hh⟩ := hP
  have hx := Bd.exec
  have hby := Bd.bytes
  have hml : c.maxLocals = 3 := hml0
  have hown : s.vm.findClass "java/lang/String" = some m.cls := findClass_of_methodNamed Bd.named
  have hnm := (name_of_methodNamed Bd.named Bd.method).1
  have X0 : Stand p l e ({ frames := 1, cells := 0, slots := 0, locals := 12 } : Room) s m #[(.ref a0t), (.ref r0), (.int p1)] below meth c s₁ [] 0 0 := Stand.of_body Bd
  have e0 : s₁.heap = h0 := by rw [← hh, Bd.state]; rfl
  have N0 := Fr.nil n0
  have K0 := Keep.refl h0 [a0t]
  have pre0 : ∀ t, Steps p.tables e below (s₁.setTop (mkF m 0 #[.val (.ref a0t), .val (.ref r0), .val (.int p1)] [])) t → Steps p.tables e below (s₁.setTop (entryFrame m #[(.ref a0t), (.ref r0), (.int p1)] 3)) t := fun t k => castTop (ef_4 m a0t r0 p1) k
  obtain ⟨T1, X1, e1, st1⟩ := initO X0 hx hZ hown (hw _ (List.mem_of_getElem? (i := 22) rfl)) (hw _ (List.mem_of_getElem? (i := 23) rfl)) (hw _ (List.mem_of_getElem? (i := 24) rfl)) e0 (g := (mkF m 1 #[.val (.ref a0t), .val (.ref r0), .val (.int p1)] [(.ref a0t)])) rfl (by rw [hml]; rfl) rfl (hb hby d4_1) (by decide) (W := 0) (by show 2 * 0 + _ ≤ _; exact Nat.le_of_eq rfl) (by decide)
  obtain ⟨T2, h2, X2, e2, W2, st2⟩ := putF X1 hx hZ hown (host := "") (Or.inl (hw _ (List.mem_of_getElem? (i := 25) rfl))) Via.refl e1 F_value E_this (Or.inr ⟨(hw _ (List.mem_of_getElem? (i := 26) rfl)), rfl, hnm⟩) (hw _ (List.mem_of_getElem? (i := 13) rfl)) (ty := (.array .byte)) (by decide) rfl rfl (g := (mkF m 6 #[.val (.ref a0t), .val (.ref r0), .val (.int p1)] [(.ref r0), (.ref a0t)])) rfl rfl (hb hby d4_6)
  have F_value_a0t_2 := F_value.same W2
  have F_coder_a0t_2 := F_coder.other W2 (Or.inr (slot_ne (Or.inr (hw _ (List.mem_of_getElem? (i := 28) rfl))) (Or.inr (hw _ (List.mem_of_getElem? (i := 26) rfl))) (by decide) (t := .byte) (t' := (.array .byte)) (by decide) (by decide)))
  have E_a0t_2 := E_this.wr W2
  have N2 := Fr.snoc X2 N0 g_this
  have Zz2 := Nat.le_trans Z0 (Keep.of_wr W2).1
  have K2 : Keep h0 h2 [a0t] := K0.wr W2 (Or.inl (by simp))
  obtain ⟨T3, h3, X3, e3, W3, st3⟩ := putFN X2 hx hZ hown (hw _ (List.mem_of_getElem? (i := 27) rfl)) Via.refl e2 F_coder_a0t_2 E_a0t_2 (Or.inr ⟨(hw _ (List.mem_of_getElem? (i := 28) rfl)), rfl, hnm⟩) (hw _ (List.mem_of_getElem? (i := 13) rfl)) (ty := .byte) (v' := (.int (p1.toInt8.toInt32))) (by decide) rfl (fits_nar_byte _) (g := (mkF m 11 #[.val (.ref a0t), .val (.ref r0), .val (.int p1)] [(.int p1), (.ref a0t)])) rfl rfl (hb hby d4_11)
  have F_value_a0t_3 := F_value_a0t_2.other W3 (Or.inr (slot_ne (Or.inr (hw _ (List.mem_of_getElem? (i := 26) rfl))) (Or.inr (hw _ (List.mem_of_getElem? (i := 28) rfl))) (by decide) (t := (.array .byte)) (t' := .byte) (by decide) (by decide)))
  have F_coder_a0t_3 := F_coder_a0t_2.same W3
  have E_a0t_3 := E_a0t_2.wr W3
  have N3 := Fr.snoc X3 N2 g_this
  have Zz3 := Nat.le_trans Zz2 (Keep.of_wr W3).1
  have K3 : Keep h0 h3 [a0t] := K2.wr W3 (Or.inl (by simp))
  obtain ⟨fs, hr, hrun, hended, hW, hsame⟩ := X3.leave (v := none) (fun _ => rfl)
  refine ⟨_, _, pre0 _ ?_, hrun, hended, _, _, rfl, ?_, ⟨_, rfl⟩, hW, hsame.mono (by decide) (by decide)⟩
  · show Steps p.tables e below (s₁.setTop (mkF m 0 #[.val (.ref a0t), .val (.ref r0), .val (.int p1)] [])) _
    refine XS.aloadN X0.here hx rfl (hb hby d4_0) rfl rfl ?_
    show Steps p.tables e below (s₁.setTop (mkF m 1 #[.val (.ref a0t), .val (.ref r0), .val (.int p1)] [(.ref a0t)])) _
    refine st1 _ ?_
    show Steps p.tables e below (T1.setTop (mkF m 4 #[.val (.ref a0t), .val (.ref r0), .val (.int p1)] [])) _
    refine XS.aloadN X1.here hx rfl (hb hby d4_4) rfl rfl ?_
    show Steps p.tables e below (T1.setTop (mkF m 5 #[.val (.ref a0t), .val (.ref r0), .val (.int p1)] [(.ref a0t)])) _
    refine XS.aloadN X1.here hx rfl (hb hby d4_5) rfl rfl ?_
    show Steps p.tables e below (T1.setTop (mkF m 6 #[.val (.ref a0t), .val (.ref r0), .val (.int p1)] [(.ref r0), (.ref a0t)])) _
    refine st2 _ ?_
    show Steps p.tables e below (T2.setTop (mkF m 9 #[.val (.ref a0t), .val (.ref r0), .val (.int p1)] [])) _
    refine XS.aloadN X2.here hx rfl (hb hby d4_9) rfl rfl ?_
    show Steps p.tables e below (T2.setTop (mkF m 10 #[.val (.ref a0t), .val (.ref r0), .val (.int p1)] [(.ref a0t)])) _
    refine XS.iloadN X2.here hx rfl (hb hby d4_10) rfl ?_
    show Steps p.tables e below (T2.setTop (mkF m 11 #[.val (.ref a0t), .val (.ref r0), .val (.int p1)] [(.int p1), (.ref a0t)])) _
    refine st3 _ ?_
    show Steps p.tables e below (T3.setTop (mkF m 14 #[.val (.ref a0t), .val (.ref r0), .val (.int p1)] [])) _
    exact X3.returnOut hx Bd.returns (hb hby d4_14) hr
  · show Q4 Z a0t r0 p1 w_value w_coder h0 n0 _ T3.heap _
    rw [e3]
    exact ⟨rfl, N3, K3, E_a0t_3⟩
theorem pd_0 : parseMethodDescriptor "(C)Z" = some ⟨[.char], some .boolean⟩ := by decide +kernel
theorem pd_1 : parseMethodDescriptor "(C)[B" = some ⟨[.char], some (.array .byte)⟩ := by decide +kernel
theorem pd_2 : parseMethodDescriptor "([BB)V" = some ⟨[(.array .byte), .byte], none⟩ := by decide +kernel
theorem d1_0 : decode jdk_42_method_139_code 0 = .ok (.getstatic 38, 3) := by decide +kernel
theorem d1_3 : decode jdk_42_method_139_code 3 = .ok (.ifCond .eq 23, 3) := by decide +kernel
theorem d1_6 : decode jdk_42_method_139_code 6 = .ok (.iload_n 0, 1) := by decide +kernel
theorem d1_7 : decode jdk_42_method_139_code 7 = .ok (.invokestatic 1015, 3) := by decide +kernel
theorem d1_10 : decode jdk_42_method_139_code 10 = .ok (.ifCond .eq 16, 3) := by decide +kernel
theorem d1_13 : decode jdk_42_method_139_code 13 = .ok (.new 10, 3) := by decide +kernel
theorem d1_16 : decode jdk_42_method_139_code 16 = .ok (.dup, 1) := by decide +kernel
theorem d1_17 : decode jdk_42_method_139_code 17 = .ok (.iload_n 0, 1) := by decide +kernel
theorem d1_18 : decode jdk_42_method_139_code 18 = .ok (.invokestatic 1018, 3) := by decide +kernel
theorem d1_21 : decode jdk_42_method_139_code 21 = .ok (.iconst 0, 1) := by decide +kernel
theorem d1_22 : decode jdk_42_method_139_code 22 = .ok (.invokespecial 209, 3) := by decide +kernel
theorem d1_25 : decode jdk_42_method_139_code 25 = .ok (.areturn, 1) := by decide +kernel
theorem ef_1 (m : MethodId) (x0 : Int32) : entryFrame m #[(.int x0)] 1 = mkF m 0 #[.val (.int x0)] [] := by first | (simp [entryFrame, mkF, argsToLocals, Value.category]; done) | rfl
def Q1 (Z : State) (p0 : Int32) (zC : Int32) (h0 : Heap) (n0 : Nat) (v : Option Value) (h : Heap) (L : List Loc) : Prop := ∃ b : Addr, v = some (.ref b) ∧ Fr n0 L ∧ Keep h0 h [] ∧ h0.size ≤ b
set_option maxRecDepth 65536 in
set_option maxHeartbeats 40000000 in
theorem rm1 (l : Launch) (Z : State) (a0 : Array Value) (hw : ∀ d ∈ tables_1, d.before a0 Z = true) (ws : List Jvm.Cond) (p0 : Int32) (zC : Int32) (h0 : Heap) (n0 : Nat) (Z0 : n0 ≤ h0.size) (hf3 : ¬ (zC = (0 : Int32))) (hf10 : ¬ ((f2 p0) = (0 : Int32))) (S_C : Sta Z h0 "java/lang/String" "COMPACT_STRINGS" "Z" (.int zC)) :
    MetFree l (⟨"java/lang/String", "valueOf", "(C)Ljava/lang/String;"⟩ : MethodName) (head1 (Jvm.Cond.code (⟨"java/lang/String", "valueOf", "(C)Ljava/lang/String;"⟩ : MethodName) jdk_42_method_139_code 1 (some (.object "java/lang/String")) :: ws) ({ frames := 2, cells := 2, slots := 5, locals := 27 } : Room)) (fun a U => a = #[(.int p0)] ∧ Z.Warmed39 U.vm ∧ U.heap = h0) (fun _ _ _ _ _ => True) (fun _ U o U' => ∃ v L, o = .returned v ∧ Q1 Z p0 zC h0 n0 v U'.heap L ∧ FrameEnd U o U' L ({ frames := 2, cells := 2, slots := 5, locals := 27 } : Room).cells ({ frames := 2, cells := 2, slots := 5, locals := 27 } : Room).slots) := by
  refine MetFree.of_bodySF (plainFor_of_name pn_1) hisR ?_
  intro p e s m args below meth c s₁ Bd hml0 hP hK
  obtain ⟨rfl, hZ, hh⟩ := hP
  have hx := Bd.exec
  have hby := Bd.bytes
  have hml : c.maxLocals = 1 := hml0
  have hown : s.vm.findClass "java/lang/String" = some m.cls := findClass_of_methodNamed Bd.named
  have hnm := (name_of_methodNamed Bd.named Bd.method).1
  have X0 : Stand p l e ({ frames := 2, cells := 2, slots := 5, locals := 27 } : Room) s m #[(.int p0)] below meth c s₁ [] 0 0 := Stand.of_body Bd
  have e0 : s₁.heap = h0 := by rw [← hh, Bd.state]; rfl
  have N0 := Fr.nil n0
  have K0 := Keep.refl h0 []
  have pre0 : ∀ t, Steps p.tables e below (s₁.setTop (mkF m 0 #[.val (.int p0)] [])) t → Steps p.tables e below (s₁.setTop (entryFrame m #[(.int p0)] 1)) t := fun t k => castTop (ef_1 m p0) k
  obtain ⟨T1, X1, e1, st1⟩ := getS2 X0 hx hZ hown (host := "") (Or.inl (hw _ (List.mem_of_getElem? (i := 7) rfl))) Via.refl e0 S_C (g := (mkF m 0 #[.val (.int p0)] [])) rfl (hb hby d1_0)
  obtain ⟨_, _, ⟨T2, L2, k2, n2⟩, -, X2, ⟨Lc2, hQ2, l2, y2, z2⟩, st2⟩ := Jvm.LawKit.callS X1 hx (y := (⟨"java/lang/StringLatin1", "canEncode", "(C)Z"⟩ : MethodName)) hown (mvT hZ (hw _ (List.mem_of_getElem? (i := 8) rfl))) (mvT hZ (hw _ (List.mem_of_getElem? (i := 9) rfl))) (mvT hZ (hw _ (List.mem_of_getElem? (i := 10) rfl))) (mvT hZ (hw _ (List.mem_of_getElem? (i := 11) rfl))) (by decide) (backOf (W := 0) (rm2 l Z a0 hw [] p0 h0 n0 Z0) hZ (hw _ (List.mem_of_getElem? (i := 11) rfl)) (hw _ (List.mem_of_getElem? (i := 10) rfl)) (by decide) (by decide)) (g := (mkF m 7 #[.val (.int p0)] [(.int p0)])) rfl (by rw [hml]; rfl) (argsL := [(.int p0)]) (rest := []) (lenOf pd_0 rfl) rfl (by show 2 * 0 + _ ≤ _; exact Nat.le_of_eq rfl) (hb hby d1_7) (fun _ _ => ⟨rfl, e1, (by decide : 0 + 0 ≤ _), (by decide : 0 + 0 ≤ _)⟩)
  dsimp only [Pt.U, Pt.locs, Pt.cells, Pt.slots] at X2 l2 y2 z2 st2 hQ2
  subst l2 y2 z2
  obtain ⟨rfl, N2q, e2⟩ := hQ2
  have N2 := Fr.app N0 N2q
  obtain ⟨T3, h3, X3, e3, E3, A3, D3, -, st3⟩ := newO X2 hx hZ hown (hw _ (List.mem_of_getElem? (i := 12) rfl)) (hw _ (List.mem_of_getElem? (i := 13) rfl)) (hw _ (List.mem_of_getElem? (i := 5) rfl)) e2 (g := (mkF m 13 #[.val (.int p0)] [])) rfl (hb hby d1_13) (by decide) (by decide)
  obtain ⟨b3, g3⟩ : ∃ z, z = h0.size := ⟨_, rfl⟩
  rw [← g3] at A3 D3 st3
  have gn_b3 : n0 ≤ b3 := Nat.le_trans Z0 (Nat.le_of_eq g3.symm)
  have sz_b3 : h0.size ≤ b3 := Nat.le_trans K0.1 (Nat.le_of_eq g3.symm)
  have S_COMPACT_STRINGS_3 := S_C.ext E3
  have Zz3 := Nat.le_trans Z0 E3.1
  have K3 := K0.ext E3
  have F_value_b3 : Fld Z h3 b3 "java/lang/String" "value" "[B" .null := D3 (Or.inr (hw _ (List.mem_of_getElem? (i := 26) rfl))) (ty := (.array .byte)) (by decide)
  have F_coder_b3 : Fld Z h3 b3 "java/lang/String" "coder" "B" (.int (0 : Int32)) := D3 (Or.inr (hw _ (List.mem_of_getElem? (i := 28) rfl))) (ty := .byte) (by decide)
  obtain ⟨_, _, ⟨T4, L4, k4, n4⟩, -, X4, ⟨Lc4, hQ4, l4, y4, z4⟩, st4⟩ := Jvm.LawKit.callS X3 hx (y := (⟨"java/lang/StringLatin1", "toBytes", "(C)[B"⟩ : MethodName)) hown (mvT hZ (hw _ (List.mem_of_getElem? (i := 14) rfl))) (mvT hZ (hw _ (List.mem_of_getElem? (i := 15) rfl))) (mvT hZ (hw _ (List.mem_of_getElem? (i := 10) rfl))) (mvT hZ (hw _ (List.mem_of_getElem? (i := 16) rfl))) (by decide) (backOf (W := 2) (rm3 l Z a0 hw [] p0 h3 n0 Zz3) hZ (hw _ (List.mem_of_getElem? (i := 16) rfl)) (hw _ (List.mem_of_getElem? (i := 10) rfl)) (by decide) (by decide)) (g := (mkF m 18 #[.val (.int p0)] [(.int p0), (.ref b3), (.ref b3)])) rfl (by rw [hml]; rfl) (argsL := [(.int p0)]) (rest := [(.ref b3), (.ref b3)]) (lenOf pd_1 rfl) rfl (by show 2 * 0 + _ ≤ _; exact Nat.le_of_eq rfl) (hb hby d1_18) (fun _ _ => ⟨rfl, e3, (by decide : 1 + 1 ≤ _), (by decide : 4 + 1 ≤ _)⟩)
  dsimp only [Pt.U, Pt.locs, Pt.cells, Pt.slots] at X4 l4 y4 z4 st4 hQ4
  subst l4 y4 z4
  obtain ⟨b4, rfl, N4q, K4q, g4q⟩ := hQ4
  have ne_b3_b4 : b3 ≠ b4 := Nat.ne_of_lt (Nat.lt_of_lt_of_le A3.lt g4q)
  have E_b3_4 := A3.keep K4q
  have F_value_b3_4 := F_value_b3.keep K4q nin0
  have F_coder_b3_4 := F_coder_b3.keep K4q nin0
  have gn_b4 : n0 ≤ b4 := Nat.le_trans Zz3 g4q
  have sz_b4 : h0.size ≤ b4 := Nat.le_trans K3.1 g4q
  have Zz4 := Nat.le_trans Zz3 K4q.1
  have K4 : Keep h0 T4.heap [] := K3.trans K4q all0
  have N4 := Fr.app N2 N4q
  obtain ⟨_, _, ⟨T5, L5, k5, n5⟩, -, X5, ⟨Lc5, hQ5, l5, y5, z5⟩, st5⟩ := X4.specialBack hx (y := (⟨"java/lang/String", "<init>", "([BB)V"⟩ : MethodName)) rfl hown (mvT hZ (hw _ (List.mem_of_getElem? (i := 18) rfl))) (mvT hZ (hw _ (List.mem_of_getElem? (i := 19) rfl))) (mvT hZ (hw _ (List.mem_of_getElem? (i := 21) rfl))) (by decide) (backOf (W := 1) (rm4 l Z a0 hw [] b3 b4 (0 : Int32) .null (0 : Int32) T4.heap n0 Zz4 E_b3_4 gn_b3 F_value_b3_4 F_coder_b3_4) hZ (hw _ (List.mem_of_getElem? (i := 21) rfl)) (hw _ (List.mem_of_getElem? (i := 5) rfl)) (by decide) (by decide)) (g := (mkF m 22 #[.val (.int p0)] [(.int (0 : Int32)), (.ref b4), (.ref b3), (.ref b3)])) rfl (by rw [hml]; rfl) (Steps.refl _) (a := b3) (argsL := [(.ref b4), (.int (0 : Int32))]) (rest := [(.ref b3)]) (lenOf pd_2 rfl) rfl (by show 2 * 0 + _ ≤ _; exact Nat.le_of_eq rfl) (hb hby d1_22) (fun _ _ => ⟨rfl, rfl, (by decide : 2 + 0 ≤ _), (by decide : 5 + 0 ≤ _)⟩)
  dsimp only [Pt.U, Pt.locs, Pt.cells, Pt.slots] at X5 l5 y5 z5 st5 hQ5
  subst l5 y5 z5
  obtain ⟨rfl, N5q, K5q, E5q⟩ := hQ5
  have Zz5 := Nat.le_trans Zz4 K5q.1
  have K5 : Keep h0 T5.heap [] := K4.trans K5q (allS (Or.inr sz_b3) all0)
  have N5 := Fr.app N4 N5q
  obtain ⟨fs, hr, hrun, hended, hW, hsame⟩ := X5.leave (v := some (.ref b3)) (fun h => by rw [Bd.returns] at h; cases h)
  refine ⟨_, _, pre0 _ ?_, hrun, hended, _, _, rfl, ?_, ⟨_, rfl⟩, hW, hsame.mono (by decide) (by decide)⟩
  · show Steps p.tables e below (s₁.setTop (mkF m 0 #[.val (.int p0)] [])) _
    refine st1 _ ?_
    show Steps p.tables e below (T1.setTop (mkF m 3 #[.val (.int p0)] [(.int zC)])) _
    refine XS.ifNo X1.here hx rfl (hb hby d1_3) rfl ((if0 _ _).trans (feq hf3).1) ?_
    show Steps p.tables e below (T1.setTop (mkF m 6 #[.val (.int p0)] [])) _
    refine XS.iloadN X1.here hx rfl (hb hby d1_6) rfl ?_
    show Steps p.tables e below (T1.setTop (mkF m 7 #[.val (.int p0)] [(.int p0)])) _
    refine st2 _ ?_
    show Steps p.tables e below (T2.setTop (mkF m 10 #[.val (.int p0)] [(.int (f2 p0))])) _
    refine XS.ifNo X2.here hx rfl (hb hby d1_10) rfl ((if0 _ _).trans (feq hf10).1) ?_
    show Steps p.tables e below (T2.setTop (mkF m 13 #[.val (.int p0)] [])) _
    refine st3 _ ?_
    show Steps p.tables e below (T3.setTop (mkF m 16 #[.val (.int p0)] [(.ref b3)])) _
    refine XS.dup X3.here hx rfl (hb hby d1_16) rfl rfl ?_
    show Steps p.tables e below (T3.setTop (mkF m 17 #[.val (.int p0)] [(.ref b3), (.ref b3)])) _
    refine XS.iloadN X3.here hx rfl (hb hby d1_17) rfl ?_
    show Steps p.tables e below (T3.setTop (mkF m 18 #[.val (.int p0)] [(.int p0), (.ref b3), (.ref b3)])) _
    refine st4 _ ?_
    show Steps p.tables e below (T4.setTop (mkF m 21 #[.val (.int p0)] [(.ref b4), (.ref b3), (.ref b3)])) _
    refine XS.iconst X4.here hx rfl (hb hby d1_21) ?_
    show Steps p.tables e below (T4.setTop (mkF m 22 #[.val (.int p0)] [(.int (0 : Int32)), (.ref b4), (.ref b3), (.ref b3)])) _
    refine st5.trans ?_
    show Steps p.tables e below (T5.setTop (mkF m 25 #[.val (.int p0)] [(.ref b3)])) _
    jvm_step X5.here [X5.here.top, hx, (hb hby d1_25), X5.method', Bd.returns, Value.isRef, FieldType.isReference]
    first | (intro acts; rw [hr _ acts rfl rfl rfl]) | rw [hr _ _ rfl rfl rfl]
    exact Steps.refl _
  · show Q1 Z p0 zC h0 n0 _ T5.heap _
    exact ⟨b3, rfl, N5, K5, sz_b3⟩
theorem pn_2 : plainName "java/lang/Record" = true := by first | (simp [plainName, overriddenIn]; done) | decide +kernel
theorem d7_0 : decode jdk_30_method_1_code 0 = .ok (.aload_n 0, 1) := by decide +kernel
theorem d7_1 : decode jdk_30_method_1_code 1 = .ok (.invokespecial 1, 3) := by decide +kernel
theorem d7_4 : decode jdk_30_method_1_code 4 = .ok (.return_, 1) := by decide +kernel
theorem ef_7 (m : MethodId) (x0 : Addr) : entryFrame m #[(.ref x0)] 1 = mkF m 0 #[.val (.ref x0)] [] := by first | (simp [entryFrame, mkF, argsToLocals, Value.category]; done) | rfl
def Q7 (Z : State) (a0t : Addr) (h0 : Heap) (n0 : Nat) (v : Option Value) (h : Heap) (L : List Loc) : Prop := v = none ∧ Fr n0 L ∧ h = h0
set_option maxRecDepth 65536 in
set_option maxHeartbeats 40000000 in
theorem rm7 (l : Launch) (Z : State) (a0 : Array Value) (hw : ∀ d ∈ tables_1, d.before a0 Z = true) (ws : List Jvm.Cond) (a0t : Addr) (h0 : Heap) (n0 : Nat) (Z0 : n0 ≤ h0.size)  :
    MetFree l (⟨"java/lang/Record", "<init>", "()V"⟩ : MethodName) (head1 (Jvm.Cond.code (⟨"java/lang/Record", "<init>", "()V"⟩ : MethodName) jdk_30_method_1_code 1 none :: ws) ({ frames := 1, cells := 0, slots := 0, locals := 12 } : Room)) (fun a U => a = #[(.ref a0t)] ∧ Z.Warmed39 U.vm ∧ U.heap = h0) (fun _ _ _ _ _ => True) (fun _ U o U' => ∃ v L, o = .returned v ∧ Q7 Z a0t h0 n0 v U'.heap L ∧ FrameEnd U o U' L ({ frames := 1, cells := 0, slots := 0, locals := 12 } : Room).cells ({ frames := 1, cells := 0, slots := 0, locals := 12 } : Room).slots) := by
  refine MetFree.of_bodySF (plainFor_of_name pn_2) hisR ?_
  intro p e s m args below meth c s₁ Bd hml0 hP hK
  obtain ⟨rfl, hZ, hh⟩ := hP
  have hx := Bd.exec
  have hby := Bd.bytes
  have hml : c.maxLocals = 1 := hml0
  have hown : s.vm.findClass "java/lang/Record" = some m.cls := findClass_of_methodNamed Bd.named
  have hnm := (name_of_methodNamed Bd.named Bd.method).1
  have X0 : Stand p l e ({ frames := 1, cells := 0, slots := 0, locals := 12 } : Room) s m #[(.ref a0t)] below meth c s₁ [] 0 0 := Stand.of_body Bd
  have e0 : s₁.heap = h0 := by rw [← hh, Bd.state]; rfl
  have N0 := Fr.nil n0
  have K0 := Keep.refl h0 []
  have pre0 : ∀ t, Steps p.tables e below (s₁.setTop (mkF m 0 #[.val (.ref a0t)] [])) t → Steps p.tables e below (s₁.setTop (entryFrame m #[(.ref a0t)] 1)) t := fun t k => castTop (ef_7 m a0t) k
  obtain ⟨T1, X1, e1, st1⟩ := initO X0 hx hZ hown (hw _ (List.mem_of_getElem? (i := 38) rfl)) (hw _ (List.mem_of_getElem? (i := 23) rfl)) (hw _ (List.mem_of_getElem? (i := 24) rfl)) e0 (g := (mkF m 1 #[.val (.ref a0t)] [(.ref a0t)])) rfl (by rw [hml]; rfl) rfl (hb hby d7_1) (by decide) (W := 0) (by show 2 * 0 + _ ≤ _; exact Nat.le_of_eq rfl) (by decide)
  obtain ⟨fs, hr, hrun, hended, hW, hsame⟩ := X1.leave (v := none) (fun _ => rfl)
  refine ⟨_, _, pre0 _ ?_, hrun, hended, _, _, rfl, ?_, ⟨_, rfl⟩, hW, hsame.mono (by decide) (by decide)⟩
  · show Steps p.tables e below (s₁.setTop (mkF m 0 #[.val (.ref a0t)] [])) _
    refine XS.aloadN X0.here hx rfl (hb hby d7_0) rfl rfl ?_
    show Steps p.tables e below (s₁.setTop (mkF m 1 #[.val (.ref a0t)] [(.ref a0t)])) _
    refine st1 _ ?_
    show Steps p.tables e below (T1.setTop (mkF m 4 #[.val (.ref a0t)] [])) _
    exact X1.returnOut hx Bd.returns (hb hby d7_4) hr
  · show Q7 Z a0t h0 n0 _ T1.heap _
    rw [e1]
    exact ⟨rfl, N0, rfl⟩
theorem pn_3 : plainName "java/util/Objects" = true := by first | (simp [plainName, overriddenIn]; done) | decide +kernel
theorem d8_0 : decode jdk_31_method_10_code 0 = .ok (.aload_n 0, 1) := by decide +kernel
theorem d8_1 : decode jdk_31_method_10_code 1 = .ok (.ifnonnull 11, 3) := by decide +kernel
theorem d8_12 : decode jdk_31_method_10_code 12 = .ok (.aload_n 0, 1) := by decide +kernel
theorem d8_13 : decode jdk_31_method_10_code 13 = .ok (.areturn, 1) := by decide +kernel
theorem ef_8 (m : MethodId) (x0 : Addr) : entryFrame m #[(.ref x0)] 1 = mkF m 0 #[.val (.ref x0)] [] := by first | (simp [entryFrame, mkF, argsToLocals, Value.category]; done) | rfl
def Q8 (Z : State) (r0 : Addr) (h0 : Heap) (n0 : Nat) (v : Option Value) (h : Heap) (L : List Loc) : Prop := v = some (.ref r0) ∧ Fr n0 L ∧ h = h0
set_option maxRecDepth 65536 in
set_option maxHeartbeats 40000000 in
theorem rm8 (l : Launch) (Z : State) (a0 : Array Value) (hw : ∀ d ∈ tables_1, d.before a0 Z = true) (ws : List Jvm.Cond) (r0 : Addr) (h0 : Heap) (n0 : Nat) (Z0 : n0 ≤ h0.size)  :
    MetFree l (⟨"java/util/Objects", "requireNonNull", "(Ljava/lang/Object;)Ljava/lang/Object;"⟩ : MethodName) (head1 (Jvm.Cond.code (⟨"java/util/Objects", "requireNonNull", "(Ljava/lang/Object;)Ljava/lang/Object;"⟩ : MethodName) jdk_31_method_10_code 1 (some (.object "java/lang/Object")) :: ws) ({ frames := 0, cells := 0, slots := 0, locals := 0 } : Room)) (fun a U => a = #[(.ref r0)] ∧ Z.Warmed39 U.vm ∧ U.heap = h0) (fun _ _ _ _ _ => True) (fun _ U o U' => ∃ v L, o = .returned v ∧ Q8 Z r0 h0 n0 v U'.heap L ∧ FrameEnd U o U' L ({ frames := 0, cells := 0, slots := 0, locals := 0 } : Room).cells ({ frames := 0, cells := 0, slots := 0, locals := 0 } : Room).slots) := by
  refine MetFree.of_bodySF (plainFor_of_name pn_3) hisR ?_
  intro p e s m args below meth c s₁ Bd hml0 hP hK
  obtain ⟨rfl, hZ, hh⟩ := hP
  have hx := Bd.exec
  have hby := Bd.bytes
  have hml : c.maxLocals = 1 := hml0
  have hown : s.vm.findClass "java/util/Objects" = some m.cls := findClass_of_methodNamed Bd.named
  have hnm := (name_of_methodNamed Bd.named Bd.method).1
  have X0 : Stand p l e ({ frames := 0, cells := 0, slots := 0, locals := 0 } : Room) s m #[(.ref r0)] below meth c s₁ [] 0 0 := Stand.of_body Bd
  have e0 : s₁.heap = h0 := by rw [← hh, Bd.state]; rfl
  have N0 := Fr.nil n0
  have K0 := Keep.refl h0 []
  have pre0 : ∀ t, Steps p.tables e below (s₁.setTop (mkF m 0 #[.val (.ref r0)] [])) t → Steps p.tables e below (s₁.setTop (entryFrame m #[(.ref r0)] 1)) t := fun t k => castTop (ef_8 m r0) k
  obtain ⟨fs, hr, hrun, hended, hW, hsame⟩ := X0.leave (v := some (.ref r0)) (fun h => by rw [Bd.returns] at h; cases h)
  refine ⟨_, _, pre0 _ ?_, hrun, hended, _, _, rfl, ?_, ⟨_, rfl⟩, hW, hsame.mono (by decide) (by decide)⟩
  · show Steps p.tables e below (s₁.setTop (mkF m 0 #[.val (.ref r0)] [])) _
    refine XS.aloadN X0.here hx rfl (hb hby d8_0) rfl rfl ?_
    show Steps p.tables e below (s₁.setTop (mkF m 1 #[.val (.ref r0)] [(.ref r0)])) _
    refine XS.ifnonnullYes X0.here hx rfl (pc0 := 1) (pc' := 12) rfl (hb hby d8_1) rfl (by decide) (by decide) ?_
    show Steps p.tables e below (s₁.setTop (mkF m 12 #[.val (.ref r0)] [])) _
    refine XS.aloadN X0.here hx rfl (hb hby d8_12) rfl rfl ?_
    show Steps p.tables e below (s₁.setTop (mkF m 13 #[.val (.ref r0)] [(.ref r0)])) _
    jvm_step X0.here [X0.here.top, hx, (hb hby d8_13), X0.method', Bd.returns, Value.isRef, FieldType.isReference]
    first | (intro acts; rw [hr _ acts rfl rfl rfl]) | rw [hr _ _ rfl rfl rfl]
    exact Steps.refl _
  · show Q8 Z r0 h0 n0 _ s₁.heap _
    rw [e0]
    exact ⟨rfl, N0, rfl⟩
theorem pd_3 : parseMethodDescriptor "()V" = some ⟨[], none⟩ := by decide +kernel
theorem pd_4 : parseMethodDescriptor "(Ljava/lang/Object;)Ljava/lang/Object;" = some ⟨[(.object "java/lang/Object")], some (.object "java/lang/Object")⟩ := by decide +kernel
theorem pn_4 : plainName "com/example/vaultgate/vaultgate/history/AtcClaim" = true := by first | (simp [plainName, overriddenIn]; done) | decide +kernel
theorem d6_0 : decode prog_32_method_1_code 0 = .ok (.aload_n 0, 1) := by decide +kernel
theorem d6_1 : decode prog_32_method_1_code 1 = .ok (.invokespecial 1, 3) := by decide +kernel
theorem d6_4 : decode prog_32_method_1_code 4 = .ok (.aload_n 1, 1) := by decide +kernel
theorem d6_5 : decode prog_32_method_1_code 5 = .ok (.invokestatic 7, 3) := by decide +kernel
theorem d6_8 : decode prog_32_method_1_code 8 = .ok (.pop, 1) := by decide +kernel
theorem d6_9 : decode prog_32_method_1_code 9 = .ok (.aload_n 0, 1) := by decide +kernel
theorem d6_10 : decode prog_32_method_1_code 10 = .ok (.aload_n 1, 1) := by decide +kernel
theorem d6_11 : decode prog_32_method_1_code 11 = .ok (.putfield 13, 3) := by decide +kernel
theorem d6_14 : decode prog_32_method_1_code 14 = .ok (.aload_n 0, 1) := by decide +kernel
theorem d6_15 : decode prog_32_method_1_code 15 = .ok (.iload_n 2, 1) := by decide +kernel
theorem d6_16 : decode prog_32_method_1_code 16 = .ok (.putfield 19, 3) := by decide +kernel
theorem d6_19 : decode prog_32_method_1_code 19 = .ok (.aload_n 0, 1) := by decide +kernel
theorem d6_20 : decode prog_32_method_1_code 20 = .ok (.iload_n 3, 1) := by decide +kernel
theorem d6_21 : decode prog_32_method_1_code 21 = .ok (.putfield 23, 3) := by decide +kernel
theorem d6_24 : decode prog_32_method_1_code 24 = .ok (.aload_n 0, 1) := by decide +kernel
theorem d6_25 : decode prog_32_method_1_code 25 = .ok (.iload 4, 2) := by decide +kernel
theorem d6_27 : decode prog_32_method_1_code 27 = .ok (.putfield 26, 3) := by decide +kernel
theorem d6_30 : decode prog_32_method_1_code 30 = .ok (.return_, 1) := by decide +kernel
theorem ef_6 (m : MethodId) (x0 : Addr) (x1 : Addr) (x2 : Int32) (x3 : Int32) (x4 : Int32) : entryFrame m #[(.ref x0), (.ref x1), (.int x2), (.int x3), (.int x4)] 5 = mkF m 0 #[.val (.ref x0), .val (.ref x1), .val (.int x2), .val (.int x3), .val (.int x4)] [] := by first | (simp [entryFrame, mkF, argsToLocals, Value.category]; done) | rfl
def f6_previousAbove (p1 : Int32) (p2 : Int32) (p3 : Int32) (w_atc : Int32) (w_previousAbove : Int32) (w_previousBelow : Int32) : Int32 := p2
def f6_previousBelow (p1 : Int32) (p2 : Int32) (p3 : Int32) (w_atc : Int32) (w_previousAbove : Int32) (w_previousBelow : Int32) : Int32 := p3
def Q6 (Z : State) (a0t : Addr) (r0 : Addr) (p1 : Int32) (p2 : Int32) (p3 : Int32) (w_token : Value) (w_atc : Int32) (w_previousAbove : Int32) (w_previousBelow : Int32) (h0 : Heap) (n0 : Nat) (v : Option Value) (h : Heap) (L : List Loc) : Prop := v = none ∧ Fr n0 L ∧ Keep h0 h [a0t] ∧ Exa Z h a0t "com/example/vaultgate/vaultgate/history/AtcClaim" ∧ Fld Z h a0t "com/example/vaultgate/vaultgate/history/AtcClaim" "previousAbove" "I" (.int (f6_previousAbove p1 p2 p3 w_atc w_previousAbove w_previousBelow)) ∧ Fld Z h a0t "com/example/vaultgate/vaultgate/history/AtcClaim" "previousBelow" "I" (.int (f6_previousBelow p1 p2 p3 w_atc w_previousAbove w_previousBelow))
set_option maxRecDepth 65536 in
set_option maxHeartbeats 40000000 in
theorem rm6 (l : Launch) (Z : State) (a0 : Array Value) (hw : ∀ d ∈ tables_1, d.before a0 Z = true) (ws : List Jvm.Cond) (a0t : Addr) (r0 : Addr) (p1 : Int32) (p2 : Int32) (p3 : Int32) (w_token : Value) (w_atc : Int32) (w_previousAbove : Int32) (w_previousBelow : Int32) (h0 : Heap) (n0 : Nat) (Z0 : n0 ≤ h0.size) (E_this : Exa Z h0 a0t "com/example/vaultgate/vaultgate/history/AtcClaim") (g_this : n0 ≤ a0t) (F_token : Fld Z h0 a0t "com/example/vaultgate/vaultgate/history/AtcClaim" "token" "Ljava/lang/String;" w_token) (F_atc : Fld Z h0 a0t "com/example/vaultgate/vaultgate/history/AtcClaim" "atc" "I" (.int w_atc)) (F_previousAbove : Fld Z h0 a0t "com/example/vaultgate/vaultgate/history/AtcClaim" "previousAbove" "I" (.int w_previousAbove)) (F_previousBelow : Fld Z h0 a0t "com/example/vaultgate/vaultgate/history/AtcClaim" "previousBelow" "I" (.int w_previousBelow)) :
    MetFree l (⟨"com/example/vaultgate/vaultgate/history/AtcClaim", "<init>", "(Ljava/lang/String;III)V"⟩ : MethodName) (head1 (Jvm.Cond.code (⟨"com/example/vaultgate/vaultgate/history/AtcClaim", "<init>", "(Ljava/lang/String;III)V"⟩ : MethodName) prog_32_method_1_code 5 none :: ws) ({ frames := 2, cells := 0, slots := 0, locals := 24 } : Room)) (fun a U => a = #[(.ref a0t), (.ref r0), (.int p1), (.int p2), (.int p3)] ∧ Z.Warmed39 U.vm ∧ U.heap = h0) (fun _ _ _ _ _ => True) (fun _ U o U' => ∃ v L, o = .returned v ∧ Q6 Z a0t r0 p1 p2 p3 w_token w_atc w_previousAbove w_previousBelow h0 n0 v U'.heap L ∧ FrameEnd U o U' L ({ frames := 2, cells := 0, slots := 0, locals := 24 } : Room).cells ({ frames := 2, cells := 0, slots := 0, locals := 24 } : Room).slots) := by
  refine MetFree.of_bodySF (plainFor_of_name pn_4) hisR ?_
  intro p e s m args below meth c s₁ Bd hml0 hP hK
  obtain ⟨rfl, hZ, hh⟩ := hP
  have hx := Bd.exec
  have hby := Bd.bytes
  have hml : c.maxLocals = 5 := hml0
  have hown : s.vm.findClass "com/example/vaultgate/vaultgate/history/AtcClaim" = some m.cls := findClass_of_methodNamed Bd.named
  have hnm := (name_of_methodNamed Bd.named Bd.method).1
  have X0 : Stand p l e ({ frames := 2, cells := 0, slots := 0, locals := 24 } : Room) s m #[(.ref a0t), (.ref r0), (.int p1), (.int p2), (.int p3)] below meth c s₁ [] 0 0 := Stand.of_body Bd
  have e0 : s₁.heap = h0 := by rw [← hh, Bd.state]; rfl
  have N0 := Fr.nil n0
  have K0 := Keep.refl h0 [a0t]
  have pre0 : ∀ t, Steps p.tables e below (s₁.setTop (mkF m 0 #[.val (.ref a0t), .val (.ref r0), .val (.int p1), .val (.int p2), .val (.int p3)] [])) t → Steps p.tables e below (s₁.setTop (entryFrame m #[(.ref a0t), (.ref r0), (.int p1), (.int p2), (.int p3)] 5)) t := fun t k => castTop (ef_6 m a0t r0 p1 p2 p3) k
  obtain ⟨_, _, ⟨T1, L1, k1, n1⟩, -, X1, ⟨Lc1, hQ1, l1, y1, z1⟩, st1⟩ := X0.specialBack hx (y := (⟨"java/lang/Record", "<init>", "()V"⟩ : MethodName)) rfl hown (mvT hZ (hw _ (List.mem_of_getElem? (i := 33) rfl))) (mvT hZ (hw _ (List.mem_of_getElem? (i := 34) rfl))) (mvT hZ (hw _ (List.mem_of_getElem? (i := 37) rfl))) (by decide) (backOf (W := 0) (rm7 l Z a0 hw [] a0t h0 n0 Z0) hZ (hw _ (List.mem_of_getElem? (i := 37) rfl)) (hw _ (List.mem_of_getElem? (i := 36) rfl)) (by decide) (by decide)) (g := (mkF m 1 #[.val (.ref a0t), .val (.ref r0), .val (.int p1), .val (.int p2), .val (.int p3)] [(.ref a0t)])) rfl (by rw [hml]; rfl) (Steps.refl _) (a := a0t) (argsL := []) (rest := []) (lenOf pd_3 rfl) rfl (by show 2 * 0 + _ ≤ _; exact Nat.le_of_eq rfl) (hb hby d6_1) (fun _ _ => ⟨rfl, e0, (by decide : 0 + 0 ≤ _), (by decide : 0 + 0 ≤ _)⟩)
  dsimp only [Pt.U, Pt.locs, Pt.cells, Pt.slots] at X1 l1 y1 z1 st1 hQ1
  subst l1 y1 z1
  obtain ⟨rfl, N1q, e1⟩ := hQ1
  have N1 := Fr.app N0 N1q
  obtain ⟨_, _, ⟨T2, L2, k2, n2⟩, -, X2, ⟨Lc2, hQ2, l2, y2, z2⟩, st2⟩ := Jvm.LawKit.callS X1 hx (y := (⟨"java/util/Objects", "requireNonNull", "(Ljava/lang/Object;)Ljava/lang/Object;"⟩ : MethodName)) hown (mvT hZ (hw _ (List.mem_of_getElem? (i := 39) rfl))) (mvT hZ (hw _ (List.mem_of_getElem? (i := 40) rfl))) (mvT hZ (hw _ (List.mem_of_getElem? (i := 41) rfl))) (mvT hZ (hw _ (List.mem_of_getElem? (i := 42) rfl))) (by decide) (backOf (W := 0) (rm8 l Z a0 hw [] r0 h0 n0 Z0) hZ (hw _ (List.mem_of_getElem? (i := 42) rfl)) (hw _ (List.mem_of_getElem? (i := 41) rfl)) (by decide) (by decide)) (g := (mkF m 5 #[.val (.ref a0t), .val (.ref r0), .val (.int p1), .val (.int p2), .val (.int p3)] [(.ref r0)])) rfl (by rw [hml]; rfl) (argsL := [(.ref r0)]) (rest := []) (lenOf pd_4 rfl) rfl (by show 2 * 0 + _ ≤ _; exact Nat.le_of_eq rfl) (hb hby d6_5) (fun _ _ => ⟨rfl, e1, (by decide : 0 + 0 ≤ _), (by decide : 0 + 0 ≤ _)⟩)
  dsimp only [Pt.U, Pt.locs, Pt.cells, Pt.slots] at X2 l2 y2 z2 st2 hQ2
  subst l2 y2 z2
  obtain ⟨rfl, N2q, e2⟩ := hQ2
  have N2 := Fr.app N1 N2q
  obtain ⟨T3, h3, X3, e3, W3, st3⟩ := putF X2 hx hZ hown (host := "") (Or.inl (hw _ (List.mem_of_getElem? (i := 43) rfl))) Via.refl e2 F_token E_this (Or.inr ⟨(hw _ (List.mem_of_getElem? (i := 44) rfl)), rfl, hnm⟩) (hw _ (List.mem_of_getElem? (i := 1) rfl)) (ty := (.object "java/lang/String")) (by decide) rfl rfl (g := (mkF m 11 #[.val (.ref a0t), .val (.ref r0), .val (.int p1), .val (.int p2), .val (.int p3)] [(.ref r0), (.ref a0t)])) rfl rfl (hb hby d6_11)
  have F_token_a0t_3 := F_token.same W3
  have F_atc_a0t_3 := F_atc.other W3 (Or.inr (slot_ne (Or.inr (hw _ (List.mem_of_getElem? (i := 46) rfl))) (Or.inr (hw _ (List.mem_of_getElem? (i := 44) rfl))) (by decide) (t := .int) (t' := (.object "java/lang/String")) (by decide) (by decide)))
  have F_previousAbove_a0t_3 := F_previousAbove.other W3 (Or.inr (slot_ne (Or.inr (hw _ (List.mem_of_getElem? (i := 48) rfl))) (Or.inr (hw _ (List.mem_of_getElem? (i := 44) rfl))) (by decide) (t := .int) (t' := (.object "java/lang/String")) (by decide) (by decide)))
  have F_previousBelow_a0t_3 := F_previousBelow.other W3 (Or.inr (slot_ne (Or.inr (hw _ (List.mem_of_getElem? (i := 50) rfl))) (Or.inr (hw _ (List.mem_of_getElem? (i := 44) rfl))) (by decide) (t := .int) (t' := (.object "java/lang/String")) (by decide) (by decide)))
  have E_a0t_3 := E_this.wr W3
  have N3 := Fr.snoc X3 N2 g_this
  have Zz3 := Nat.le_trans Z0 (Keep.of_wr W3).1
  have K3 : Keep h0 h3 [a0t] := K0.wr W3 (Or.inl (by simp))
  obtain ⟨T4, h4, X4, e4, W4, st4⟩ := putF X3 hx hZ hown (host := "") (Or.inl (hw _ (List.mem_of_getElem? (i := 45) rfl))) Via.refl e3 F_atc_a0t_3 E_a0t_3 (Or.inr ⟨(hw _ (List.mem_of_getElem? (i := 46) rfl)), rfl, hnm⟩) (hw _ (List.mem_of_getElem? (i := 1) rfl)) (ty := .int) (by decide) rfl rfl (g := (mkF m 16 #[.val (.ref a0t), .val (.ref r0), .val (.int p1), .val (.int p2), .val (.int p3)] [(.int p1), (.ref a0t)])) rfl rfl (hb hby d6_16)
  have F_token_a0t_4 := F_token_a0t_3.other W4 (Or.inr (slot_ne (Or.inr (hw _ (List.mem_of_getElem? (i := 44) rfl))) (Or.inr (hw _ (List.mem_of_getElem? (i := 46) rfl))) (by decide) (t := (.object "java/lang/String")) (t' := .int) (by decide) (by decide)))
  have F_atc_a0t_4 := F_atc_a0t_3.same W4
  have F_previousAbove_a0t_4 := F_previousAbove_a0t_3.other W4 (Or.inr (slot_ne (Or.inr (hw _ (List.mem_of_getElem? (i := 48) rfl))) (Or.inr (hw _ (List.mem_of_getElem? (i := 46) rfl))) (by decide) (t := .int) (t' := .int) (by decide) (by decide)))
  have F_previousBelow_a0t_4 := F_previousBelow_a0t_3.other W4 (Or.inr (slot_ne (Or.inr (hw _ (List.mem_of_getElem? (i := 50) rfl))) (Or.inr (hw _ (List.mem_of_getElem? (i := 46) rfl))) (by decide) (t := .int) (t' := .int) (by decide) (by decide)))
  have E_a0t_4 := E_a0t_3.wr W4
  have N4 := Fr.snoc X4 N3 g_this
  have Zz4 := Nat.le_trans Zz3 (Keep.of_wr W4).1
  have K4 : Keep h0 h4 [a0t] := K3.wr W4 (Or.inl (by simp))
  obtain ⟨T5, h5, X5, e5, W5, st5⟩ := putF X4 hx hZ hown (host := "") (Or.inl (hw _ (List.mem_of_getElem? (i := 47) rfl))) Via.refl e4 F_previousAbove_a0t_4 E_a0t_4 (Or.inr ⟨(hw _ (List.mem_of_getElem? (i := 48) rfl)), rfl, hnm⟩) (hw _ (List.mem_of_getElem? (i := 1) rfl)) (ty := .int) (by decide) rfl rfl (g := (mkF m 21 #[.val (.ref a0t), .val (.ref r0), .val (.int p1), .val (.int p2), .val (.int p3)] [(.int p2), (.ref a0t)])) rfl rfl (hb hby d6_21)
  have F_token_a0t_5 := F_token_a0t_4.other W5 (Or.inr (slot_ne (Or.inr (hw _ (List.mem_of_getElem? (i := 44) rfl))) (Or.inr (hw _ (List.mem_of_getElem? (i := 48) rfl))) (by decide) (t := (.object "java/lang/String")) (t' := .int) (by decide) (by decide)))
  have F_atc_a0t_5 := F_atc_a0t_4.other W5 (Or.inr (slot_ne (Or.inr (hw _ (List.mem_of_getElem? (i := 46) rfl))) (Or.inr (hw _ (List.mem_of_getElem? (i := 48) rfl))) (by decide) (t := .int) (t' := .int) (by decide) (by decide)))
  have F_previousAbove_a0t_5 := F_previousAbove_a0t_4.same W5
  have F_previousBelow_a0t_5 := F_previousBelow_a0t_4.other W5 (Or.inr (slot_ne (Or.inr (hw _ (List.mem_of_getElem? (i := 50) rfl))) (Or.inr (hw _ (List.mem_of_getElem? (i := 48) rfl))) (by decide) (t := .int) (t' := .int) (by decide) (by decide)))
  have E_a0t_5 := E_a0t_4.wr W5
  have N5 := Fr.snoc X5 N4 g_this
  have Zz5 := Nat.le_trans Zz4 (Keep.of_wr W5).1
  have K5 : Keep h0 h5 [a0t] := K4.wr W5 (Or.inl (by simp))
  obtain ⟨T6, h6, X6, e6, W6, st6⟩ := putF X5 hx hZ hown (host := "") (Or.inl (hw _ (List.mem_of_getElem? (i := 49) rfl))) Via.refl e5 F_previousBelow_a0t_5 E_a0t_5 (Or.inr ⟨(hw _ (List.mem_of_getElem? (i := 50) rfl)), rfl, hnm⟩) (hw _ (List.mem_of_getElem? (i := 1) rfl)) (ty := .int) (by decide) rfl rfl (g := (mkF m 27 #[.val (.ref a0t), .val (.ref r0), .val (.int p1), .val (.int p2), .val (.int p3)] [(.int p3), (.ref a0t)])) rfl rfl (hb hby d6_27)
  have F_token_a0t_6 := F_token_a0t_5.other W6 (Or.inr (slot_ne (Or.inr (hw _ (List.mem_of_getElem? (i := 44) rfl))) (Or.inr (hw _ (List.mem_of_getElem? (i := 50) rfl))) (by decide) (t := (.object "java/lang/String")) (t' := .int) (by decide) (by decide)))
  have F_atc_a0t_6 := F_atc_a0t_5.other W6 (Or.inr (slot_ne (Or.inr (hw _ (List.mem_of_getElem? (i := 46) rfl))) (Or.inr (hw _ (List.mem_of_getElem? (i := 50) rfl))) (by decide) (t := .int) (t' := .int) (by decide) (by decide)))
  have F_previousAbove_a0t_6 := F_previousAbove_a0t_5.other W6 (Or.inr (slot_ne (Or.inr (hw _ (List.mem_of_getElem? (i := 48) rfl))) (Or.inr (hw _ (List.mem_of_getElem? (i := 50) rfl))) (by decide) (t := .int) (t' := .int) (by decide) (by decide)))
  have F_previousBelow_a0t_6 := F_previousBelow_a0t_5.same W6
  have E_a0t_6 := E_a0t_5.wr W6
  have N6 := Fr.snoc X6 N5 g_this
  have Zz6 := Nat.le_trans Zz5 (Keep.of_wr W6).1
  have K6 : Keep h0 h6 [a0t] := K5.wr W6 (Or.inl (by simp))
  obtain ⟨fs, hr, hrun, hended, hW, hsame⟩ := X6.leave (v := none) (fun _ => rfl)
  refine ⟨_, _, pre0 _ ?_, hrun, hended, _, _, rfl, ?_, ⟨_, rfl⟩, hW, hsame.mono (by decide) (by decide)⟩
  · show Steps p.tables e below (s₁.setTop (mkF m 0 #[.val (.ref a0t), .val (.ref r0), .val (.int p1), .val (.int p2), .val (.int p3)] [])) _
    refine XS.aloadN X0.here hx rfl (hb hby d6_0) rfl rfl ?_
    show Steps p.tables e below (s₁.setTop (mkF m 1 #[.val (.ref a0t), .val (.ref r0), .val (.int p1), .val (.int p2), .val (.int p3)] [(.ref a0t)])) _
    refine st1.trans ?_
    show Steps p.tables e below (T1.setTop (mkF m 4 #[.val (.ref a0t), .val (.ref r0), .val (.int p1), .val (.int p2), .val (.int p3)] [])) _
    refine XS.aloadN X1.here hx rfl (hb hby d6_4) rfl rfl ?_
    show Steps p.tables e below (T1.setTop (mkF m 5 #[.val (.ref a0t), .val (.ref r0), .val (.int p1), .val (.int p2), .val (.int p3)] [(.ref r0)])) _
    refine st2 _ ?_
    show Steps p.tables e below (T2.setTop (mkF m 8 #[.val (.ref a0t), .val (.ref r0), .val (.int p1), .val (.int p2), .val (.int p3)] [(.ref r0)])) _
    refine XS.pop X2.here hx rfl (hb hby d6_8) rfl rfl ?_
    show Steps p.tables e below (T2.setTop (mkF m 9 #[.val (.ref a0t), .val (.ref r0), .val (.int p1), .val (.int p2), .val (.int p3)] [])) _
    refine XS.aloadN X2.here hx rfl (hb hby d6_9) rfl rfl ?_
    show Steps p.tables e below (T2.setTop (mkF m 10 #[.val (.ref a0t), .val (.ref r0), .val (.int p1), .val (.int p2), .val (.int p3)] [(.ref a0t)])) _
    refine XS.aloadN X2.here hx rfl (hb hby d6_10) rfl rfl ?_
    show Steps p.tables e below (T2.setTop (mkF m 11 #[.val (.ref a0t), .val (.ref r0), .val (.int p1), .val (.int p2), .val (.int p3)] [(.ref r0), (.ref a0t)])) _
    refine st3 _ ?_
    show Steps p.tables e below (T3.setTop (mkF m 14 #[.val (.ref a0t), .val (.ref r0), .val (.int p1), .val (.int p2), .val (.int p3)] [])) _
    refine XS.aloadN X3.here hx rfl (hb hby d6_14) rfl rfl ?_
    show Steps p.tables e below (T3.setTop (mkF m 15 #[.val (.ref a0t), .val (.ref r0), .val (.int p1), .val (.int p2), .val (.int p3)] [(.ref a0t)])) _
    refine XS.iloadN X3.here hx rfl (hb hby d6_15) rfl ?_
    show Steps p.tables e below (T3.setTop (mkF m 16 #[.val (.ref a0t), .val (.ref r0), .val (.int p1), .val (.int p2), .val (.int p3)] [(.int p1), (.ref a0t)])) _
    refine st4 _ ?_
    show Steps p.tables e below (T4.setTop (mkF m 19 #[.val (.ref a0t), .val (.ref r0), .val (.int p1), .val (.int p2), .val (.int p3)] [])) _
    refine XS.aloadN X4.here hx rfl (hb hby d6_19) rfl rfl ?_
    show Steps p.tables e below (T4.setTop (mkF m 20 #[.val (.ref a0t), .val (.ref r0), .val (.int p1), .val (.int p2), .val (.int p3)] [(.ref a0t)])) _
    refine XS.iloadN X4.here hx rfl (hb hby d6_20) rfl ?_
    show Steps p.tables e below (T4.setTop (mkF m 21 #[.val (.ref a0t), .val (.ref r0), .val (.int p1), .val (.int p2), .val (.int p3)] [(.int p2), (.ref a0t)])) _
    refine st5 _ ?_
    show Steps p.tables e below (T5.setTop (mkF m 24 #[.val (.ref a0t), .val (.ref r0), .val (.int p1), .val (.int p2), .val (.int p3)] [])) _
    refine XS.aloadN X5.here hx rfl (hb hby d6_24) rfl rfl ?_
    show Steps p.tables e below (T5.setTop (mkF m 25 #[.val (.ref a0t), .val (.ref r0), .val (.int p1), .val (.int p2), .val (.int p3)] [(.ref a0t)])) _
    refine XS.iload X5.here hx rfl (hb hby d6_25) rfl ?_
    show Steps p.tables e below (T5.setTop (mkF m 27 #[.val (.ref a0t), .val (.ref r0), .val (.int p1), .val (.int p2), .val (.int p3)] [(.int p3), (.ref a0t)])) _
    refine st6 _ ?_
    show Steps p.tables e below (T6.setTop (mkF m 30 #[.val (.ref a0t), .val (.ref r0), .val (.int p1), .val (.int p2), .val (.int p3)] [])) _
    exact X6.returnOut hx Bd.returns (hb hby d6_30) hr
  · show Q6 Z a0t r0 p1 p2 p3 w_token w_atc w_previousAbove w_previousBelow h0 n0 _ T6.heap _
    rw [e6]
    exact ⟨rfl, N6, K6, E_a0t_6, by rw [show f6_previousAbove p1 p2 p3 w_atc w_previousAbove w_previousBelow = p2 from by unfold f6_previousAbove; rfl]; exact F_previousAbove_a0t_6, by rw [show f6_previousBelow p1 p2 p3 w_atc w_previousAbove w_previousBelow = p3 from by unfold f6_previousBelow; rfl]; exact F_previousBelow_a0t_6⟩
theorem d9_0 : decode prog_32_method_2_code 0 = .ok (.iload_n 1, 1) := by decide +kernel
theorem d9_1 : decode prog_32_method_2_code 1 = .ok (.aload_n 0, 1) := by decide +kernel
theorem d9_2 : decode prog_32_method_2_code 2 = .ok (.getfield 23, 3) := by decide +kernel
theorem d9_5 : decode prog_32_method_2_code 5 = .ok (.if_icmp .le 15, 3) := by decide +kernel
theorem d9_8 : decode prog_32_method_2_code 8 = .ok (.iload_n 1, 1) := by decide +kernel
theorem d9_9 : decode prog_32_method_2_code 9 = .ok (.aload_n 0, 1) := by decide +kernel
theorem d9_10 : decode prog_32_method_2_code 10 = .ok (.getfield 26, 3) := by decide +kernel
theorem d9_13 : decode prog_32_method_2_code 13 = .ok (.if_icmp .ge 7, 3) := by decide +kernel
theorem d9_16 : decode prog_32_method_2_code 16 = .ok (.iconst 1, 1) := by decide +kernel
theorem d9_17 : decode prog_32_method_2_code 17 = .ok (.goto 4, 3) := by decide +kernel
theorem d9_20 : decode prog_32_method_2_code 20 = .ok (.iconst 0, 1) := by decide +kernel
theorem d9_21 : decode prog_32_method_2_code 21 = .ok (.ireturn, 1) := by decide +kernel
theorem ef_9 (m : MethodId) (x0 : Addr) (x1 : Int32) : entryFrame m #[(.ref x0), (.int x1)] 2 = mkF m 0 #[.val (.ref x0), .val (.int x1)] [] := by first | (simp [entryFrame, mkF, argsToLocals, Value.category]; done) | rfl
def f9 (p0 : Int32) (w_previousAbove : Int32) (w_previousBelow : Int32) : Int32 := (if w_previousAbove < p0 then (if p0 < w_previousBelow then (1 : Int32) else (0 : Int32)) else (0 : Int32))
def Q9 (Z : State) (a0t : Addr) (p0 : Int32) (w_previousAbove : Int32) (w_previousBelow : Int32) (h0 : Heap) (n0 : Nat) (v : Option Value) (h : Heap) (L : List Loc) : Prop := v = some (.int (f9 p0 w_previousAbove w_previousBelow)) ∧ Fr n0 L ∧ h = h0
set_option maxRecDepth 65536 in
set_option maxHeartbeats 40000000 in
theorem rm9 (l : Launch) (Z : State) (a0 : Array Value) (hw : ∀ d ∈ tables_1, d.before a0 Z = true) (ws : List Jvm.Cond) (a0t : Addr) (p0 : Int32) (w_previousAbove : Int32) (w_previousBelow : Int32) (h0 : Heap) (n0 : Nat) (Z0 : n0 ≤ h0.size) (E_this : Exa Z h0 a0t "com/example/vaultgate/vaultgate/history/AtcClaim") (g_this : n0 ≤ a0t) (F_previousAbove : Fld Z h0 a0t "com/example/vaultgate/vaultgate/history/AtcClaim" "previousAbove" "I" (.int w_previousAbove)) (F_previousBelow : Fld Z h0 a0t "com/example/vaultgate/vaultgate/history/AtcClaim" "previousBelow" "I" (.int w_previousBelow)) :
    MetFree l (⟨"com/example/vaultgate/vaultgate/history/AtcClaim", "follows", "(I)Z"⟩ : MethodName) (head1 (Jvm.Cond.code (⟨"com/example/vaultgate/vaultgate/history/AtcClaim", "follows", "(I)Z"⟩ : MethodName) prog_32_method_2_code 2 (some .boolean) :: ws) ({ frames := 0, cells := 0, slots := 0, locals := 0 } : Room)) (fun a U => a = #[(.ref a0t), (.int p0)] ∧ Z.Warmed39 U.vm ∧ U.heap = h0) (fun _ _ _ _ _ => True) (fun _ U o U' => ∃ v L, o = .returned v ∧ Q9 Z a0t p0 w_previousAbove w_previousBelow h0 n0 v U'.heap L ∧ FrameEnd U o U' L ({ frames := 0, cells := 0, slots := 0, locals := 0 } : Room).cells ({ frames := 0, cells := 0, slots := 0, locals := 0 } : Room).slots) := by
  refine MetFree.of_bodySF (plainFor_of_name pn_4) hisR ?_
  intro p e s m args below meth c s₁ Bd hml0 hP hK
  obtain ⟨rfl, hZ, hh⟩ := hP
  have hx := Bd.exec
  have hby := Bd.bytes
  have hml : c.maxLocals = 2 := hml0
  have hown : s.vm.findClass "com/example/vaultgate/vaultgate/history/AtcClaim" = some m.cls := findClass_of_methodNamed Bd.named
  have hnm := (name_of_methodNamed Bd.named Bd.method).1
  have X0 : Stand p l e ({ frames := 0, cells := 0, slots := 0, locals := 0 } : Room) s m #[(.ref a0t), (.int p0)] below meth c s₁ [] 0 0 := Stand.of_body Bd
  have e0 : s₁.heap = h0 := by rw [← hh, Bd.state]; rfl
  have N0 := Fr.nil n0
  have K0 := Keep.refl h0 [a0t]
  have pre0 : ∀ t, Steps p.tables e below (s₁.setTop (mkF m 0 #[.val (.ref a0t), .val (.int p0)] [])) t → Steps p.tables e below (s₁.setTop (entryFrame m #[(.ref a0t), (.int p0)] 2)) t := fun t k => castTop (ef_9 m a0t p0) k
  obtain ⟨T1, X1, e1, st1⟩ := getF X0 hx hZ hown (host := "") (Or.inl (hw _ (List.mem_of_getElem? (i := 47) rfl))) Via.refl e0 F_previousAbove (g := (mkF m 2 #[.val (.ref a0t), .val (.int p0)] [(.ref a0t), (.int p0)])) rfl rfl (hb hby d9_2)
  have pre2 : ∀ t, Steps p.tables e below (T1.setTop (mkF m 5 #[.val (.ref a0t), .val (.int p0)] [(.int w_previousAbove), (.int p0)])) t → Steps p.tables e below (s₁.setTop (entryFrame m #[(.ref a0t), (.int p0)] 2)) t := fun t kt => pre0 t (by
    show Steps p.tables e below (s₁.setTop (mkF m 0 #[.val (.ref a0t), .val (.int p0)] [])) _
    refine XS.iloadN X0.here hx rfl (hb hby d9_0) rfl ?_
    show Steps p.tables e below (s₁.setTop (mkF m 1 #[.val (.ref a0t), .val (.int p0)] [(.int p0)])) _
    refine XS.aloadN X0.here hx rfl (hb hby d9_1) rfl rfl ?_
    show Steps p.tables e below (s₁.setTop (mkF m 2 #[.val (.ref a0t), .val (.int p0)] [(.ref a0t), (.int p0)])) _
    refine st1 _ ?_
    exact kt)
  by_cases hc3 : w_previousAbove < p0
  · obtain ⟨T4, X4, e4, st4⟩ := getF X1 hx hZ hown (host := "") (Or.inl (hw _ (List.mem_of_getElem? (i := 49) rfl))) Via.refl e1 F_previousBelow (g := (mkF m 10 #[.val (.ref a0t), .val (.int p0)] [(.ref a0t), (.int p0)])) rfl rfl (hb hby d9_10)
    have pre5 : ∀ t, Steps p.tables e below (T4.setTop (mkF m 13 #[.val (.ref a0t), .val (.int p0)] [(.int w_previousBelow), (.int p0)])) t → Steps p.tables e below (s₁.setTop (entryFrame m #[(.ref a0t), (.int p0)] 2)) t := fun t kt => pre2 t (by
      show Steps p.tables e below (T1.setTop (mkF m 5 #[.val (.ref a0t), .val (.int p0)] [(.int w_previousAbove), (.int p0)])) _
      refine XS.icmpNo X1.here hx rfl (hb hby d9_5) rfl (tlt hc3).2.2.2 ?_
      show Steps p.tables e below (T1.setTop (mkF m 8 #[.val (.ref a0t), .val (.int p0)] [])) _
      refine XS.iloadN X1.here hx rfl (hb hby d9_8) rfl ?_
      show Steps p.tables e below (T1.setTop (mkF m 9 #[.val (.ref a0t), .val (.int p0)] [(.int p0)])) _
      refine XS.aloadN X1.here hx rfl (hb hby d9_9) rfl rfl ?_
      show Steps p.tables e below (T1.setTop (mkF m 10 #[.val (.ref a0t), .val (.int p0)] [(.ref a0t), (.int p0)])) _
      refine st4 _ ?_
      exact kt)
    by_cases hc6 : p0 < w_previousBelow
    · obtain ⟨fs, hr, hrun, hended, hW, hsame⟩ := X4.leave (v := some (.int (1 : Int32))) (fun h => by rw [Bd.returns] at h; cases h)
      refine ⟨_, _, pre5 _ ?_, hrun, hended, _, _, rfl, ?_, ⟨_, rfl⟩, hW, hsame.mono (by decide) (by decide)⟩
      · show Steps p.tables e below (T4.setTop (mkF m 13 #[.val (.ref a0t), .val (.int p0)] [(.int w_previousBelow), (.int p0)])) _
        refine XS.icmpNo X4.here hx rfl (hb hby d9_13) rfl (tlt hc6).2.1 ?_
        show Steps p.tables e below (T4.setTop (mkF m 16 #[.val (.ref a0t), .val (.int p0)] [])) _
        refine XS.iconst X4.here hx rfl (hb hby d9_16) ?_
        show Steps p.tables e below (T4.setTop (mkF m 17 #[.val (.ref a0t), .val (.int p0)] [(.int (1 : Int32))])) _
        refine XS.goto X4.here hx rfl (pc0 := 17) (pc' := 21) rfl (hb hby d9_17) (by decide) (by decide) ?_
        show Steps p.tables e below (T4.setTop (mkF m 21 #[.val (.ref a0t), .val (.int p0)] [(.int (1 : Int32))])) _
        exact retN X4 hx (t := .boolean) Bd.returns (by simp) (hb hby d9_21) hr
      · show Q9 Z a0t p0 w_previousAbove w_previousBelow h0 n0 _ T4.heap _
        rw [e4]
        exact ⟨by rw [show f9 p0 w_previousAbove w_previousBelow = (1 : Int32) from by unfold f9; rw [if_pos hc3, if_pos hc6]], N0, rfl⟩
    · obtain ⟨fs, hr, hrun, hended, hW, hsame⟩ := X4.leave (v := some (.int (0 : Int32))) (fun h => by rw [Bd.returns] at h; cases h)
      refine ⟨_, _, pre5 _ ?_, hrun, hended, _, _, rfl, ?_, ⟨_, rfl⟩, hW, hsame.mono (by decide) (by decide)⟩
      · show Steps p.tables e below (T4.setTop (mkF m 13 #[.val (.ref a0t), .val (.int p0)] [(.int w_previousBelow), (.int p0)])) _
        refine XS.icmpYes X4.here hx rfl (pc0 := 13) (pc' := 20) rfl (hb hby d9_13) rfl (flt hc6).2.1 (by decide) (by decide) ?_
        show Steps p.tables e below (T4.setTop (mkF m 20 #[.val (.ref a0t), .val (.int p0)] [])) _
        refine XS.iconst X4.here hx rfl (hb hby d9_20) ?_
        show Steps p.tables e below (T4.setTop (mkF m 21 #[.val (.ref a0t), .val (.int p0)] [(.int (0 : Int32))])) _
        exact retN X4 hx (t := .boolean) Bd.returns (by simp) (hb hby d9_21) hr
      · show Q9 Z a0t p0 w_previousAbove w_previousBelow h0 n0 _ T4.heap _
        rw [e4]
        exact ⟨by rw [show f9 p0 w_previousAbove w_previousBelow = (0 : Int32) from by unfold f9; rw [if_pos hc3, if_neg hc6]], N0, rfl⟩
  · obtain ⟨fs, hr, hrun, hended, hW, hsame⟩ := X1.leave (v := some (.int (0 : Int32))) (fun h => by rw [Bd.returns] at h; cases h)
    refine ⟨_, _, pre2 _ ?_, hrun, hended, _, _, rfl, ?_, ⟨_, rfl⟩, hW, hsame.mono (by decide) (by decide)⟩
    · show Steps p.tables e below (T1.setTop (mkF m 5 #[.val (.ref a0t), .val (.int p0)] [(.int w_previousAbove), (.int p0)])) _
      refine XS.icmpYes X1.here hx rfl (pc0 := 5) (pc' := 20) rfl (hb hby d9_5) rfl (flt hc3).2.2.2 (by decide) (by decide) ?_
      show Steps p.tables e below (T1.setTop (mkF m 20 #[.val (.ref a0t), .val (.int p0)] [])) _
      refine XS.iconst X1.here hx rfl (hb hby d9_20) ?_
      show Steps p.tables e below (T1.setTop (mkF m 21 #[.val (.ref a0t), .val (.int p0)] [(.int (0 : Int32))])) _
      exact retN X1 hx (t := .boolean) Bd.returns (by simp) (hb hby d9_21) hr
    · show Q9 Z a0t p0 w_previousAbove w_previousBelow h0 n0 _ T1.heap _
      rw [e1]
      exact ⟨by rw [show f9 p0 w_previousAbove w_previousBelow = (0 : Int32) from by unfold f9; rw [if_neg hc3]], N0, rfl⟩
theorem own_enc (p5 : Int32) : ¬ (f2 ((p5 &&& (255 : Int32)).toUInt32.toUInt16.toUInt32.toInt32) = (0 : Int32)) := by
  have e := c_mask p5 255 8 (by decide) (by decide)
  have e2 : ((2 ^ 8 : Nat) : Int) = 256 := by decide
  rw [e2] at e
  have c := c_i2c (p5 &&& 255)
  have l : (255 : Int32).toInt = 255 := rfl
  unfold f2
  rw [if_neg (by rw [Int32.lt_iff_toInt_lt]; omega)]
  decide
theorem pd_5 : parseMethodDescriptor "(C)Ljava/lang/String;" = some ⟨[.char], some (.object "java/lang/String")⟩ := by decide +kernel
theorem pd_6 : parseMethodDescriptor "(Ljava/lang/String;III)V" = some ⟨[(.object "java/lang/String"), .int, .int, .int], none⟩ := by decide +kernel
theorem pd_7 : parseMethodDescriptor "(I)Z" = some ⟨[.int], some .boolean⟩ := by decide +kernel
theorem pn_5 : plainName "com/example/vaultgate/vaultgate/history/AtcClaimFollowsPinLaw" = true := by first | (simp [plainName, overriddenIn]; done) | decide +kernel
theorem ef_0 (m : MethodId) (x0 : Int32) (x1 : Int32) (x2 : Int32) (x3 : Int32) (x4 : Int32) (x5 : Int32) : entryFrame m #[(.int x0), (.int x1), (.int x2), (.int x3), (.int x4), (.int x5)] maxLocals = mkF m 0 #[.val (.int x0), .val (.int x1), .val (.int x2), .val (.int x3), .val (.int x4), .val (.int x5), .unset, .unset, .unset, .unset, .unset, .unset, .unset, .unset, .unset, .unset, .unset] [] := by first | (simp [entryFrame, mkF, argsToLocals, Value.category, maxLocals]; done) | rfl
def f0_e1 (p0 : Int32) (p1 : Int32) (p4 : Int32) : Int32 := (f6_previousAbove (p4 &&& (65535 : Int32)) p0 p1 (0 : Int32) (0 : Int32) (0 : Int32))
def f0_e2 (p0 : Int32) (p1 : Int32) (p4 : Int32) : Int32 := (f6_previousBelow (p4 &&& (65535 : Int32)) p0 p1 (0 : Int32) (0 : Int32) (0 : Int32))
def f0_l9_71001 (p0 : Int32) (p1 : Int32) (p2 : Int32) (p3 : Int32) : Int32 := (if (p3 &&& (3 : Int32)) = (1 : Int32) then (p0 + ((p2 &&& (3 : Int32)) - (1 : Int32))) else (if (p3 &&& (3 : Int32)) = (2 : Int32) then (p1 + ((p2 &&& (3 : Int32)) - (1 : Int32))) else p2))
def f0_e3 (p0 : Int32) (p1 : Int32) (p2 : Int32) (p3 : Int32) : Int32 := (lcmpW (((f0_l9_71001 p0 p1 p2 p3).toInt64) - (p0.toInt64)) (0 : Int64))
def f0_e4 (p0 : Int32) (p1 : Int32) (p2 : Int32) (p3 : Int32) : Int32 := (lcmpW ((p1.toInt64) - ((f0_l9_71001 p0 p1 p2 p3).toInt64)) (0 : Int64))
def f0_s0_115002 (p0 : Int32) (p1 : Int32) (p2 : Int32) (p3 : Int32) : Int32 := (if (0 : Int32) < (f0_e3 p0 p1 p2 p3) then (if (0 : Int32) < (f0_e4 p0 p1 p2 p3) then (1 : Int32) else (0 : Int32)) else (0 : Int32))
def f0_s0_140003 (p0 : Int32) (p1 : Int32) (p4 : Int32) : Int32 := (if (f9 p1 (f0_e1 p0 p1 p4) (f0_e2 p0 p1 p4)) = (0 : Int32) then (1 : Int32) else (0 : Int32))
def f0_s0_140004 (p0 : Int32) (p1 : Int32) (p4 : Int32) : Int32 := (if (f9 p0 (f0_e1 p0 p1 p4) (f0_e2 p0 p1 p4)) = (0 : Int32) then (f0_s0_140003 p0 p1 p4) else (0 : Int32))
def f0 (p0 : Int32) (p1 : Int32) (p2 : Int32) (p3 : Int32) (p4 : Int32) (p5 : Int32) (zC : Int32) : Int32 := (if (f9 (f0_l9_71001 p0 p1 p2 p3) (f0_e1 p0 p1 p4) (f0_e2 p0 p1 p4)) = (f0_s0_115002 p0 p1 p2 p3) then (if (f0_s0_140004 p0 p1 p4) = (0 : Int32) then (0 : Int32) else (1 : Int32)) else (0 : Int32))
def Q0 (Z : State) (p0 : Int32) (p1 : Int32) (p2 : Int32) (p3 : Int32) (p4 : Int32) (p5 : Int32) (zC : Int32) (h0 : Heap) (n0 : Nat) (v : Option Value) (h : Heap) (L : List Loc) : Prop := v = some (.int (f0 p0 p1 p2 p3 p4 p5 zC)) ∧ Fr n0 L
set_option maxRecDepth 65536 in
set_option maxHeartbeats 40000000 in
theorem rm0 (l : Launch) (Z : State) (a0 : Array Value) (hw : ∀ d ∈ tables_1, d.before a0 Z = true) (ws : List Jvm.Cond) (p0 : Int32) (p1 : Int32) (p2 : Int32) (p3 : Int32) (p4 : Int32) (p5 : Int32) (zC : Int32) (h0 : Heap) (n0 : Nat) (Z0 : n0 ≤ h0.size) (hzC : ¬ (zC = (0 : Int32))) (S_C : Sta Z h0 "java/lang/String" "COMPACT_STRINGS" "Z" (.int zC)) :
    MetFree l x (head1 (Jvm.Cond.code x code maxLocals ret :: ws) room_1) (fun a U => a = #[(.int p0), (.int p1), (.int p2), (.int p3), (.int p4), (.int p5)] ∧ Z.Warmed39 U.vm ∧ U.heap = h0) (fun _ _ _ _ _ => True) (fun _ U o U' => ∃ v L, o = .returned v ∧ Q0 Z p0 p1 p2 p3 p4 p5 zC h0 n0 v U'.heap L ∧ FrameEnd U o U' L room_1.cells room_1.slots) := by
  refine MetFree.of_bodySF (plainFor_of_name pn_5) hisR ?_
  intro p e s m args below meth c s₁ Bd hml0 hP hK
  obtain ⟨rfl, hZ, hh⟩ := hP
  have hx := Bd.exec
  have hby := Bd.bytes
  have hml : c.maxLocals = 17 := hml0
  have hown : s.vm.findClass "com/example/vaultgate/vaultgate/history/AtcClaimFollowsPinLaw" = some m.cls := findClass_of_methodNamed Bd.named
  have hnm := (name_of_methodNamed Bd.named Bd.method).1
  have X0 : Stand p l e room_1 s m #[(.int p0), (.int p1), (.int p2), (.int p3), (.int p4), (.int p5)] below meth c s₁ [] 0 0 := Stand.of_body Bd
  have e0 : s₁.heap = h0 := by rw [← hh, Bd.state]; rfl
  have N0 := Fr.nil n0
  have K0 := Keep.refl h0 []
  have pre0 : ∀ t, Steps p.tables e below (s₁.setTop (mkF m 0 #[.val (.int p0), .val (.int p1), .val (.int p2), .val (.int p3), .val (.int p4), .val (.int p5), .unset, .unset, .unset, .unset, .unset, .unset, .unset, .unset, .unset, .unset, .unset] [])) t → Steps p.tables e below (s₁.setTop (entryFrame m #[(.int p0), (.int p1), (.int p2), (.int p3), (.int p4), (.int p5)] maxLocals)) t := fun t k => castTop (ef_0 m p0 p1 p2 p3 p4 p5) k
  obtain ⟨T1, h1, X1, e1, E1, A1, D1, -, st1⟩ := newO X0 hx hZ hown (hw _ (List.mem_of_getElem? (i := 0) rfl)) (hw _ (List.mem_of_getElem? (i := 1) rfl)) (hw _ (List.mem_of_getElem? (i := 2) rfl)) e0 (g := (mkF m 0 #[.val (.int p0), .val (.int p1), .val (.int p2), .val (.int p3), .val (.int p4), .val (.int p5), .unset, .unset, .unset, .unset, .unset, .unset, .unset, .unset, .unset, .unset, .unset] [])) rfl (hb hby at_0) (by decide) (by decide)
  obtain ⟨b1, g1⟩ : ∃ z, z = h0.size := ⟨_, rfl⟩
  rw [← g1] at A1 D1 st1
  have gn_b1 : n0 ≤ b1 := Nat.le_trans Z0 (Nat.le_of_eq g1.symm)
  have sz_b1 : h0.size ≤ b1 := Nat.le_trans K0.1 (Nat.le_of_eq g1.symm)
  have S_COMPACT_STRINGS_1 := S_C.ext E1
  have Zz1 := Nat.le_trans Z0 E1.1
  have K1 := K0.ext E1
  have F_token_b1 : Fld Z h1 b1 "com/example/vaultgate/vaultgate/history/AtcClaim" "token" "Ljava/lang/String;" .null := D1 (Or.inr (hw _ (List.mem_of_getElem? (i := 44) rfl))) (ty := (.object "java/lang/String")) (by decide)
  have F_atc_b1 : Fld Z h1 b1 "com/example/vaultgate/vaultgate/history/AtcClaim" "atc" "I" (.int (0 : Int32)) := D1 (Or.inr (hw _ (List.mem_of_getElem? (i := 46) rfl))) (ty := .int) (by decide)
  have F_previousAbove_b1 : Fld Z h1 b1 "com/example/vaultgate/vaultgate/history/AtcClaim" "previousAbove" "I" (.int (0 : Int32)) := D1 (Or.inr (hw _ (List.mem_of_getElem? (i := 48) rfl))) (ty := .int) (by decide)
  have F_previousBelow_b1 : Fld Z h1 b1 "com/example/vaultgate/vaultgate/history/AtcClaim" "previousBelow" "I" (.int (0 : Int32)) := D1 (Or.inr (hw _ (List.mem_of_getElem? (i := 50) rfl))) (ty := .int) (by decide)
  obtain ⟨_, _, ⟨T2, L2, k2, n2⟩, -, X2, ⟨Lc2, hQ2, l2, y2, z2⟩, st2⟩ := Jvm.LawKit.callS X1 hx (y := (⟨"java/lang/String", "valueOf", "(C)Ljava/lang/String;"⟩ : MethodName)) hown (mvT hZ (hw _ (List.mem_of_getElem? (i := 3) rfl))) (mvT hZ (hw _ (List.mem_of_getElem? (i := 4) rfl))) (mvT hZ (hw _ (List.mem_of_getElem? (i := 5) rfl))) (mvT hZ (hw _ (List.mem_of_getElem? (i := 6) rfl))) (by decide) (backOf (W := 2) (rm1 l Z a0 hw [] ((p5 &&& (255 : Int32)).toUInt32.toUInt16.toUInt32.toInt32) zC h1 n0 Zz1 hzC (own_enc p5) S_COMPACT_STRINGS_1) hZ (hw _ (List.mem_of_getElem? (i := 6) rfl)) (hw _ (List.mem_of_getElem? (i := 5) rfl)) (by decide) (by decide)) (g := (mkF m 11 #[.val (.int p0), .val (.int p1), .val (.int p2), .val (.int p3), .val (.int p4), .val (.int p5), .unset, .unset, .unset, .unset, .unset, .unset, .unset, .unset, .unset, .unset, .unset] [(.int ((p5 &&& (255 : Int32)).toUInt32.toUInt16.toUInt32.toInt32)), (.ref b1), (.ref b1)])) rfl (by rw [hml]; rfl) (argsL := [(.int ((p5 &&& (255 : Int32)).toUInt32.toUInt16.toUInt32.toInt32))]) (rest := [(.ref b1), (.ref b1)]) (lenOf pd_5 rfl) rfl (by show 2 * 0 + _ ≤ _; exact Nat.le_of_eq rfl) (hb hby at_11) (fun _ _ => ⟨rfl, e1, (by decide : 1 + 2 ≤ _), (by decide : 4 + 5 ≤ _)⟩)
  dsimp only [Pt.U, Pt.locs, Pt.cells, Pt.slots] at X2 l2 y2 z2 st2 hQ2
  subst l2 y2 z2
  obtain ⟨b2, rfl, N2q, K2q, g2q⟩ := hQ2
  have ne_b1_b2 : b1 ≠ b2 := Nat.ne_of_lt (Nat.lt_of_lt_of_le A1.lt g2q)
  have E_b1_2 := A1.keep K2q
  have F_token_b1_2 := F_token_b1.keep K2q nin0
  have F_atc_b1_2 := F_atc_b1.keep K2q nin0
  have F_previousAbove_b1_2 := F_previousAbove_b1.keep K2q nin0
  have F_previousBelow_b1_2 := F_previousBelow_b1.keep K2q nin0
  have gn_b2 : n0 ≤ b2 := Nat.le_trans Zz1 g2q
  have sz_b2 : h0.size ≤ b2 := Nat.le_trans K1.1 g2q
  have Zz2 := Nat.le_trans Zz1 K2q.1
  have K2 : Keep h0 T2.heap [] := K1.trans K2q all0
  have N2 := Fr.app N0 N2q
  obtain ⟨_, _, ⟨T3, L3, k3, n3⟩, -, X3, ⟨Lc3, hQ3, l3, y3, z3⟩, st3⟩ := X2.specialBack hx (y := (⟨"com/example/vaultgate/vaultgate/history/AtcClaim", "<init>", "(Ljava/lang/String;III)V"⟩ : MethodName)) rfl hown (mvT hZ (hw _ (List.mem_of_getElem? (i := 30) rfl))) (mvT hZ (hw _ (List.mem_of_getElem? (i := 31) rfl))) (mvT hZ (hw _ (List.mem_of_getElem? (i := 32) rfl))) (by decide) (backOf (W := 1) (rm6 l Z a0 hw [] b1 b2 (p4 &&& (65535 : Int32)) p0 p1 .null (0 : Int32) (0 : Int32) (0 : Int32) T2.heap n0 Zz2 E_b1_2 gn_b1 F_token_b1_2 F_atc_b1_2 F_previousAbove_b1_2 F_previousBelow_b1_2) hZ (hw _ (List.mem_of_getElem? (i := 32) rfl)) (hw _ (List.mem_of_getElem? (i := 2) rfl)) (by decide) (by decide)) (g := (mkF m 21 #[.val (.int p0), .val (.int p1), .val (.int p2), .val (.int p3), .val (.int p4), .val (.int p5), .unset, .unset, .unset, .unset, .unset, .unset, .unset, .unset, .unset, .unset, .unset] [(.int p1), (.int p0), (.int (p4 &&& (65535 : Int32))), (.ref b2), (.ref b1), (.ref b1)])) rfl (by rw [hml]; rfl) (Steps.refl _) (a := b1) (argsL := [(.ref b2), (.int (p4 &&& (65535 : Int32))), (.int p0), (.int p1)]) (rest := [(.ref b1)]) (lenOf pd_6 rfl) rfl (by show 2 * 0 + _ ≤ _; exact Nat.le_of_eq rfl) (hb hby at_21) (fun _ _ => ⟨rfl, rfl, (by decide : 3 + 0 ≤ _), (by decide : 9 + 0 ≤ _)⟩)
  dsimp only [Pt.U, Pt.locs, Pt.cells, Pt.slots] at X3 l3 y3 z3 st3 hQ3
  subst l3 y3 z3
  obtain ⟨rfl, N3q, K3q, E3q, F3q_previousAbove, F3q_previousBelow⟩ := hQ3
  have F3n_previousAbove : Fld Z T3.heap b1 "com/example/vaultgate/vaultgate/history/AtcClaim" "previousAbove" "I" (.int (f0_e1 p0 p1 p4)) := F3q_previousAbove
  have F3n_previousBelow : Fld Z T3.heap b1 "com/example/vaultgate/vaultgate/history/AtcClaim" "previousBelow" "I" (.int (f0_e2 p0 p1 p4)) := F3q_previousBelow
  have Zz3 := Nat.le_trans Zz2 K3q.1
  have K3 : Keep h0 T3.heap [] := K2.trans K3q (allS (Or.inr sz_b1) all0)
  have N3 := Fr.app N2 N3q
  have pre4 : ∀ t, Steps p.tables e below (T3.setTop (mkF m 41 #[.val (.int p0), .val (.int p1), .val (.int p2), .val (.int p3), .val (.int p4), .val (.int p5), .val (.ref b1), .val (.int ((p2 &&& (3 : Int32)) - (1 : Int32))), .val (.int (p3 &&& (3 : Int32))), .unset, .unset, .unset, .unset, .unset, .unset, .unset, .unset] [(.int (1 : Int32)), (.int (p3 &&& (3 : Int32)))])) t → Steps p.tables e below (s₁.setTop (entryFrame m #[(.int p0), (.int p1), (.int p2), (.int p3), (.int p4), (.int p5)] maxLocals)) t := fun t kt => pre0 t (by
    show Steps p.tables e below (s₁.setTop (mkF m 0 #[.val (.int p0), .val (.int p1), .val (.int p2), .val (.int p3), .val (.int p4), .val (.int p5), .unset, .unset, .unset, .unset, .unset, .unset, .unset, .unset, .unset, .unset, .unset] [])) _
    refine st1 _ ?_
    show Steps p.tables e below (T1.setTop (mkF m 3 #[.val (.int p0), .val (.int p1), .val (.int p2), .val (.int p3), .val (.int p4), .val (.int p5), .unset, .unset, .unset, .unset, .unset, .unset, .unset, .unset, .unset, .unset, .unset] [(.ref b1)])) _
    refine XS.dup X1.here hx rfl (hb hby at_3) rfl rfl ?_
    show Steps p.tables e below (T1.setTop (mkF m 4 #[.val (.int p0), .val (.int p1), .val (.int p2), .val (.int p3), .val (.int p4), .val (.int p5), .unset, .unset, .unset, .unset, .unset, .unset, .unset, .unset, .unset, .unset, .unset] [(.ref b1), (.ref b1)])) _
    refine XS.iload X1.here hx rfl (hb hby at_4) rfl ?_
    show Steps p.tables e below (T1.setTop (mkF m 6 #[.val (.int p0), .val (.int p1), .val (.int p2), .val (.int p3), .val (.int p4), .val (.int p5), .unset, .unset, .unset, .unset, .unset, .unset, .unset, .unset, .unset, .unset, .unset] [(.int p5), (.ref b1), (.ref b1)])) _
    refine XS.sipush X1.here hx rfl (hb hby at_6) ?_
    show Steps p.tables e below (T1.setTop (mkF m 9 #[.val (.int p0), .val (.int p1), .val (.int p2), .val (.int p3), .val (.int p4), .val (.int p5), .unset, .unset, .unset, .unset, .unset, .unset, .unset, .unset, .unset, .unset, .unset] [(.int (255 : Int32)), (.int p5), (.ref b1), (.ref b1)])) _
    refine XS.iand X1.here hx rfl (hb hby at_9) rfl ?_
    show Steps p.tables e below (T1.setTop (mkF m 10 #[.val (.int p0), .val (.int p1), .val (.int p2), .val (.int p3), .val (.int p4), .val (.int p5), .unset, .unset, .unset, .unset, .unset, .unset, .unset, .unset, .unset, .unset, .unset] [(.int (p5 &&& (255 : Int32))), (.ref b1), (.ref b1)])) _
    refine XS.i2c X1.here hx rfl (hb hby at_10) rfl ?_
    show Steps p.tables e below (T1.setTop (mkF m 11 #[.val (.int p0), .val (.int p1), .val (.int p2), .val (.int p3), .val (.int p4), .val (.int p5), .unset, .unset, .unset, .unset, .unset, .unset, .unset, .unset, .unset, .unset, .unset] [(.int ((p5 &&& (255 : Int32)).toUInt32.toUInt16.toUInt32.toInt32)), (.ref b1), (.ref b1)])) _
    refine st2 _ ?_
    show Steps p.tables e below (T2.setTop (mkF m 14 #[.val (.int p0), .val (.int p1), .val (.int p2), .val (.int p3), .val (.int p4), .val (.int p5), .unset, .unset, .unset, .unset, .unset, .unset, .unset, .unset, .unset, .unset, .unset] [(.ref b2), (.ref b1), (.ref b1)])) _
    refine XS.iload X2.here hx rfl (hb hby at_14) rfl ?_
    show Steps p.tables e below (T2.setTop (mkF m 16 #[.val (.int p0), .val (.int p1), .val (.int p2), .val (.int p3), .val (.int p4), .val (.int p5), .unset, .unset, .unset, .unset, .unset, .unset, .unset, .unset, .unset, .unset, .unset] [(.int p4), (.ref b2), (.ref b1), (.ref b1)])) _
    refine X2.ldcInt hx hown (mvT hZ (hw _ (List.mem_of_getElem? (i := 29) rfl))) (g := (mkF m 16 #[.val (.int p0), .val (.int p1), .val (.int p2), .val (.int p3), .val (.int p4), .val (.int p5), .unset, .unset, .unset, .unset, .unset, .unset, .unset, .unset, .unset, .unset, .unset] [(.int p4), (.ref b2), (.ref b1), (.ref b1)])) rfl (hb hby at_16) _ ?_
    show Steps p.tables e below (T2.setTop (mkF m 18 #[.val (.int p0), .val (.int p1), .val (.int p2), .val (.int p3), .val (.int p4), .val (.int p5), .unset, .unset, .unset, .unset, .unset, .unset, .unset, .unset, .unset, .unset, .unset] [(.int (65535 : Int32)), (.int p4), (.ref b2), (.ref b1), (.ref b1)])) _
    refine XS.iand X2.here hx rfl (hb hby at_18) rfl ?_
    show Steps p.tables e below (T2.setTop (mkF m 19 #[.val (.int p0), .val (.int p1), .val (.int p2), .val (.int p3), .val (.int p4), .val (.int p5), .unset, .unset, .unset, .unset, .unset, .unset, .unset, .unset, .unset, .unset, .unset] [(.int (p4 &&& (65535 : Int32))), (.ref b2), (.ref b1), (.ref b1)])) _
    refine XS.iloadN X2.here hx rfl (hb hby at_19) rfl ?_
    show Steps p.tables e below (T2.setTop (mkF m 20 #[.val (.int p0), .val (.int p1), .val (.int p2), .val (.int p3), .val (.int p4), .val (.int p5), .unset, .unset, .unset, .unset, .unset, .unset, .unset, .unset, .unset, .unset, .unset] [(.int p0), (.int (p4 &&& (65535 : Int32))), (.ref b2), (.ref b1), (.ref b1)])) _
    refine XS.iloadN X2.here hx rfl (hb hby at_20) rfl ?_
    show Steps p.tables e below (T2.setTop (mkF m 21 #[.val (.int p0), .val (.int p1), .val (.int p2), .val (.int p3), .val (.int p4), .val (.int p5), .unset, .unset, .unset, .unset, .unset, .unset, .unset, .unset, .unset, .unset, .unset] [(.int p1), (.int p0), (.int (p4 &&& (65535 : Int32))), (.ref b2), (.ref b1), (.ref b1)])) _
    refine st3.trans ?_
    show Steps p.tables e below (T3.setTop (mkF m 24 #[.val (.int p0), .val (.int p1), .val (.int p2), .val (.int p3), .val (.int p4), .val (.int p5), .unset, .unset, .unset, .unset, .unset, .unset, .unset, .unset, .unset, .unset, .unset] [(.ref b1)])) _
    refine XS.astore X3.here hx rfl (hb hby at_24) rfl rfl (l' := #[.val (.int p0), .val (.int p1), .val (.int p2), .val (.int p3), .val (.int p4), .val (.int p5), .val (.ref b1), .unset, .unset, .unset, .unset, .unset, .unset, .unset, .unset, .unset, .unset]) rfl ?_
    show Steps p.tables e below (T3.setTop (mkF m 26 #[.val (.int p0), .val (.int p1), .val (.int p2), .val (.int p3), .val (.int p4), .val (.int p5), .val (.ref b1), .unset, .unset, .unset, .unset, .unset, .unset, .unset, .unset, .unset, .unset] [])) _
    refine XS.iloadN X3.here hx rfl (hb hby at_26) rfl ?_
    show Steps p.tables e below (T3.setTop (mkF m 27 #[.val (.int p0), .val (.int p1), .val (.int p2), .val (.int p3), .val (.int p4), .val (.int p5), .val (.ref b1), .unset, .unset, .unset, .unset, .unset, .unset, .unset, .unset, .unset, .unset] [(.int p2)])) _
    refine XS.iconst X3.here hx rfl (hb hby at_27) ?_
    show Steps p.tables e below (T3.setTop (mkF m 28 #[.val (.int p0), .val (.int p1), .val (.int p2), .val (.int p3), .val (.int p4), .val (.int p5), .val (.ref b1), .unset, .unset, .unset, .unset, .unset, .unset, .unset, .unset, .unset, .unset] [(.int (3 : Int32)), (.int p2)])) _
    refine XS.iand X3.here hx rfl (hb hby at_28) rfl ?_
    show Steps p.tables e below (T3.setTop (mkF m 29 #[.val (.int p0), .val (.int p1), .val (.int p2), .val (.int p3), .val (.int p4), .val (.int p5), .val (.ref b1), .unset, .unset, .unset, .unset, .unset, .unset, .unset, .unset, .unset, .unset] [(.int (p2 &&& (3 : Int32)))])) _
    refine XS.iconst X3.here hx rfl (hb hby at_29) ?_
    show Steps p.tables e below (T3.setTop (mkF m 30 #[.val (.int p0), .val (.int p1), .val (.int p2), .val (.int p3), .val (.int p4), .val (.int p5), .val (.ref b1), .unset, .unset, .unset, .unset, .unset, .unset, .unset, .unset, .unset, .unset] [(.int (1 : Int32)), (.int (p2 &&& (3 : Int32)))])) _
    refine XS.isub X3.here hx rfl (hb hby at_30) rfl ?_
    show Steps p.tables e below (T3.setTop (mkF m 31 #[.val (.int p0), .val (.int p1), .val (.int p2), .val (.int p3), .val (.int p4), .val (.int p5), .val (.ref b1), .unset, .unset, .unset, .unset, .unset, .unset, .unset, .unset, .unset, .unset] [(.int ((p2 &&& (3 : Int32)) - (1 : Int32)))])) _
    refine XS.istore X3.here hx rfl (hb hby at_31) rfl (l' := #[.val (.int p0), .val (.int p1), .val (.int p2), .val (.int p3), .val (.int p4), .val (.int p5), .val (.ref b1), .val (.int ((p2 &&& (3 : Int32)) - (1 : Int32))), .unset, .unset, .unset, .unset, .unset, .unset, .unset, .unset, .unset]) rfl ?_
    show Steps p.tables e below (T3.setTop (mkF m 33 #[.val (.int p0), .val (.int p1), .val (.int p2), .val (.int p3), .val (.int p4), .val (.int p5), .val (.ref b1), .val (.int ((p2 &&& (3 : Int32)) - (1 : Int32))), .unset, .unset, .unset, .unset, .unset, .unset, .unset, .unset, .unset] [])) _
    refine XS.iloadN X3.here hx rfl (hb hby at_33) rfl ?_
    show Steps p.tables e below (T3.setTop (mkF m 34 #[.val (.int p0), .val (.int p1), .val (.int p2), .val (.int p3), .val (.int p4), .val (.int p5), .val (.ref b1), .val (.int ((p2 &&& (3 : Int32)) - (1 : Int32))), .unset, .unset, .unset, .unset, .unset, .unset, .unset, .unset, .unset] [(.int p3)])) _
    refine XS.iconst X3.here hx rfl (hb hby at_34) ?_
    show Steps p.tables e below (T3.setTop (mkF m 35 #[.val (.int p0), .val (.int p1), .val (.int p2), .val (.int p3), .val (.int p4), .val (.int p5), .val (.ref b1), .val (.int ((p2 &&& (3 : Int32)) - (1 : Int32))), .unset, .unset, .unset, .unset, .unset, .unset, .unset, .unset, .unset] [(.int (3 : Int32)), (.int p3)])) _
    refine XS.iand X3.here hx rfl (hb hby at_35) rfl ?_
    show Steps p.tables e below (T3.setTop (mkF m 36 #[.val (.int p0), .val (.int p1), .val (.int p2), .val (.int p3), .val (.int p4), .val (.int p5), .val (.ref b1), .val (.int ((p2 &&& (3 : Int32)) - (1 : Int32))), .unset, .unset, .unset, .unset, .unset, .unset, .unset, .unset, .unset] [(.int (p3 &&& (3 : Int32)))])) _
    refine XS.istore X3.here hx rfl (hb hby at_36) rfl (l' := #[.val (.int p0), .val (.int p1), .val (.int p2), .val (.int p3), .val (.int p4), .val (.int p5), .val (.ref b1), .val (.int ((p2 &&& (3 : Int32)) - (1 : Int32))), .val (.int (p3 &&& (3 : Int32))), .unset, .unset, .unset, .unset, .unset, .unset, .unset, .unset]) rfl ?_
    show Steps p.tables e below (T3.setTop (mkF m 38 #[.val (.int p0), .val (.int p1), .val (.int p2), .val (.int p3), .val (.int p4), .val (.int p5), .val (.ref b1), .val (.int ((p2 &&& (3 : Int32)) - (1 : Int32))), .val (.int (p3 &&& (3 : Int32))), .unset, .unset, .unset, .unset, .unset, .unset, .unset, .unset] [])) _
    refine XS.iload X3.here hx rfl (hb hby at_38) rfl ?_
    show Steps p.tables e below (T3.setTop (mkF m 40 #[.val (.int p0), .val (.int p1), .val (.int p2), .val (.int p3), .val (.int p4), .val (.int p5), .val (.ref b1), .val (.int ((p2 &&& (3 : Int32)) - (1 : Int32))), .val (.int (p3 &&& (3 : Int32))), .unset, .unset, .unset, .unset, .unset, .unset, .unset, .unset] [(.int (p3 &&& (3 : Int32)))])) _
    refine XS.iconst X3.here hx rfl (hb hby at_40) ?_
    exact kt)
  have pre7 : ∀ t, Steps p.tables e below (T3.setTop (mkF m 71 #[.val (.int p0), .val (.int p1), .val (.int p2), .val (.int p3), .val (.int p4), .val (.int p5), .val (.ref b1), .val (.int ((p2 &&& (3 : Int32)) - (1 : Int32))), .val (.int (p3 &&& (3 : Int32))), .val (.int (f0_l9_71001 p0 p1 p2 p3)), .unset, .unset, .unset, .unset, .unset, .unset, .unset] [])) t → Steps p.tables e below (s₁.setTop (entryFrame m #[(.int p0), (.int p1), (.int p2), (.int p3), (.int p4), (.int p5)] maxLocals)) t := by
    intro t kt
    by_cases hc5 : (p3 &&& (3 : Int32)) = (1 : Int32)
    · have hj : (f0_l9_71001 p0 p1 p2 p3) = (p0 + ((p2 &&& (3 : Int32)) - (1 : Int32))) := by unfold f0_l9_71001; rw [if_pos hc5]
      rw [hj] at kt
      refine pre4 t ?_
      show Steps p.tables e below (T3.setTop (mkF m 41 #[.val (.int p0), .val (.int p1), .val (.int p2), .val (.int p3), .val (.int p4), .val (.int p5), .val (.ref b1), .val (.int ((p2 &&& (3 : Int32)) - (1 : Int32))), .val (.int (p3 &&& (3 : Int32))), .unset, .unset, .unset, .unset, .unset, .unset, .unset, .unset] [(.int (1 : Int32)), (.int (p3 &&& (3 : Int32)))])) _
      refine XS.icmpNo X3.here hx rfl (hb hby at_41) rfl (teq hc5).2 ?_
      show Steps p.tables e below (T3.setTop (mkF m 44 #[.val (.int p0), .val (.int p1), .val (.int p2), .val (.int p3), .val (.int p4), .val (.int p5), .val (.ref b1), .val (.int ((p2 &&& (3 : Int32)) - (1 : Int32))), .val (.int (p3 &&& (3 : Int32))), .unset, .unset, .unset, .unset, .unset, .unset, .unset, .unset] [])) _
      refine XS.iloadN X3.here hx rfl (hb hby at_44) rfl ?_
      show Steps p.tables e below (T3.setTop (mkF m 45 #[.val (.int p0), .val (.int p1), .val (.int p2), .val (.int p3), .val (.int p4), .val (.int p5), .val (.ref b1), .val (.int ((p2 &&& (3 : Int32)) - (1 : Int32))), .val (.int (p3 &&& (3 : Int32))), .unset, .unset, .unset, .unset, .unset, .unset, .unset, .unset] [(.int p0)])) _
      refine XS.iload X3.here hx rfl (hb hby at_45) rfl ?_
      show Steps p.tables e below (T3.setTop (mkF m 47 #[.val (.int p0), .val (.int p1), .val (.int p2), .val (.int p3), .val (.int p4), .val (.int p5), .val (.ref b1), .val (.int ((p2 &&& (3 : Int32)) - (1 : Int32))), .val (.int (p3 &&& (3 : Int32))), .unset, .unset, .unset, .unset, .unset, .unset, .unset, .unset] [(.int ((p2 &&& (3 : Int32)) - (1 : Int32))), (.int p0)])) _
      refine XS.iadd X3.here hx rfl (hb hby at_47) rfl ?_
      show Steps p.tables e below (T3.setTop (mkF m 48 #[.val (.int p0), .val (.int p1), .val (.int p2), .val (.int p3), .val (.int p4), .val (.int p5), .val (.ref b1), .val (.int ((p2 &&& (3 : Int32)) - (1 : Int32))), .val (.int (p3 &&& (3 : Int32))), .unset, .unset, .unset, .unset, .unset, .unset, .unset, .unset] [(.int (p0 + ((p2 &&& (3 : Int32)) - (1 : Int32))))])) _
      refine XS.istore X3.here hx rfl (hb hby at_48) rfl (l' := #[.val (.int p0), .val (.int p1), .val (.int p2), .val (.int p3), .val (.int p4), .val (.int p5), .val (.ref b1), .val (.int ((p2 &&& (3 : Int32)) - (1 : Int32))), .val (.int (p3 &&& (3 : Int32))), .val (.int (p0 + ((p2 &&& (3 : Int32)) - (1 : Int32)))), .unset, .unset, .unset, .unset, .unset, .unset, .unset]) rfl ?_
      show Steps p.tables e below (T3.setTop (mkF m 50 #[.val (.int p0), .val (.int p1), .val (.int p2), .val (.int p3), .val (.int p4), .val (.int p5), .val (.ref b1), .val (.int ((p2 &&& (3 : Int32)) - (1 : Int32))), .val (.int (p3 &&& (3 : Int32))), .val (.int (p0 + ((p2 &&& (3 : Int32)) - (1 : Int32)))), .unset, .unset, .unset, .unset, .unset, .unset, .unset] [])) _
      refine XS.goto X3.here hx rfl (pc0 := 50) (pc' := 71) rfl (hb hby at_50) (by decide) (by decide) ?_
      exact kt
    · by_cases hc6 : (p3 &&& (3 : Int32)) = (2 : Int32)
      · have hj : (f0_l9_71001 p0 p1 p2 p3) = (p1 + ((p2 &&& (3 : Int32)) - (1 : Int32))) := by unfold f0_l9_71001; rw [if_neg hc5, if_pos hc6]
        rw [hj] at kt
        refine pre4 t ?_
        show Steps p.tables e below (T3.setTop (mkF m 41 #[.val (.int p0), .val (.int p1), .val (.int p2), .val (.int p3), .val (.int p4), .val (.int p5), .val (.ref b1), .val (.int ((p2 &&& (3 : Int32)) - (1 : Int32))), .val (.int (p3 &&& (3 : Int32))), .unset, .unset, .unset, .unset, .unset, .unset, .unset, .unset] [(.int (1 : Int32)), (.int (p3 &&& (3 : Int32)))])) _
        refine XS.icmpYes X3.here hx rfl (pc0 := 41) (pc' := 53) rfl (hb hby at_41) rfl (feq hc5).2 (by decide) (by decide) ?_
        show Steps p.tables e below (T3.setTop (mkF m 53 #[.val (.int p0), .val (.int p1), .val (.int p2), .val (.int p3), .val (.int p4), .val (.int p5), .val (.ref b1), .val (.int ((p2 &&& (3 : Int32)) - (1 : Int32))), .val (.int (p3 &&& (3 : Int32))), .unset, .unset, .unset, .unset, .unset, .unset, .unset, .unset] [])) _
        refine XS.iload X3.here hx rfl (hb hby at_53) rfl ?_
        show Steps p.tables e below (T3.setTop (mkF m 55 #[.val (.int p0), .val (.int p1), .val (.int p2), .val (.int p3), .val (.int p4), .val (.int p5), .val (.ref b1), .val (.int ((p2 &&& (3 : Int32)) - (1 : Int32))), .val (.int (p3 &&& (3 : Int32))), .unset, .unset, .unset, .unset, .unset, .unset, .unset, .unset] [(.int (p3 &&& (3 : Int32)))])) _
        refine XS.iconst X3.here hx rfl (hb hby at_55) ?_
        show Steps p.tables e below (T3.setTop (mkF m 56 #[.val (.int p0), .val (.int p1), .val (.int p2), .val (.int p3), .val (.int p4), .val (.int p5), .val (.ref b1), .val (.int ((p2 &&& (3 : Int32)) - (1 : Int32))), .val (.int (p3 &&& (3 : Int32))), .unset, .unset, .unset, .unset, .unset, .unset, .unset, .unset] [(.int (2 : Int32)), (.int (p3 &&& (3 : Int32)))])) _
        refine XS.icmpNo X3.here hx rfl (hb hby at_56) rfl (teq hc6).2 ?_
        show Steps p.tables e below (T3.setTop (mkF m 59 #[.val (.int p0), .val (.int p1), .val (.int p2), .val (.int p3), .val (.int p4), .val (.int p5), .val (.ref b1), .val (.int ((p2 &&& (3 : Int32)) - (1 : Int32))), .val (.int (p3 &&& (3 : Int32))), .unset, .unset, .unset, .unset, .unset, .unset, .unset, .unset] [])) _
        refine XS.iloadN X3.here hx rfl (hb hby at_59) rfl ?_
        show Steps p.tables e below (T3.setTop (mkF m 60 #[.val (.int p0), .val (.int p1), .val (.int p2), .val (.int p3), .val (.int p4), .val (.int p5), .val (.ref b1), .val (.int ((p2 &&& (3 : Int32)) - (1 : Int32))), .val (.int (p3 &&& (3 : Int32))), .unset, .unset, .unset, .unset, .unset, .unset, .unset, .unset] [(.int p1)])) _
        refine XS.iload X3.here hx rfl (hb hby at_60) rfl ?_
        show Steps p.tables e below (T3.setTop (mkF m 62 #[.val (.int p0), .val (.int p1), .val (.int p2), .val (.int p3), .val (.int p4), .val (.int p5), .val (.ref b1), .val (.int ((p2 &&& (3 : Int32)) - (1 : Int32))), .val (.int (p3 &&& (3 : Int32))), .unset, .unset, .unset, .unset, .unset, .unset, .unset, .unset] [(.int ((p2 &&& (3 : Int32)) - (1 : Int32))), (.int p1)])) _
        refine XS.iadd X3.here hx rfl (hb hby at_62) rfl ?_
        show Steps p.tables e below (T3.setTop (mkF m 63 #[.val (.int p0), .val (.int p1), .val (.int p2), .val (.int p3), .val (.int p4), .val (.int p5), .val (.ref b1), .val (.int ((p2 &&& (3 : Int32)) - (1 : Int32))), .val (.int (p3 &&& (3 : Int32))), .unset, .unset, .unset, .unset, .unset, .unset, .unset, .unset] [(.int (p1 + ((p2 &&& (3 : Int32)) - (1 : Int32))))])) _
        refine XS.istore X3.here hx rfl (hb hby at_63) rfl (l' := #[.val (.int p0), .val (.int p1), .val (.int p2), .val (.int p3), .val (.int p4), .val (.int p5), .val (.ref b1), .val (.int ((p2 &&& (3 : Int32)) - (1 : Int32))), .val (.int (p3 &&& (3 : Int32))), .val (.int (p1 + ((p2 &&& (3 : Int32)) - (1 : Int32)))), .unset, .unset, .unset, .unset, .unset, .unset, .unset]) rfl ?_
        show Steps p.tables e below (T3.setTop (mkF m 65 #[.val (.int p0), .val (.int p1), .val (.int p2), .val (.int p3), .val (.int p4), .val (.int p5), .val (.ref b1), .val (.int ((p2 &&& (3 : Int32)) - (1 : Int32))), .val (.int (p3 &&& (3 : Int32))), .val (.int (p1 + ((p2 &&& (3 : Int32)) - (1 : Int32)))), .unset, .unset, .unset, .unset, .unset, .unset, .unset] [])) _
        refine XS.goto X3.here hx rfl (pc0 := 65) (pc' := 71) rfl (hb hby at_65) (by decide) (by decide) ?_
        exact kt
      · have hj : (f0_l9_71001 p0 p1 p2 p3) = p2 := by unfold f0_l9_71001; rw [if_neg hc5, if_neg hc6]
        rw [hj] at kt
        refine pre4 t ?_
        show Steps p.tables e below (T3.setTop (mkF m 41 #[.val (.int p0), .val (.int p1), .val (.int p2), .val (.int p3), .val (.int p4), .val (.int p5), .val (.ref b1), .val (.int ((p2 &&& (3 : Int32)) - (1 : Int32))), .val (.int (p3 &&& (3 : Int32))), .unset, .unset, .unset, .unset, .unset, .unset, .unset, .unset] [(.int (1 : Int32)), (.int (p3 &&& (3 : Int32)))])) _
        refine XS.icmpYes X3.here hx rfl (pc0 := 41) (pc' := 53) rfl (hb hby at_41) rfl (feq hc5).2 (by decide) (by decide) ?_
        show Steps p.tables e below (T3.setTop (mkF m 53 #[.val (.int p0), .val (.int p1), .val (.int p2), .val (.int p3), .val (.int p4), .val (.int p5), .val (.ref b1), .val (.int ((p2 &&& (3 : Int32)) - (1 : Int32))), .val (.int (p3 &&& (3 : Int32))), .unset, .unset, .unset, .unset, .unset, .unset, .unset, .unset] [])) _
        refine XS.iload X3.here hx rfl (hb hby at_53) rfl ?_
        show Steps p.tables e below (T3.setTop (mkF m 55 #[.val (.int p0), .val (.int p1), .val (.int p2), .val (.int p3), .val (.int p4), .val (.int p5), .val (.ref b1), .val (.int ((p2 &&& (3 : Int32)) - (1 : Int32))), .val (.int (p3 &&& (3 : Int32))), .unset, .unset, .unset, .unset, .unset, .unset, .unset, .unset] [(.int (p3 &&& (3 : Int32)))])) _
        refine XS.iconst X3.here hx rfl (hb hby at_55) ?_
        show Steps p.tables e below (T3.setTop (mkF m 56 #[.val (.int p0), .val (.int p1), .val (.int p2), .val (.int p3), .val (.int p4), .val (.int p5), .val (.ref b1), .val (.int ((p2 &&& (3 : Int32)) - (1 : Int32))), .val (.int (p3 &&& (3 : Int32))), .unset, .unset, .unset, .unset, .unset, .unset, .unset, .unset] [(.int (2 : Int32)), (.int (p3 &&& (3 : Int32)))])) _
        refine XS.icmpYes X3.here hx rfl (pc0 := 56) (pc' := 68) rfl (hb hby at_56) rfl (feq hc6).2 (by decide) (by decide) ?_
        show Steps p.tables e below (T3.setTop (mkF m 68 #[.val (.int p0), .val (.int p1), .val (.int p2), .val (.int p3), .val (.int p4), .val (.int p5), .val (.ref b1), .val (.int ((p2 &&& (3 : Int32)) - (1 : Int32))), .val (.int (p3 &&& (3 : Int32))), .unset, .unset, .unset, .unset, .unset, .unset, .unset, .unset] [])) _
        refine XS.iloadN X3.here hx rfl (hb hby at_68) rfl ?_
        show Steps p.tables e below (T3.setTop (mkF m 69 #[.val (.int p0), .val (.int p1), .val (.int p2), .val (.int p3), .val (.int p4), .val (.int p5), .val (.ref b1), .val (.int ((p2 &&& (3 : Int32)) - (1 : Int32))), .val (.int (p3 &&& (3 : Int32))), .unset, .unset, .unset, .unset, .unset, .unset, .unset, .unset] [(.int p2)])) _
        refine XS.istore X3.here hx rfl (hb hby at_69) rfl (l' := #[.val (.int p0), .val (.int p1), .val (.int p2), .val (.int p3), .val (.int p4), .val (.int p5), .val (.ref b1), .val (.int ((p2 &&& (3 : Int32)) - (1 : Int32))), .val (.int (p3 &&& (3 : Int32))), .val (.int p2), .unset, .unset, .unset, .unset, .unset, .unset, .unset]) rfl ?_
        exact kt
  obtain ⟨cq8, kq8, q8a, q8b, q8c⟩ := isOf hZ rfl E3q
  obtain ⟨_, _, ⟨T8, L8, k8, n8⟩, -, X8, ⟨Lc8, hQ8, l8, y8, z8⟩, st8⟩ := X3.virtualBack hx (y := (⟨"com/example/vaultgate/vaultgate/history/AtcClaim", "follows", "(I)Z"⟩ : MethodName)) (z := (⟨"com/example/vaultgate/vaultgate/history/AtcClaim", "follows", "(I)Z"⟩ : MethodName)) hown (mvT hZ (hw _ (List.mem_of_getElem? (i := 51) rfl))) (mvT hZ (hw _ (List.mem_of_getElem? (i := 52) rfl))) (notFace_of_selects (args := #[]) (mvT hZ (hw _ (List.mem_of_getElem? (i := 54) rfl)))) (mvT hZ (hw _ (List.mem_of_getElem? (i := 54) rfl))) (mvT hZ (hw _ (List.mem_of_getElem? (i := 53) rfl))) (by decide) (backOf (W := 0) (rm9 l Z a0 hw [] b1 (f0_l9_71001 p0 p1 p2 p3) (f0_e1 p0 p1 p4) (f0_e2 p0 p1 p4) T3.heap n0 Zz3 E3q gn_b1 F3n_previousAbove F3n_previousBelow) hZ (hw _ (List.mem_of_getElem? (i := 55) rfl)) (hw _ (List.mem_of_getElem? (i := 2) rfl)) (by decide) (by decide)) q8a q8c (g := (mkF m 75 #[.val (.int p0), .val (.int p1), .val (.int p2), .val (.int p3), .val (.int p4), .val (.int p5), .val (.ref b1), .val (.int ((p2 &&& (3 : Int32)) - (1 : Int32))), .val (.int (p3 &&& (3 : Int32))), .val (.int (f0_l9_71001 p0 p1 p2 p3)), .unset, .unset, .unset, .unset, .unset, .unset, .unset] [(.int (f0_l9_71001 p0 p1 p2 p3)), (.ref b1)])) rfl (by rw [hml]; rfl) (Steps.refl _) (argsL := [(.int (f0_l9_71001 p0 p1 p2 p3))]) (rest := []) (lenOf pd_7 rfl) rfl (by show 2 * 0 + _ ≤ _; exact Nat.le_of_eq rfl) (hb hby at_75) (fun _ _ => ⟨rfl, rfl, (by decide : 3 + 0 ≤ _), (by decide : 9 + 0 ≤ _)⟩)
  dsimp only [Pt.U, Pt.locs, Pt.cells, Pt.slots] at X8 l8 y8 z8 st8 hQ8
  subst l8 y8 z8
  obtain ⟨rfl, N8q, e8⟩ := hQ8
  have N8 := Fr.app N3 N8q
  have pre9 : ∀ t, Steps p.tables e below (T8.setTop (mkF m 100 #[.val (.int p0), .val (.int p1), .val (.int p2), .val (.int p3), .val (.int p4), .val (.int p5), .val (.ref b1), .val (.int ((p2 &&& (3 : Int32)) - (1 : Int32))), .val (.int (p3 &&& (3 : Int32))), .val (.int (f0_l9_71001 p0 p1 p2 p3)), .val (.int (f9 (f0_l9_71001 p0 p1 p2 p3) (f0_e1 p0 p1 p4) (f0_e2 p0 p1 p4))), .val (.long (((f0_l9_71001 p0 p1 p2 p3).toInt64) - (p0.toInt64))), .second, .val (.long ((p1.toInt64) - ((f0_l9_71001 p0 p1 p2 p3).toInt64))), .second, .unset, .unset] [(.int (f0_e3 p0 p1 p2 p3))])) t → Steps p.tables e below (s₁.setTop (entryFrame m #[(.int p0), (.int p1), (.int p2), (.int p3), (.int p4), (.int p5)] maxLocals)) t := fun t kt => pre7 t (by
    show Steps p.tables e below (T3.setTop (mkF m 71 #[.val (.int p0), .val (.int p1), .val (.int p2), .val (.int p3), .val (.int p4), .val (.int p5), .val (.ref b1), .val (.int ((p2 &&& (3 : Int32)) - (1 : Int32))), .val (.int (p3 &&& (3 : Int32))), .val (.int (f0_l9_71001 p0 p1 p2 p3)), .unset, .unset, .unset, .unset, .unset, .unset, .unset] [])) _
    refine XS.aload X3.here hx rfl (hb hby at_71) rfl rfl ?_
    show Steps p.tables e below (T3.setTop (mkF m 73 #[.val (.int p0), .val (.int p1), .val (.int p2), .val (.int p3), .val (.int p4), .val (.int p5), .val (.ref b1), .val (.int ((p2 &&& (3 : Int32)) - (1 : Int32))), .val (.int (p3 &&& (3 : Int32))), .val (.int (f0_l9_71001 p0 p1 p2 p3)), .unset, .unset, .unset, .unset, .unset, .unset, .unset] [(.ref b1)])) _
    refine XS.iload X3.here hx rfl (hb hby at_73) rfl ?_
    show Steps p.tables e below (T3.setTop (mkF m 75 #[.val (.int p0), .val (.int p1), .val (.int p2), .val (.int p3), .val (.int p4), .val (.int p5), .val (.ref b1), .val (.int ((p2 &&& (3 : Int32)) - (1 : Int32))), .val (.int (p3 &&& (3 : Int32))), .val (.int (f0_l9_71001 p0 p1 p2 p3)), .unset, .unset, .unset, .unset, .unset, .unset, .unset] [(.int (f0_l9_71001 p0 p1 p2 p3)), (.ref b1)])) _
    refine st8.trans ?_
    show Steps p.tables e below (T8.setTop (mkF m 78 #[.val (.int p0), .val (.int p1), .val (.int p2), .val (.int p3), .val (.int p4), .val (.int p5), .val (.ref b1), .val (.int ((p2 &&& (3 : Int32)) - (1 : Int32))), .val (.int (p3 &&& (3 : Int32))), .val (.int (f0_l9_71001 p0 p1 p2 p3)), .unset, .unset, .unset, .unset, .unset, .unset, .unset] [(.int (f9 (f0_l9_71001 p0 p1 p2 p3) (f0_e1 p0 p1 p4) (f0_e2 p0 p1 p4)))])) _
    refine XS.istore X8.here hx rfl (hb hby at_78) rfl (l' := #[.val (.int p0), .val (.int p1), .val (.int p2), .val (.int p3), .val (.int p4), .val (.int p5), .val (.ref b1), .val (.int ((p2 &&& (3 : Int32)) - (1 : Int32))), .val (.int (p3 &&& (3 : Int32))), .val (.int (f0_l9_71001 p0 p1 p2 p3)), .val (.int (f9 (f0_l9_71001 p0 p1 p2 p3) (f0_e1 p0 p1 p4) (f0_e2 p0 p1 p4))), .unset, .unset, .unset, .unset, .unset, .unset]) rfl ?_
    show Steps p.tables e below (T8.setTop (mkF m 80 #[.val (.int p0), .val (.int p1), .val (.int p2), .val (.int p3), .val (.int p4), .val (.int p5), .val (.ref b1), .val (.int ((p2 &&& (3 : Int32)) - (1 : Int32))), .val (.int (p3 &&& (3 : Int32))), .val (.int (f0_l9_71001 p0 p1 p2 p3)), .val (.int (f9 (f0_l9_71001 p0 p1 p2 p3) (f0_e1 p0 p1 p4) (f0_e2 p0 p1 p4))), .unset, .unset, .unset, .unset, .unset, .unset] [])) _
    refine XS.iload X8.here hx rfl (hb hby at_80) rfl ?_
    show Steps p.tables e below (T8.setTop (mkF m 82 #[.val (.int p0), .val (.int p1), .val (.int p2), .val (.int p3), .val (.int p4), .val (.int p5), .val (.ref b1), .val (.int ((p2 &&& (3 : Int32)) - (1 : Int32))), .val (.int (p3 &&& (3 : Int32))), .val (.int (f0_l9_71001 p0 p1 p2 p3)), .val (.int (f9 (f0_l9_71001 p0 p1 p2 p3) (f0_e1 p0 p1 p4) (f0_e2 p0 p1 p4))), .unset, .unset, .unset, .unset, .unset, .unset] [(.int (f0_l9_71001 p0 p1 p2 p3))])) _
    refine XS.i2l X8.here hx rfl (hb hby at_82) rfl ?_
    show Steps p.tables e below (T8.setTop (mkF m 83 #[.val (.int p0), .val (.int p1), .val (.int p2), .val (.int p3), .val (.int p4), .val (.int p5), .val (.ref b1), .val (.int ((p2 &&& (3 : Int32)) - (1 : Int32))), .val (.int (p3 &&& (3 : Int32))), .val (.int (f0_l9_71001 p0 p1 p2 p3)), .val (.int (f9 (f0_l9_71001 p0 p1 p2 p3) (f0_e1 p0 p1 p4) (f0_e2 p0 p1 p4))), .unset, .unset, .unset, .unset, .unset, .unset] [(.long ((f0_l9_71001 p0 p1 p2 p3).toInt64))])) _
    refine XS.iloadN X8.here hx rfl (hb hby at_83) rfl ?_
    show Steps p.tables e below (T8.setTop (mkF m 84 #[.val (.int p0), .val (.int p1), .val (.int p2), .val (.int p3), .val (.int p4), .val (.int p5), .val (.ref b1), .val (.int ((p2 &&& (3 : Int32)) - (1 : Int32))), .val (.int (p3 &&& (3 : Int32))), .val (.int (f0_l9_71001 p0 p1 p2 p3)), .val (.int (f9 (f0_l9_71001 p0 p1 p2 p3) (f0_e1 p0 p1 p4) (f0_e2 p0 p1 p4))), .unset, .unset, .unset, .unset, .unset, .unset] [(.int p0), (.long ((f0_l9_71001 p0 p1 p2 p3).toInt64))])) _
    refine XS.i2l X8.here hx rfl (hb hby at_84) rfl ?_
    show Steps p.tables e below (T8.setTop (mkF m 85 #[.val (.int p0), .val (.int p1), .val (.int p2), .val (.int p3), .val (.int p4), .val (.int p5), .val (.ref b1), .val (.int ((p2 &&& (3 : Int32)) - (1 : Int32))), .val (.int (p3 &&& (3 : Int32))), .val (.int (f0_l9_71001 p0 p1 p2 p3)), .val (.int (f9 (f0_l9_71001 p0 p1 p2 p3) (f0_e1 p0 p1 p4) (f0_e2 p0 p1 p4))), .unset, .unset, .unset, .unset, .unset, .unset] [(.long (p0.toInt64)), (.long ((f0_l9_71001 p0 p1 p2 p3).toInt64))])) _
    refine XS.lsub X8.here hx rfl (hb hby at_85) rfl ?_
    show Steps p.tables e below (T8.setTop (mkF m 86 #[.val (.int p0), .val (.int p1), .val (.int p2), .val (.int p3), .val (.int p4), .val (.int p5), .val (.ref b1), .val (.int ((p2 &&& (3 : Int32)) - (1 : Int32))), .val (.int (p3 &&& (3 : Int32))), .val (.int (f0_l9_71001 p0 p1 p2 p3)), .val (.int (f9 (f0_l9_71001 p0 p1 p2 p3) (f0_e1 p0 p1 p4) (f0_e2 p0 p1 p4))), .unset, .unset, .unset, .unset, .unset, .unset] [(.long (((f0_l9_71001 p0 p1 p2 p3).toInt64) - (p0.toInt64)))])) _
    refine XS.lstore X8.here hx rfl (hb hby at_86) rfl (l' := #[.val (.int p0), .val (.int p1), .val (.int p2), .val (.int p3), .val (.int p4), .val (.int p5), .val (.ref b1), .val (.int ((p2 &&& (3 : Int32)) - (1 : Int32))), .val (.int (p3 &&& (3 : Int32))), .val (.int (f0_l9_71001 p0 p1 p2 p3)), .val (.int (f9 (f0_l9_71001 p0 p1 p2 p3) (f0_e1 p0 p1 p4) (f0_e2 p0 p1 p4))), .val (.long (((f0_l9_71001 p0 p1 p2 p3).toInt64) - (p0.toInt64))), .second, .unset, .unset, .unset, .unset]) rfl ?_
    show Steps p.tables e below (T8.setTop (mkF m 88 #[.val (.int p0), .val (.int p1), .val (.int p2), .val (.int p3), .val (.int p4), .val (.int p5), .val (.ref b1), .val (.int ((p2 &&& (3 : Int32)) - (1 : Int32))), .val (.int (p3 &&& (3 : Int32))), .val (.int (f0_l9_71001 p0 p1 p2 p3)), .val (.int (f9 (f0_l9_71001 p0 p1 p2 p3) (f0_e1 p0 p1 p4) (f0_e2 p0 p1 p4))), .val (.long (((f0_l9_71001 p0 p1 p2 p3).toInt64) - (p0.toInt64))), .second, .unset, .unset, .unset, .unset] [])) _
    refine XS.iloadN X8.here hx rfl (hb hby at_88) rfl ?_
    show Steps p.tables e below (T8.setTop (mkF m 89 #[.val (.int p0), .val (.int p1), .val (.int p2), .val (.int p3), .val (.int p4), .val (.int p5), .val (.ref b1), .val (.int ((p2 &&& (3 : Int32)) - (1 : Int32))), .val (.int (p3 &&& (3 : Int32))), .val (.int (f0_l9_71001 p0 p1 p2 p3)), .val (.int (f9 (f0_l9_71001 p0 p1 p2 p3) (f0_e1 p0 p1 p4) (f0_e2 p0 p1 p4))), .val (.long (((f0_l9_71001 p0 p1 p2 p3).toInt64) - (p0.toInt64))), .second, .unset, .unset, .unset, .unset] [(.int p1)])) _
    refine XS.i2l X8.here hx rfl (hb hby at_89) rfl ?_
    show Steps p.tables e below (T8.setTop (mkF m 90 #[.val (.int p0), .val (.int p1), .val (.int p2), .val (.int p3), .val (.int p4), .val (.int p5), .val (.ref b1), .val (.int ((p2 &&& (3 : Int32)) - (1 : Int32))), .val (.int (p3 &&& (3 : Int32))), .val (.int (f0_l9_71001 p0 p1 p2 p3)), .val (.int (f9 (f0_l9_71001 p0 p1 p2 p3) (f0_e1 p0 p1 p4) (f0_e2 p0 p1 p4))), .val (.long (((f0_l9_71001 p0 p1 p2 p3).toInt64) - (p0.toInt64))), .second, .unset, .unset, .unset, .unset] [(.long (p1.toInt64))])) _
    refine XS.iload X8.here hx rfl (hb hby at_90) rfl ?_
    show Steps p.tables e below (T8.setTop (mkF m 92 #[.val (.int p0), .val (.int p1), .val (.int p2), .val (.int p3), .val (.int p4), .val (.int p5), .val (.ref b1), .val (.int ((p2 &&& (3 : Int32)) - (1 : Int32))), .val (.int (p3 &&& (3 : Int32))), .val (.int (f0_l9_71001 p0 p1 p2 p3)), .val (.int (f9 (f0_l9_71001 p0 p1 p2 p3) (f0_e1 p0 p1 p4) (f0_e2 p0 p1 p4))), .val (.long (((f0_l9_71001 p0 p1 p2 p3).toInt64) - (p0.toInt64))), .second, .unset, .unset, .unset, .unset] [(.int (f0_l9_71001 p0 p1 p2 p3)), (.long (p1.toInt64))])) _
    refine XS.i2l X8.here hx rfl (hb hby at_92) rfl ?_
    show Steps p.tables e below (T8.setTop (mkF m 93 #[.val (.int p0), .val (.int p1), .val (.int p2), .val (.int p3), .val (.int p4), .val (.int p5), .val (.ref b1), .val (.int ((p2 &&& (3 : Int32)) - (1 : Int32))), .val (.int (p3 &&& (3 : Int32))), .val (.int (f0_l9_71001 p0 p1 p2 p3)), .val (.int (f9 (f0_l9_71001 p0 p1 p2 p3) (f0_e1 p0 p1 p4) (f0_e2 p0 p1 p4))), .val (.long (((f0_l9_71001 p0 p1 p2 p3).toInt64) - (p0.toInt64))), .second, .unset, .unset, .unset, .unset] [(.long ((f0_l9_71001 p0 p1 p2 p3).toInt64)), (.long (p1.toInt64))])) _
    refine XS.lsub X8.here hx rfl (hb hby at_93) rfl ?_
    show Steps p.tables e below (T8.setTop (mkF m 94 #[.val (.int p0), .val (.int p1), .val (.int p2), .val (.int p3), .val (.int p4), .val (.int p5), .val (.ref b1), .val (.int ((p2 &&& (3 : Int32)) - (1 : Int32))), .val (.int (p3 &&& (3 : Int32))), .val (.int (f0_l9_71001 p0 p1 p2 p3)), .val (.int (f9 (f0_l9_71001 p0 p1 p2 p3) (f0_e1 p0 p1 p4) (f0_e2 p0 p1 p4))), .val (.long (((f0_l9_71001 p0 p1 p2 p3).toInt64) - (p0.toInt64))), .second, .unset, .unset, .unset, .unset] [(.long ((p1.toInt64) - ((f0_l9_71001 p0 p1 p2 p3).toInt64)))])) _
    refine XS.lstore X8.here hx rfl (hb hby at_94) rfl (l' := #[.val (.int p0), .val (.int p1), .val (.int p2), .val (.int p3), .val (.int p4), .val (.int p5), .val (.ref b1), .val (.int ((p2 &&& (3 : Int32)) - (1 : Int32))), .val (.int (p3 &&& (3 : Int32))), .val (.int (f0_l9_71001 p0 p1 p2 p3)), .val (.int (f9 (f0_l9_71001 p0 p1 p2 p3) (f0_e1 p0 p1 p4) (f0_e2 p0 p1 p4))), .val (.long (((f0_l9_71001 p0 p1 p2 p3).toInt64) - (p0.toInt64))), .second, .val (.long ((p1.toInt64) - ((f0_l9_71001 p0 p1 p2 p3).toInt64))), .second, .unset, .unset]) rfl ?_
    show Steps p.tables e below (T8.setTop (mkF m 96 #[.val (.int p0), .val (.int p1), .val (.int p2), .val (.int p3), .val (.int p4), .val (.int p5), .val (.ref b1), .val (.int ((p2 &&& (3 : Int32)) - (1 : Int32))), .val (.int (p3 &&& (3 : Int32))), .val (.int (f0_l9_71001 p0 p1 p2 p3)), .val (.int (f9 (f0_l9_71001 p0 p1 p2 p3) (f0_e1 p0 p1 p4) (f0_e2 p0 p1 p4))), .val (.long (((f0_l9_71001 p0 p1 p2 p3).toInt64) - (p0.toInt64))), .second, .val (.long ((p1.toInt64) - ((f0_l9_71001 p0 p1 p2 p3).toInt64))), .second, .unset, .unset] [])) _
    refine XS.lload X8.here hx rfl (hb hby at_96) rfl ?_
    show Steps p.tables e below (T8.setTop (mkF m 98 #[.val (.int p0), .val (.int p1), .val (.int p2), .val (.int p3), .val (.int p4), .val (.int p5), .val (.ref b1), .val (.int ((p2 &&& (3 : Int32)) - (1 : Int32))), .val (.int (p3 &&& (3 : Int32))), .val (.int (f0_l9_71001 p0 p1 p2 p3)), .val (.int (f9 (f0_l9_71001 p0 p1 p2 p3) (f0_e1 p0 p1 p4) (f0_e2 p0 p1 p4))), .val (.long (((f0_l9_71001 p0 p1 p2 p3).toInt64) - (p0.toInt64))), .second, .val (.long ((p1.toInt64) - ((f0_l9_71001 p0 p1 p2 p3).toInt64))), .second, .unset, .unset] [(.long (((f0_l9_71001 p0 p1 p2 p3).toInt64) - (p0.toInt64)))])) _
    refine XS.lconst X8.here hx rfl (hb hby at_98) ?_
    show Steps p.tables e below (T8.setTop (mkF m 99 #[.val (.int p0), .val (.int p1), .val (.int p2), .val (.int p3), .val (.int p4), .val (.int p5), .val (.ref b1), .val (.int ((p2 &&& (3 : Int32)) - (1 : Int32))), .val (.int (p3 &&& (3 : Int32))), .val (.int (f0_l9_71001 p0 p1 p2 p3)), .val (.int (f9 (f0_l9_71001 p0 p1 p2 p3) (f0_e1 p0 p1 p4) (f0_e2 p0 p1 p4))), .val (.long (((f0_l9_71001 p0 p1 p2 p3).toInt64) - (p0.toInt64))), .second, .val (.long ((p1.toInt64) - ((f0_l9_71001 p0 p1 p2 p3).toInt64))), .second, .unset, .unset] [(.long (0 : Int64)), (.long (((f0_l9_71001 p0 p1 p2 p3).toInt64) - (p0.toInt64)))])) _
    refine XS.lcmp X8.here hx rfl (hb hby at_99) rfl ?_
    exact kt)
  have pre12 : ∀ t, Steps p.tables e below (T8.setTop (mkF m 115 #[.val (.int p0), .val (.int p1), .val (.int p2), .val (.int p3), .val (.int p4), .val (.int p5), .val (.ref b1), .val (.int ((p2 &&& (3 : Int32)) - (1 : Int32))), .val (.int (p3 &&& (3 : Int32))), .val (.int (f0_l9_71001 p0 p1 p2 p3)), .val (.int (f9 (f0_l9_71001 p0 p1 p2 p3) (f0_e1 p0 p1 p4) (f0_e2 p0 p1 p4))), .val (.long (((f0_l9_71001 p0 p1 p2 p3).toInt64) - (p0.toInt64))), .second, .val (.long ((p1.toInt64) - ((f0_l9_71001 p0 p1 p2 p3).toInt64))), .second, .unset, .unset] [(.int (f0_s0_115002 p0 p1 p2 p3))])) t → Steps p.tables e below (s₁.setTop (entryFrame m #[(.int p0), (.int p1), (.int p2), (.int p3), (.int p4), (.int p5)] maxLocals)) t := by
    intro t kt
    by_cases hc10 : (0 : Int32) < (f0_e3 p0 p1 p2 p3)
    · by_cases hc11 : (0 : Int32) < (f0_e4 p0 p1 p2 p3)
      · have hj : (f0_s0_115002 p0 p1 p2 p3) = (1 : Int32) := by unfold f0_s0_115002; rw [if_pos hc10, if_pos hc11]
        rw [hj] at kt
        refine pre9 t ?_
        show Steps p.tables e below (T8.setTop (mkF m 100 #[.val (.int p0), .val (.int p1), .val (.int p2), .val (.int p3), .val (.int p4), .val (.int p5), .val (.ref b1), .val (.int ((p2 &&& (3 : Int32)) - (1 : Int32))), .val (.int (p3 &&& (3 : Int32))), .val (.int (f0_l9_71001 p0 p1 p2 p3)), .val (.int (f9 (f0_l9_71001 p0 p1 p2 p3) (f0_e1 p0 p1 p4) (f0_e2 p0 p1 p4))), .val (.long (((f0_l9_71001 p0 p1 p2 p3).toInt64) - (p0.toInt64))), .second, .val (.long ((p1.toInt64) - ((f0_l9_71001 p0 p1 p2 p3).toInt64))), .second, .unset, .unset] [(.int (f0_e3 p0 p1 p2 p3))])) _
        refine XS.ifNo X8.here hx rfl (hb hby at_100) rfl ((if0 _ _).trans (tlt hc10).2.2.2) ?_
        show Steps p.tables e below (T8.setTop (mkF m 103 #[.val (.int p0), .val (.int p1), .val (.int p2), .val (.int p3), .val (.int p4), .val (.int p5), .val (.ref b1), .val (.int ((p2 &&& (3 : Int32)) - (1 : Int32))), .val (.int (p3 &&& (3 : Int32))), .val (.int (f0_l9_71001 p0 p1 p2 p3)), .val (.int (f9 (f0_l9_71001 p0 p1 p2 p3) (f0_e1 p0 p1 p4) (f0_e2 p0 p1 p4))), .val (.long (((f0_l9_71001 p0 p1 p2 p3).toInt64) - (p0.toInt64))), .second, .val (.long ((p1.toInt64) - ((f0_l9_71001 p0 p1 p2 p3).toInt64))), .second, .unset, .unset] [])) _
        refine XS.lload X8.here hx rfl (hb hby at_103) rfl ?_
        show Steps p.tables e below (T8.setTop (mkF m 105 #[.val (.int p0), .val (.int p1), .val (.int p2), .val (.int p3), .val (.int p4), .val (.int p5), .val (.ref b1), .val (.int ((p2 &&& (3 : Int32)) - (1 : Int32))), .val (.int (p3 &&& (3 : Int32))), .val (.int (f0_l9_71001 p0 p1 p2 p3)), .val (.int (f9 (f0_l9_71001 p0 p1 p2 p3) (f0_e1 p0 p1 p4) (f0_e2 p0 p1 p4))), .val (.long (((f0_l9_71001 p0 p1 p2 p3).toInt64) - (p0.toInt64))), .second, .val (.long ((p1.toInt64) - ((f0_l9_71001 p0 p1 p2 p3).toInt64))), .second, .unset, .unset] [(.long ((p1.toInt64) - ((f0_l9_71001 p0 p1 p2 p3).toInt64)))])) _
        refine XS.lconst X8.here hx rfl (hb hby at_105) ?_
        show Steps p.tables e below (T8.setTop (mkF m 106 #[.val (.int p0), .val (.int p1), .val (.int p2), .val (.int p3), .val (.int p4), .val (.int p5), .val (.ref b1), .val (.int ((p2 &&& (3 : Int32)) - (1 : Int32))), .val (.int (p3 &&& (3 : Int32))), .val (.int (f0_l9_71001 p0 p1 p2 p3)), .val (.int (f9 (f0_l9_71001 p0 p1 p2 p3) (f0_e1 p0 p1 p4) (f0_e2 p0 p1 p4))), .val (.long (((f0_l9_71001 p0 p1 p2 p3).toInt64) - (p0.toInt64))), .second, .val (.long ((p1.toInt64) - ((f0_l9_71001 p0 p1 p2 p3).toInt64))), .second, .unset, .unset] [(.long (0 : Int64)), (.long ((p1.toInt64) - ((f0_l9_71001 p0 p1 p2 p3).toInt64)))])) _
        refine XS.lcmp X8.here hx rfl (hb hby at_106) rfl ?_
        show Steps p.tables e below (T8.setTop (mkF m 107 #[.val (.int p0), .val (.int p1), .val (.int p2), .val (.int p3), .val (.int p4), .val (.int p5), .val (.ref b1), .val (.int ((p2 &&& (3 : Int32)) - (1 : Int32))), .val (.int (p3 &&& (3 : Int32))), .val (.int (f0_l9_71001 p0 p1 p2 p3)), .val (.int (f9 (f0_l9_71001 p0 p1 p2 p3) (f0_e1 p0 p1 p4) (f0_e2 p0 p1 p4))), .val (.long (((f0_l9_71001 p0 p1 p2 p3).toInt64) - (p0.toInt64))), .second, .val (.long ((p1.toInt64) - ((f0_l9_71001 p0 p1 p2 p3).toInt64))), .second, .unset, .unset] [(.int (f0_e4 p0 p1 p2 p3))])) _
        refine XS.ifNo X8.here hx rfl (hb hby at_107) rfl ((if0 _ _).trans (tlt hc11).2.2.2) ?_
        show Steps p.tables e below (T8.setTop (mkF m 110 #[.val (.int p0), .val (.int p1), .val (.int p2), .val (.int p3), .val (.int p4), .val (.int p5), .val (.ref b1), .val (.int ((p2 &&& (3 : Int32)) - (1 : Int32))), .val (.int (p3 &&& (3 : Int32))), .val (.int (f0_l9_71001 p0 p1 p2 p3)), .val (.int (f9 (f0_l9_71001 p0 p1 p2 p3) (f0_e1 p0 p1 p4) (f0_e2 p0 p1 p4))), .val (.long (((f0_l9_71001 p0 p1 p2 p3).toInt64) - (p0.toInt64))), .second, .val (.long ((p1.toInt64) - ((f0_l9_71001 p0 p1 p2 p3).toInt64))), .second, .unset, .unset] [])) _
        refine XS.iconst X8.here hx rfl (hb hby at_110) ?_
        show Steps p.tables e below (T8.setTop (mkF m 111 #[.val (.int p0), .val (.int p1), .val (.int p2), .val (.int p3), .val (.int p4), .val (.int p5), .val (.ref b1), .val (.int ((p2 &&& (3 : Int32)) - (1 : Int32))), .val (.int (p3 &&& (3 : Int32))), .val (.int (f0_l9_71001 p0 p1 p2 p3)), .val (.int (f9 (f0_l9_71001 p0 p1 p2 p3) (f0_e1 p0 p1 p4) (f0_e2 p0 p1 p4))), .val (.long (((f0_l9_71001 p0 p1 p2 p3).toInt64) - (p0.toInt64))), .second, .val (.long ((p1.toInt64) - ((f0_l9_71001 p0 p1 p2 p3).toInt64))), .second, .unset, .unset] [(.int (1 : Int32))])) _
        refine XS.goto X8.here hx rfl (pc0 := 111) (pc' := 115) rfl (hb hby at_111) (by decide) (by decide) ?_
        exact kt
      · have hj : (f0_s0_115002 p0 p1 p2 p3) = (0 : Int32) := by unfold f0_s0_115002; rw [if_pos hc10, if_neg hc11]
        rw [hj] at kt
        refine pre9 t ?_
        show Steps p.tables e below (T8.setTop (mkF m 100 #[.val (.int p0), .val (.int p1), .val (.int p2), .val (.int p3), .val (.int p4), .val (.int p5), .val (.ref b1), .val (.int ((p2 &&& (3 : Int32)) - (1 : Int32))), .val (.int (p3 &&& (3 : Int32))), .val (.int (f0_l9_71001 p0 p1 p2 p3)), .val (.int (f9 (f0_l9_71001 p0 p1 p2 p3) (f0_e1 p0 p1 p4) (f0_e2 p0 p1 p4))), .val (.long (((f0_l9_71001 p0 p1 p2 p3).toInt64) - (p0.toInt64))), .second, .val (.long ((p1.toInt64) - ((f0_l9_71001 p0 p1 p2 p3).toInt64))), .second, .unset, .unset] [(.int (f0_e3 p0 p1 p2 p3))])) _
        refine XS.ifNo X8.here hx rfl (hb hby at_100) rfl ((if0 _ _).trans (tlt hc10).2.2.2) ?_
        show Steps p.tables e below (T8.setTop (mkF m 103 #[.val (.int p0), .val (.int p1), .val (.int p2), .val (.int p3), .val (.int p4), .val (.int p5), .val (.ref b1), .val (.int ((p2 &&& (3 : Int32)) - (1 : Int32))), .val (.int (p3 &&& (3 : Int32))), .val (.int (f0_l9_71001 p0 p1 p2 p3)), .val (.int (f9 (f0_l9_71001 p0 p1 p2 p3) (f0_e1 p0 p1 p4) (f0_e2 p0 p1 p4))), .val (.long (((f0_l9_71001 p0 p1 p2 p3).toInt64) - (p0.toInt64))), .second, .val (.long ((p1.toInt64) - ((f0_l9_71001 p0 p1 p2 p3).toInt64))), .second, .unset, .unset] [])) _
        refine XS.lload X8.here hx rfl (hb hby at_103) rfl ?_
        show Steps p.tables e below (T8.setTop (mkF m 105 #[.val (.int p0), .val (.int p1), .val (.int p2), .val (.int p3), .val (.int p4), .val (.int p5), .val (.ref b1), .val (.int ((p2 &&& (3 : Int32)) - (1 : Int32))), .val (.int (p3 &&& (3 : Int32))), .val (.int (f0_l9_71001 p0 p1 p2 p3)), .val (.int (f9 (f0_l9_71001 p0 p1 p2 p3) (f0_e1 p0 p1 p4) (f0_e2 p0 p1 p4))), .val (.long (((f0_l9_71001 p0 p1 p2 p3).toInt64) - (p0.toInt64))), .second, .val (.long ((p1.toInt64) - ((f0_l9_71001 p0 p1 p2 p3).toInt64))), .second, .unset, .unset] [(.long ((p1.toInt64) - ((f0_l9_71001 p0 p1 p2 p3).toInt64)))])) _
        refine XS.lconst X8.here hx rfl (hb hby at_105) ?_
        show Steps p.tables e below (T8.setTop (mkF m 106 #[.val (.int p0), .val (.int p1), .val (.int p2), .val (.int p3), .val (.int p4), .val (.int p5), .val (.ref b1), .val (.int ((p2 &&& (3 : Int32)) - (1 : Int32))), .val (.int (p3 &&& (3 : Int32))), .val (.int (f0_l9_71001 p0 p1 p2 p3)), .val (.int (f9 (f0_l9_71001 p0 p1 p2 p3) (f0_e1 p0 p1 p4) (f0_e2 p0 p1 p4))), .val (.long (((f0_l9_71001 p0 p1 p2 p3).toInt64) - (p0.toInt64))), .second, .val (.long ((p1.toInt64) - ((f0_l9_71001 p0 p1 p2 p3).toInt64))), .second, .unset, .unset] [(.long (0 : Int64)), (.long ((p1.toInt64) - ((f0_l9_71001 p0 p1 p2 p3).toInt64)))])) _
        refine XS.lcmp X8.here hx rfl (hb hby at_106) rfl ?_
        show Steps p.tables e below (T8.setTop (mkF m 107 #[.val (.int p0), .val (.int p1), .val (.int p2), .val (.int p3), .val (.int p4), .val (.int p5), .val (.ref b1), .val (.int ((p2 &&& (3 : Int32)) - (1 : Int32))), .val (.int (p3 &&& (3 : Int32))), .val (.int (f0_l9_71001 p0 p1 p2 p3)), .val (.int (f9 (f0_l9_71001 p0 p1 p2 p3) (f0_e1 p0 p1 p4) (f0_e2 p0 p1 p4))), .val (.long (((f0_l9_71001 p0 p1 p2 p3).toInt64) - (p0.toInt64))), .second, .val (.long ((p1.toInt64) - ((f0_l9_71001 p0 p1 p2 p3).toInt64))), .second, .unset, .unset] [(.int (f0_e4 p0 p1 p2 p3))])) _
        refine XS.ifYes X8.here hx rfl (pc0 := 107) (pc' := 114) rfl (hb hby at_107) rfl ((if0 _ _).trans (flt hc11).2.2.2) (by decide) (by decide) ?_
        show Steps p.tables e below (T8.setTop (mkF m 114 #[.val (.int p0), .val (.int p1), .val (.int p2), .val (.int p3), .val (.int p4), .val (.int p5), .val (.ref b1), .val (.int ((p2 &&& (3 : Int32)) - (1 : Int32))), .val (.int (p3 &&& (3 : Int32))), .val (.int (f0_l9_71001 p0 p1 p2 p3)), .val (.int (f9 (f0_l9_71001 p0 p1 p2 p3) (f0_e1 p0 p1 p4) (f0_e2 p0 p1 p4))), .val (.long (((f0_l9_71001 p0 p1 p2 p3).toInt64) - (p0.toInt64))), .second, .val (.long ((p1.toInt64) - ((f0_l9_71001 p0 p1 p2 p3).toInt64))), .second, .unset, .unset] [])) _
        refine XS.iconst X8.here hx rfl (hb hby at_114) ?_
        exact kt
    · have hj : (f0_s0_115002 p0 p1 p2 p3) = (0 : Int32) := by unfold f0_s0_115002; rw [if_neg hc10]
      rw [hj] at kt
      refine pre9 t ?_
      show Steps p.tables e below (T8.setTop (mkF m 100 #[.val (.int p0), .val (.int p1), .val (.int p2), .val (.int p3), .val (.int p4), .val (.int p5), .val (.ref b1), .val (.int ((p2 &&& (3 : Int32)) - (1 : Int32))), .val (.int (p3 &&& (3 : Int32))), .val (.int (f0_l9_71001 p0 p1 p2 p3)), .val (.int (f9 (f0_l9_71001 p0 p1 p2 p3) (f0_e1 p0 p1 p4) (f0_e2 p0 p1 p4))), .val (.long (((f0_l9_71001 p0 p1 p2 p3).toInt64) - (p0.toInt64))), .second, .val (.long ((p1.toInt64) - ((f0_l9_71001 p0 p1 p2 p3).toInt64))), .second, .unset, .unset] [(.int (f0_e3 p0 p1 p2 p3))])) _
      refine XS.ifYes X8.here hx rfl (pc0 := 100) (pc' := 114) rfl (hb hby at_100) rfl ((if0 _ _).trans (flt hc10).2.2.2) (by decide) (by decide) ?_
      show Steps p.tables e below (T8.setTop (mkF m 114 #[.val (.int p0), .val (.int p1), .val (.int p2), .val (.int p3), .val (.int p4), .val (.int p5), .val (.ref b1), .val (.int ((p2 &&& (3 : Int32)) - (1 : Int32))), .val (.int (p3 &&& (3 : Int32))), .val (.int (f0_l9_71001 p0 p1 p2 p3)), .val (.int (f9 (f0_l9_71001 p0 p1 p2 p3) (f0_e1 p0 p1 p4) (f0_e2 p0 p1 p4))), .val (.long (((f0_l9_71001 p0 p1 p2 p3).toInt64) - (p0.toInt64))), .second, .val (.long ((p1.toInt64) - ((f0_l9_71001 p0 p1 p2 p3).toInt64))), .second, .unset, .unset] [])) _
      refine XS.iconst X8.here hx rfl (hb hby at_114) ?_
      exact kt
  obtain ⟨cq13, kq13, q13a, q13b, q13c⟩ := isOf hZ e8 E3q
  obtain ⟨_, _, ⟨T13, L13, k13, n13⟩, -, X13, ⟨Lc13, hQ13, l13, y13, z13⟩, st13⟩ := X8.virtualBack hx (y := (⟨"com/example/vaultgate/vaultgate/history/AtcClaim", "follows", "(I)Z"⟩ : MethodName)) (z := (⟨"com/example/vaultgate/vaultgate/history/AtcClaim", "follows", "(I)Z"⟩ : MethodName)) hown (mvT hZ (hw _ (List.mem_of_getElem? (i := 51) rfl))) (mvT hZ (hw _ (List.mem_of_getElem? (i := 52) rfl))) (notFace_of_selects (args := #[]) (mvT hZ (hw _ (List.mem_of_getElem? (i := 54) rfl)))) (mvT hZ (hw _ (List.mem_of_getElem? (i := 54) rfl))) (mvT hZ (hw _ (List.mem_of_getElem? (i := 53) rfl))) (by decide) (backOf (W := 0) (rm9 l Z a0 hw [] b1 p0 (f0_e1 p0 p1 p4) (f0_e2 p0 p1 p4) T3.heap n0 Zz3 E3q gn_b1 F3n_previousAbove F3n_previousBelow) hZ (hw _ (List.mem_of_getElem? (i := 55) rfl)) (hw _ (List.mem_of_getElem? (i := 2) rfl)) (by decide) (by decide)) q13a q13c (g := (mkF m 120 #[.val (.int p0), .val (.int p1), .val (.int p2), .val (.int p3), .val (.int p4), .val (.int p5), .val (.ref b1), .val (.int ((p2 &&& (3 : Int32)) - (1 : Int32))), .val (.int (p3 &&& (3 : Int32))), .val (.int (f0_l9_71001 p0 p1 p2 p3)), .val (.int (f9 (f0_l9_71001 p0 p1 p2 p3) (f0_e1 p0 p1 p4) (f0_e2 p0 p1 p4))), .val (.long (((f0_l9_71001 p0 p1 p2 p3).toInt64) - (p0.toInt64))), .second, .val (.long ((p1.toInt64) - ((f0_l9_71001 p0 p1 p2 p3).toInt64))), .second, .val (.int (f0_s0_115002 p0 p1 p2 p3)), .unset] [(.int p0), (.ref b1)])) rfl (by rw [hml]; rfl) (Steps.refl _) (argsL := [(.int p0)]) (rest := []) (lenOf pd_7 rfl) rfl (by show 2 * 0 + _ ≤ _; exact Nat.le_of_eq rfl) (hb hby at_120) (fun _ _ => ⟨rfl, e8, (by decide : 3 + 0 ≤ _), (by decide : 9 + 0 ≤ _)⟩)
  dsimp only [Pt.U, Pt.locs, Pt.cells, Pt.slots] at X13 l13 y13 z13 st13 hQ13
  subst l13 y13 z13
  obtain ⟨rfl, N13q, e13⟩ := hQ13
  have N13 := Fr.app N8 N13q
  have pre14 : ∀ t, Steps p.tables e below (T13.setTop (mkF m 123 #[.val (.int p0), .val (.int p1), .val (.int p2), .val (.int p3), .val (.int p4), .val (.int p5), .val (.ref b1), .val (.int ((p2 &&& (3 : Int32)) - (1 : Int32))), .val (.int (p3 &&& (3 : Int32))), .val (.int (f0_l9_71001 p0 p1 p2 p3)), .val (.int (f9 (f0_l9_71001 p0 p1 p2 p3) (f0_e1 p0 p1 p4) (f0_e2 p0 p1 p4))), .val (.long (((f0_l9_71001 p0 p1 p2 p3).toInt64) - (p0.toInt64))), .second, .val (.long ((p1.toInt64) - ((f0_l9_71001 p0 p1 p2 p3).toInt64))), .second, .val (.int (f0_s0_115002 p0 p1 p2 p3)), .unset] [(.int (f9 p0 (f0_e1 p0 p1 p4) (f0_e2 p0 p1 p4)))])) t → Steps p.tables e below (s₁.setTop (entryFrame m #[(.int p0), (.int p1), (.int p2), (.int p3), (.int p4), (.int p5)] maxLocals)) t := fun t kt => pre12 t (by
    show Steps p.tables e below (T8.setTop (mkF m 115 #[.val (.int p0), .val (.int p1), .val (.int p2), .val (.int p3), .val (.int p4), .val (.int p5), .val (.ref b1), .val (.int ((p2 &&& (3 : Int32)) - (1 : Int32))), .val (.int (p3 &&& (3 : Int32))), .val (.int (f0_l9_71001 p0 p1 p2 p3)), .val (.int (f9 (f0_l9_71001 p0 p1 p2 p3) (f0_e1 p0 p1 p4) (f0_e2 p0 p1 p4))), .val (.long (((f0_l9_71001 p0 p1 p2 p3).toInt64) - (p0.toInt64))), .second, .val (.long ((p1.toInt64) - ((f0_l9_71001 p0 p1 p2 p3).toInt64))), .second, .unset, .unset] [(.int (f0_s0_115002 p0 p1 p2 p3))])) _
    refine XS.istore X8.here hx rfl (hb hby at_115) rfl (l' := #[.val (.int p0), .val (.int p1), .val (.int p2), .val (.int p3), .val (.int p4), .val (.int p5), .val (.ref b1), .val (.int ((p2 &&& (3 : Int32)) - (1 : Int32))), .val (.int (p3 &&& (3 : Int32))), .val (.int (f0_l9_71001 p0 p1 p2 p3)), .val (.int (f9 (f0_l9_71001 p0 p1 p2 p3) (f0_e1 p0 p1 p4) (f0_e2 p0 p1 p4))), .val (.long (((f0_l9_71001 p0 p1 p2 p3).toInt64) - (p0.toInt64))), .second, .val (.long ((p1.toInt64) - ((f0_l9_71001 p0 p1 p2 p3).toInt64))), .second, .val (.int (f0_s0_115002 p0 p1 p2 p3)), .unset]) rfl ?_
    show Steps p.tables e below (T8.setTop (mkF m 117 #[.val (.int p0), .val (.int p1), .val (.int p2), .val (.int p3), .val (.int p4), .val (.int p5), .val (.ref b1), .val (.int ((p2 &&& (3 : Int32)) - (1 : Int32))), .val (.int (p3 &&& (3 : Int32))), .val (.int (f0_l9_71001 p0 p1 p2 p3)), .val (.int (f9 (f0_l9_71001 p0 p1 p2 p3) (f0_e1 p0 p1 p4) (f0_e2 p0 p1 p4))), .val (.long (((f0_l9_71001 p0 p1 p2 p3).toInt64) - (p0.toInt64))), .second, .val (.long ((p1.toInt64) - ((f0_l9_71001 p0 p1 p2 p3).toInt64))), .second, .val (.int (f0_s0_115002 p0 p1 p2 p3)), .unset] [])) _
    refine XS.aload X8.here hx rfl (hb hby at_117) rfl rfl ?_
    show Steps p.tables e below (T8.setTop (mkF m 119 #[.val (.int p0), .val (.int p1), .val (.int p2), .val (.int p3), .val (.int p4), .val (.int p5), .val (.ref b1), .val (.int ((p2 &&& (3 : Int32)) - (1 : Int32))), .val (.int (p3 &&& (3 : Int32))), .val (.int (f0_l9_71001 p0 p1 p2 p3)), .val (.int (f9 (f0_l9_71001 p0 p1 p2 p3) (f0_e1 p0 p1 p4) (f0_e2 p0 p1 p4))), .val (.long (((f0_l9_71001 p0 p1 p2 p3).toInt64) - (p0.toInt64))), .second, .val (.long ((p1.toInt64) - ((f0_l9_71001 p0 p1 p2 p3).toInt64))), .second, .val (.int (f0_s0_115002 p0 p1 p2 p3)), .unset] [(.ref b1)])) _
    refine XS.iloadN X8.here hx rfl (hb hby at_119) rfl ?_
    show Steps p.tables e below (T8.setTop (mkF m 120 #[.val (.int p0), .val (.int p1), .val (.int p2), .val (.int p3), .val (.int p4), .val (.int p5), .val (.ref b1), .val (.int ((p2 &&& (3 : Int32)) - (1 : Int32))), .val (.int (p3 &&& (3 : Int32))), .val (.int (f0_l9_71001 p0 p1 p2 p3)), .val (.int (f9 (f0_l9_71001 p0 p1 p2 p3) (f0_e1 p0 p1 p4) (f0_e2 p0 p1 p4))), .val (.long (((f0_l9_71001 p0 p1 p2 p3).toInt64) - (p0.toInt64))), .second, .val (.long ((p1.toInt64) - ((f0_l9_71001 p0 p1 p2 p3).toInt64))), .second, .val (.int (f0_s0_115002 p0 p1 p2 p3)), .unset] [(.int p0), (.ref b1)])) _
    refine st13.trans ?_
    exact kt)
  obtain ⟨T20, L20, X20, e20, N20, pre20⟩ : ∃ (T' : State) (L' : List Loc), Stand p l e room_1 s m #[(.int p0), (.int p1), (.int p2), (.int p3), (.int p4), (.int p5)] below meth c T' L' 3 9 ∧ T'.heap = T3.heap ∧ Fr n0 L' ∧ ∀ t, Steps p.tables e below (T'.setTop (mkF m 140 #[.val (.int p0), .val (.int p1), .val (.int p2), .val (.int p3), .val (.int p4), .val (.int p5), .val (.ref b1), .val (.int ((p2 &&& (3 : Int32)) - (1 : Int32))), .val (.int (p3 &&& (3 : Int32))), .val (.int (f0_l9_71001 p0 p1 p2 p3)), .val (.int (f9 (f0_l9_71001 p0 p1 p2 p3) (f0_e1 p0 p1 p4) (f0_e2 p0 p1 p4))), .val (.long (((f0_l9_71001 p0 p1 p2 p3).toInt64) - (p0.toInt64))), .second, .val (.long ((p1.toInt64) - ((f0_l9_71001 p0 p1 p2 p3).toInt64))), .second, .val (.int (f0_s0_115002 p0 p1 p2 p3)), .unset] [(.int (f0_s0_140004 p0 p1 p4))])) t → Steps p.tables e below (s₁.setTop (entryFrame m #[(.int p0), (.int p1), (.int p2), (.int p3), (.int p4), (.int p5)] maxLocals)) t := by
    by_cases hc15 : (f9 p0 (f0_e1 p0 p1 p4) (f0_e2 p0 p1 p4)) = (0 : Int32)
    · obtain ⟨cq16, kq16, q16a, q16b, q16c⟩ := isOf hZ e13 E3q
      obtain ⟨_, _, ⟨T16, L16, k16, n16⟩, -, X16, ⟨Lc16, hQ16, l16, y16, z16⟩, st16⟩ := X13.virtualBack hx (y := (⟨"com/example/vaultgate/vaultgate/history/AtcClaim", "follows", "(I)Z"⟩ : MethodName)) (z := (⟨"com/example/vaultgate/vaultgate/history/AtcClaim", "follows", "(I)Z"⟩ : MethodName)) hown (mvT hZ (hw _ (List.mem_of_getElem? (i := 51) rfl))) (mvT hZ (hw _ (List.mem_of_getElem? (i := 52) rfl))) (notFace_of_selects (args := #[]) (mvT hZ (hw _ (List.mem_of_getElem? (i := 54) rfl)))) (mvT hZ (hw _ (List.mem_of_getElem? (i := 54) rfl))) (mvT hZ (hw _ (List.mem_of_getElem? (i := 53) rfl))) (by decide) (backOf (W := 0) (rm9 l Z a0 hw [] b1 p1 (f0_e1 p0 p1 p4) (f0_e2 p0 p1 p4) T3.heap n0 Zz3 E3q gn_b1 F3n_previousAbove F3n_previousBelow) hZ (hw _ (List.mem_of_getElem? (i := 55) rfl)) (hw _ (List.mem_of_getElem? (i := 2) rfl)) (by decide) (by decide)) q16a q16c (g := (mkF m 129 #[.val (.int p0), .val (.int p1), .val (.int p2), .val (.int p3), .val (.int p4), .val (.int p5), .val (.ref b1), .val (.int ((p2 &&& (3 : Int32)) - (1 : Int32))), .val (.int (p3 &&& (3 : Int32))), .val (.int (f0_l9_71001 p0 p1 p2 p3)), .val (.int (f9 (f0_l9_71001 p0 p1 p2 p3) (f0_e1 p0 p1 p4) (f0_e2 p0 p1 p4))), .val (.long (((f0_l9_71001 p0 p1 p2 p3).toInt64) - (p0.toInt64))), .second, .val (.long ((p1.toInt64) - ((f0_l9_71001 p0 p1 p2 p3).toInt64))), .second, .val (.int (f0_s0_115002 p0 p1 p2 p3)), .unset] [(.int p1), (.ref b1)])) rfl (by rw [hml]; rfl) (Steps.refl _) (argsL := [(.int p1)]) (rest := []) (lenOf pd_7 rfl) rfl (by show 2 * 0 + _ ≤ _; exact Nat.le_of_eq rfl) (hb hby at_129) (fun _ _ => ⟨rfl, e13, (by decide : 3 + 0 ≤ _), (by decide : 9 + 0 ≤ _)⟩)
      dsimp only [Pt.U, Pt.locs, Pt.cells, Pt.slots] at X16 l16 y16 z16 st16 hQ16
      subst l16 y16 z16
      obtain ⟨rfl, N16q, e16⟩ := hQ16
      have N16 := Fr.app N13 N16q
      have pre17 : ∀ t, Steps p.tables e below (T16.setTop (mkF m 132 #[.val (.int p0), .val (.int p1), .val (.int p2), .val (.int p3), .val (.int p4), .val (.int p5), .val (.ref b1), .val (.int ((p2 &&& (3 : Int32)) - (1 : Int32))), .val (.int (p3 &&& (3 : Int32))), .val (.int (f0_l9_71001 p0 p1 p2 p3)), .val (.int (f9 (f0_l9_71001 p0 p1 p2 p3) (f0_e1 p0 p1 p4) (f0_e2 p0 p1 p4))), .val (.long (((f0_l9_71001 p0 p1 p2 p3).toInt64) - (p0.toInt64))), .second, .val (.long ((p1.toInt64) - ((f0_l9_71001 p0 p1 p2 p3).toInt64))), .second, .val (.int (f0_s0_115002 p0 p1 p2 p3)), .unset] [(.int (f9 p1 (f0_e1 p0 p1 p4) (f0_e2 p0 p1 p4)))])) t → Steps p.tables e below (s₁.setTop (entryFrame m #[(.int p0), (.int p1), (.int p2), (.int p3), (.int p4), (.int p5)] maxLocals)) t := fun t kt => pre14 t (by
        show Steps p.tables e below (T13.setTop (mkF m 123 #[.val (.int p0), .val (.int p1), .val (.int p2), .val (.int p3), .val (.int p4), .val (.int p5), .val (.ref b1), .val (.int ((p2 &&& (3 : Int32)) - (1 : Int32))), .val (.int (p3 &&& (3 : Int32))), .val (.int (f0_l9_71001 p0 p1 p2 p3)), .val (.int (f9 (f0_l9_71001 p0 p1 p2 p3) (f0_e1 p0 p1 p4) (f0_e2 p0 p1 p4))), .val (.long (((f0_l9_71001 p0 p1 p2 p3).toInt64) - (p0.toInt64))), .second, .val (.long ((p1.toInt64) - ((f0_l9_71001 p0 p1 p2 p3).toInt64))), .second, .val (.int (f0_s0_115002 p0 p1 p2 p3)), .unset] [(.int (f9 p0 (f0_e1 p0 p1 p4) (f0_e2 p0 p1 p4)))])) _
        refine XS.ifNo X13.here hx rfl (hb hby at_123) rfl ((if0 _ _).trans (teq hc15).2) ?_
        show Steps p.tables e below (T13.setTop (mkF m 126 #[.val (.int p0), .val (.int p1), .val (.int p2), .val (.int p3), .val (.int p4), .val (.int p5), .val (.ref b1), .val (.int ((p2 &&& (3 : Int32)) - (1 : Int32))), .val (.int (p3 &&& (3 : Int32))), .val (.int (f0_l9_71001 p0 p1 p2 p3)), .val (.int (f9 (f0_l9_71001 p0 p1 p2 p3) (f0_e1 p0 p1 p4) (f0_e2 p0 p1 p4))), .val (.long (((f0_l9_71001 p0 p1 p2 p3).toInt64) - (p0.toInt64))), .second, .val (.long ((p1.toInt64) - ((f0_l9_71001 p0 p1 p2 p3).toInt64))), .second, .val (.int (f0_s0_115002 p0 p1 p2 p3)), .unset] [])) _
        refine XS.aload X13.here hx rfl (hb hby at_126) rfl rfl ?_
        show Steps p.tables e below (T13.setTop (mkF m 128 #[.val (.int p0), .val (.int p1), .val (.int p2), .val (.int p3), .val (.int p4), .val (.int p5), .val (.ref b1), .val (.int ((p2 &&& (3 : Int32)) - (1 : Int32))), .val (.int (p3 &&& (3 : Int32))), .val (.int (f0_l9_71001 p0 p1 p2 p3)), .val (.int (f9 (f0_l9_71001 p0 p1 p2 p3) (f0_e1 p0 p1 p4) (f0_e2 p0 p1 p4))), .val (.long (((f0_l9_71001 p0 p1 p2 p3).toInt64) - (p0.toInt64))), .second, .val (.long ((p1.toInt64) - ((f0_l9_71001 p0 p1 p2 p3).toInt64))), .second, .val (.int (f0_s0_115002 p0 p1 p2 p3)), .unset] [(.ref b1)])) _
        refine XS.iloadN X13.here hx rfl (hb hby at_128) rfl ?_
        show Steps p.tables e below (T13.setTop (mkF m 129 #[.val (.int p0), .val (.int p1), .val (.int p2), .val (.int p3), .val (.int p4), .val (.int p5), .val (.ref b1), .val (.int ((p2 &&& (3 : Int32)) - (1 : Int32))), .val (.int (p3 &&& (3 : Int32))), .val (.int (f0_l9_71001 p0 p1 p2 p3)), .val (.int (f9 (f0_l9_71001 p0 p1 p2 p3) (f0_e1 p0 p1 p4) (f0_e2 p0 p1 p4))), .val (.long (((f0_l9_71001 p0 p1 p2 p3).toInt64) - (p0.toInt64))), .second, .val (.long ((p1.toInt64) - ((f0_l9_71001 p0 p1 p2 p3).toInt64))), .second, .val (.int (f0_s0_115002 p0 p1 p2 p3)), .unset] [(.int p1), (.ref b1)])) _
        refine st16.trans ?_
        exact kt)
      have pre19 : ∀ t, Steps p.tables e below (T16.setTop (mkF m 140 #[.val (.int p0), .val (.int p1), .val (.int p2), .val (.int p3), .val (.int p4), .val (.int p5), .val (.ref b1), .val (.int ((p2 &&& (3 : Int32)) - (1 : Int32))), .val (.int (p3 &&& (3 : Int32))), .val (.int (f0_l9_71001 p0 p1 p2 p3)), .val (.int (f9 (f0_l9_71001 p0 p1 p2 p3) (f0_e1 p0 p1 p4) (f0_e2 p0 p1 p4))), .val (.long (((f0_l9_71001 p0 p1 p2 p3).toInt64) - (p0.toInt64))), .second, .val (.long ((p1.toInt64) - ((f0_l9_71001 p0 p1 p2 p3).toInt64))), .second, .val (.int (f0_s0_115002 p0 p1 p2 p3)), .unset] [(.int (f0_s0_140003 p0 p1 p4))])) t → Steps p.tables e below (s₁.setTop (entryFrame m #[(.int p0), (.int p1), (.int p2), (.int p3), (.int p4), (.int p5)] maxLocals)) t := by
        intro t kt
        by_cases hc18 : (f9 p1 (f0_e1 p0 p1 p4) (f0_e2 p0 p1 p4)) = (0 : Int32)
        · have hj : (f0_s0_140003 p0 p1 p4) = (1 : Int32) := by unfold f0_s0_140003; rw [if_pos hc18]
          rw [hj] at kt
          refine pre17 t ?_
          show Steps p.tables e below (T16.setTop (mkF m 132 #[.val (.int p0), .val (.int p1), .val (.int p2), .val (.int p3), .val (.int p4), .val (.int p5), .val (.ref b1), .val (.int ((p2 &&& (3 : Int32)) - (1 : Int32))), .val (.int (p3 &&& (3 : Int32))), .val (.int (f0_l9_71001 p0 p1 p2 p3)), .val (.int (f9 (f0_l9_71001 p0 p1 p2 p3) (f0_e1 p0 p1 p4) (f0_e2 p0 p1 p4))), .val (.long (((f0_l9_71001 p0 p1 p2 p3).toInt64) - (p0.toInt64))), .second, .val (.long ((p1.toInt64) - ((f0_l9_71001 p0 p1 p2 p3).toInt64))), .second, .val (.int (f0_s0_115002 p0 p1 p2 p3)), .unset] [(.int (f9 p1 (f0_e1 p0 p1 p4) (f0_e2 p0 p1 p4)))])) _
          refine XS.ifNo X16.here hx rfl (hb hby at_132) rfl ((if0 _ _).trans (teq hc18).2) ?_
          show Steps p.tables e below (T16.setTop (mkF m 135 #[.val (.int p0), .val (.int p1), .val (.int p2), .val (.int p3), .val (.int p4), .val (.int p5), .val (.ref b1), .val (.int ((p2 &&& (3 : Int32)) - (1 : Int32))), .val (.int (p3 &&& (3 : Int32))), .val (.int (f0_l9_71001 p0 p1 p2 p3)), .val (.int (f9 (f0_l9_71001 p0 p1 p2 p3) (f0_e1 p0 p1 p4) (f0_e2 p0 p1 p4))), .val (.long (((f0_l9_71001 p0 p1 p2 p3).toInt64) - (p0.toInt64))), .second, .val (.long ((p1.toInt64) - ((f0_l9_71001 p0 p1 p2 p3).toInt64))), .second, .val (.int (f0_s0_115002 p0 p1 p2 p3)), .unset] [])) _
          refine XS.iconst X16.here hx rfl (hb hby at_135) ?_
          show Steps p.tables e below (T16.setTop (mkF m 136 #[.val (.int p0), .val (.int p1), .val (.int p2), .val (.int p3), .val (.int p4), .val (.int p5), .val (.ref b1), .val (.int ((p2 &&& (3 : Int32)) - (1 : Int32))), .val (.int (p3 &&& (3 : Int32))), .val (.int (f0_l9_71001 p0 p1 p2 p3)), .val (.int (f9 (f0_l9_71001 p0 p1 p2 p3) (f0_e1 p0 p1 p4) (f0_e2 p0 p1 p4))), .val (.long (((f0_l9_71001 p0 p1 p2 p3).toInt64) - (p0.toInt64))), .second, .val (.long ((p1.toInt64) - ((f0_l9_71001 p0 p1 p2 p3).toInt64))), .second, .val (.int (f0_s0_115002 p0 p1 p2 p3)), .unset] [(.int (1 : Int32))])) _
          refine XS.goto X16.here hx rfl (pc0 := 136) (pc' := 140) rfl (hb hby at_136) (by decide) (by decide) ?_
          exact kt
        · have hj : (f0_s0_140003 p0 p1 p4) = (0 : Int32) := by unfold f0_s0_140003; rw [if_neg hc18]
          rw [hj] at kt
          refine pre17 t ?_
          show Steps p.tables e below (T16.setTop (mkF m 132 #[.val (.int p0), .val (.int p1), .val (.int p2), .val (.int p3), .val (.int p4), .val (.int p5), .val (.ref b1), .val (.int ((p2 &&& (3 : Int32)) - (1 : Int32))), .val (.int (p3 &&& (3 : Int32))), .val (.int (f0_l9_71001 p0 p1 p2 p3)), .val (.int (f9 (f0_l9_71001 p0 p1 p2 p3) (f0_e1 p0 p1 p4) (f0_e2 p0 p1 p4))), .val (.long (((f0_l9_71001 p0 p1 p2 p3).toInt64) - (p0.toInt64))), .second, .val (.long ((p1.toInt64) - ((f0_l9_71001 p0 p1 p2 p3).toInt64))), .second, .val (.int (f0_s0_115002 p0 p1 p2 p3)), .unset] [(.int (f9 p1 (f0_e1 p0 p1 p4) (f0_e2 p0 p1 p4)))])) _
          refine XS.ifYes X16.here hx rfl (pc0 := 132) (pc' := 139) rfl (hb hby at_132) rfl ((if0 _ _).trans (feq hc18).2) (by decide) (by decide) ?_
          show Steps p.tables e below (T16.setTop (mkF m 139 #[.val (.int p0), .val (.int p1), .val (.int p2), .val (.int p3), .val (.int p4), .val (.int p5), .val (.ref b1), .val (.int ((p2 &&& (3 : Int32)) - (1 : Int32))), .val (.int (p3 &&& (3 : Int32))), .val (.int (f0_l9_71001 p0 p1 p2 p3)), .val (.int (f9 (f0_l9_71001 p0 p1 p2 p3) (f0_e1 p0 p1 p4) (f0_e2 p0 p1 p4))), .val (.long (((f0_l9_71001 p0 p1 p2 p3).toInt64) - (p0.toInt64))), .second, .val (.long ((p1.toInt64) - ((f0_l9_71001 p0 p1 p2 p3).toInt64))), .second, .val (.int (f0_s0_115002 p0 p1 p2 p3)), .unset] [])) _
          refine XS.iconst X16.here hx rfl (hb hby at_139) ?_
          exact kt
      refine ⟨T16, _, X16, e16, N16, fun t kt => ?_⟩
      have hj : (f0_s0_140004 p0 p1 p4) = (f0_s0_140003 p0 p1 p4) := by unfold f0_s0_140004; rw [if_pos hc15]
      rw [hj] at kt
      refine pre19 t ?_
      exact kt
    · refine ⟨T13, _, X13, e13, N13, fun t kt => ?_⟩
      have hj : (f0_s0_140004 p0 p1 p4) = (0 : Int32) := by unfold f0_s0_140004; rw [if_neg hc15]
      rw [hj] at kt
      refine pre14 t ?_
      show Steps p.tables e below (T13.setTop (mkF m 123 #[.val (.int p0), .val (.int p1), .val (.int p2), .val (.int p3), .val (.int p4), .val (.int p5), .val (.ref b1), .val (.int ((p2 &&& (3 : Int32)) - (1 : Int32))), .val (.int (p3 &&& (3 : Int32))), .val (.int (f0_l9_71001 p0 p1 p2 p3)), .val (.int (f9 (f0_l9_71001 p0 p1 p2 p3) (f0_e1 p0 p1 p4) (f0_e2 p0 p1 p4))), .val (.long (((f0_l9_71001 p0 p1 p2 p3).toInt64) - (p0.toInt64))), .second, .val (.long ((p1.toInt64) - ((f0_l9_71001 p0 p1 p2 p3).toInt64))), .second, .val (.int (f0_s0_115002 p0 p1 p2 p3)), .unset] [(.int (f9 p0 (f0_e1 p0 p1 p4) (f0_e2 p0 p1 p4)))])) _
      refine XS.ifYes X13.here hx rfl (pc0 := 123) (pc' := 139) rfl (hb hby at_123) rfl ((if0 _ _).trans (feq hc15).2) (by decide) (by decide) ?_
      show Steps p.tables e below (T13.setTop (mkF m 139 #[.val (.int p0), .val (.int p1), .val (.int p2), .val (.int p3), .val (.int p4), .val (.int p5), .val (.ref b1), .val (.int ((p2 &&& (3 : Int32)) - (1 : Int32))), .val (.int (p3 &&& (3 : Int32))), .val (.int (f0_l9_71001 p0 p1 p2 p3)), .val (.int (f9 (f0_l9_71001 p0 p1 p2 p3) (f0_e1 p0 p1 p4) (f0_e2 p0 p1 p4))), .val (.long (((f0_l9_71001 p0 p1 p2 p3).toInt64) - (p0.toInt64))), .second, .val (.long ((p1.toInt64) - ((f0_l9_71001 p0 p1 p2 p3).toInt64))), .second, .val (.int (f0_s0_115002 p0 p1 p2 p3)), .unset] [])) _
      refine XS.iconst X13.here hx rfl (hb hby at_139) ?_
      exact kt
  have pre21 : ∀ t, Steps p.tables e below (T20.setTop (mkF m 146 #[.val (.int p0), .val (.int p1), .val (.int p2), .val (.int p3), .val (.int p4), .val (.int p5), .val (.ref b1), .val (.int ((p2 &&& (3 : Int32)) - (1 : Int32))), .val (.int (p3 &&& (3 : Int32))), .val (.int (f0_l9_71001 p0 p1 p2 p3)), .val (.int (f9 (f0_l9_71001 p0 p1 p2 p3) (f0_e1 p0 p1 p4) (f0_e2 p0 p1 p4))), .val (.long (((f0_l9_71001 p0 p1 p2 p3).toInt64) - (p0.toInt64))), .second, .val (.long ((p1.toInt64) - ((f0_l9_71001 p0 p1 p2 p3).toInt64))), .second, .val (.int (f0_s0_115002 p0 p1 p2 p3)), .val (.int (f0_s0_140004 p0 p1 p4))] [(.int (f0_s0_115002 p0 p1 p2 p3)), (.int (f9 (f0_l9_71001 p0 p1 p2 p3) (f0_e1 p0 p1 p4) (f0_e2 p0 p1 p4)))])) t → Steps p.tables e below (s₁.setTop (entryFrame m #[(.int p0), (.int p1), (.int p2), (.int p3), (.int p4), (.int p5)] maxLocals)) t := fun t kt => pre20 t (by
    show Steps p.tables e below (T20.setTop (mkF m 140 #[.val (.int p0), .val (.int p1), .val (.int p2), .val (.int p3), .val (.int p4), .val (.int p5), .val (.ref b1), .val (.int ((p2 &&& (3 : Int32)) - (1 : Int32))), .val (.int (p3 &&& (3 : Int32))), .val (.int (f0_l9_71001 p0 p1 p2 p3)), .val (.int (f9 (f0_l9_71001 p0 p1 p2 p3) (f0_e1 p0 p1 p4) (f0_e2 p0 p1 p4))), .val (.long (((f0_l9_71001 p0 p1 p2 p3).toInt64) - (p0.toInt64))), .second, .val (.long ((p1.toInt64) - ((f0_l9_71001 p0 p1 p2 p3).toInt64))), .second, .val (.int (f0_s0_115002 p0 p1 p2 p3)), .unset] [(.int (f0_s0_140004 p0 p1 p4))])) _
    refine XS.istore X20.here hx rfl (hb hby at_140) rfl (l' := #[.val (.int p0), .val (.int p1), .val (.int p2), .val (.int p3), .val (.int p4), .val (.int p5), .val (.ref b1), .val (.int ((p2 &&& (3 : Int32)) - (1 : Int32))), .val (.int (p3 &&& (3 : Int32))), .val (.int (f0_l9_71001 p0 p1 p2 p3)), .val (.int (f9 (f0_l9_71001 p0 p1 p2 p3) (f0_e1 p0 p1 p4) (f0_e2 p0 p1 p4))), .val (.long (((f0_l9_71001 p0 p1 p2 p3).toInt64) - (p0.toInt64))), .second, .val (.long ((p1.toInt64) - ((f0_l9_71001 p0 p1 p2 p3).toInt64))), .second, .val (.int (f0_s0_115002 p0 p1 p2 p3)), .val (.int (f0_s0_140004 p0 p1 p4))]) rfl ?_
    show Steps p.tables e below (T20.setTop (mkF m 142 #[.val (.int p0), .val (.int p1), .val (.int p2), .val (.int p3), .val (.int p4), .val (.int p5), .val (.ref b1), .val (.int ((p2 &&& (3 : Int32)) - (1 : Int32))), .val (.int (p3 &&& (3 : Int32))), .val (.int (f0_l9_71001 p0 p1 p2 p3)), .val (.int (f9 (f0_l9_71001 p0 p1 p2 p3) (f0_e1 p0 p1 p4) (f0_e2 p0 p1 p4))), .val (.long (((f0_l9_71001 p0 p1 p2 p3).toInt64) - (p0.toInt64))), .second, .val (.long ((p1.toInt64) - ((f0_l9_71001 p0 p1 p2 p3).toInt64))), .second, .val (.int (f0_s0_115002 p0 p1 p2 p3)), .val (.int (f0_s0_140004 p0 p1 p4))] [])) _
    refine XS.iload X20.here hx rfl (hb hby at_142) rfl ?_
    show Steps p.tables e below (T20.setTop (mkF m 144 #[.val (.int p0), .val (.int p1), .val (.int p2), .val (.int p3), .val (.int p4), .val (.int p5), .val (.ref b1), .val (.int ((p2 &&& (3 : Int32)) - (1 : Int32))), .val (.int (p3 &&& (3 : Int32))), .val (.int (f0_l9_71001 p0 p1 p2 p3)), .val (.int (f9 (f0_l9_71001 p0 p1 p2 p3) (f0_e1 p0 p1 p4) (f0_e2 p0 p1 p4))), .val (.long (((f0_l9_71001 p0 p1 p2 p3).toInt64) - (p0.toInt64))), .second, .val (.long ((p1.toInt64) - ((f0_l9_71001 p0 p1 p2 p3).toInt64))), .second, .val (.int (f0_s0_115002 p0 p1 p2 p3)), .val (.int (f0_s0_140004 p0 p1 p4))] [(.int (f9 (f0_l9_71001 p0 p1 p2 p3) (f0_e1 p0 p1 p4) (f0_e2 p0 p1 p4)))])) _
    refine XS.iload X20.here hx rfl (hb hby at_144) rfl ?_
    exact kt)
  by_cases hc22 : (f9 (f0_l9_71001 p0 p1 p2 p3) (f0_e1 p0 p1 p4) (f0_e2 p0 p1 p4)) = (f0_s0_115002 p0 p1 p2 p3)
  · have pre23 : ∀ t, Steps p.tables e below (T20.setTop (mkF m 151 #[.val (.int p0), .val (.int p1), .val (.int p2), .val (.int p3), .val (.int p4), .val (.int p5), .val (.ref b1), .val (.int ((p2 &&& (3 : Int32)) - (1 : Int32))), .val (.int (p3 &&& (3 : Int32))), .val (.int (f0_l9_71001 p0 p1 p2 p3)), .val (.int (f9 (f0_l9_71001 p0 p1 p2 p3) (f0_e1 p0 p1 p4) (f0_e2 p0 p1 p4))), .val (.long (((f0_l9_71001 p0 p1 p2 p3).toInt64) - (p0.toInt64))), .second, .val (.long ((p1.toInt64) - ((f0_l9_71001 p0 p1 p2 p3).toInt64))), .second, .val (.int (f0_s0_115002 p0 p1 p2 p3)), .val (.int (f0_s0_140004 p0 p1 p4))] [(.int (f0_s0_140004 p0 p1 p4))])) t → Steps p.tables e below (s₁.setTop (entryFrame m #[(.int p0), (.int p1), (.int p2), (.int p3), (.int p4), (.int p5)] maxLocals)) t := fun t kt => pre21 t (by
      show Steps p.tables e below (T20.setTop (mkF m 146 #[.val (.int p0), .val (.int p1), .val (.int p2), .val (.int p3), .val (.int p4), .val (.int p5), .val (.ref b1), .val (.int ((p2 &&& (3 : Int32)) - (1 : Int32))), .val (.int (p3 &&& (3 : Int32))), .val (.int (f0_l9_71001 p0 p1 p2 p3)), .val (.int (f9 (f0_l9_71001 p0 p1 p2 p3) (f0_e1 p0 p1 p4) (f0_e2 p0 p1 p4))), .val (.long (((f0_l9_71001 p0 p1 p2 p3).toInt64) - (p0.toInt64))), .second, .val (.long ((p1.toInt64) - ((f0_l9_71001 p0 p1 p2 p3).toInt64))), .second, .val (.int (f0_s0_115002 p0 p1 p2 p3)), .val (.int (f0_s0_140004 p0 p1 p4))] [(.int (f0_s0_115002 p0 p1 p2 p3)), (.int (f9 (f0_l9_71001 p0 p1 p2 p3) (f0_e1 p0 p1 p4) (f0_e2 p0 p1 p4)))])) _
      refine XS.icmpNo X20.here hx rfl (hb hby at_146) rfl (teq hc22).2 ?_
      show Steps p.tables e below (T20.setTop (mkF m 149 #[.val (.int p0), .val (.int p1), .val (.int p2), .val (.int p3), .val (.int p4), .val (.int p5), .val (.ref b1), .val (.int ((p2 &&& (3 : Int32)) - (1 : Int32))), .val (.int (p3 &&& (3 : Int32))), .val (.int (f0_l9_71001 p0 p1 p2 p3)), .val (.int (f9 (f0_l9_71001 p0 p1 p2 p3) (f0_e1 p0 p1 p4) (f0_e2 p0 p1 p4))), .val (.long (((f0_l9_71001 p0 p1 p2 p3).toInt64) - (p0.toInt64))), .second, .val (.long ((p1.toInt64) - ((f0_l9_71001 p0 p1 p2 p3).toInt64))), .second, .val (.int (f0_s0_115002 p0 p1 p2 p3)), .val (.int (f0_s0_140004 p0 p1 p4))] [])) _
      refine XS.iload X20.here hx rfl (hb hby at_149) rfl ?_
      exact kt)
    by_cases hc24 : (f0_s0_140004 p0 p1 p4) = (0 : Int32)
    · obtain ⟨fs, hr, hrun, hended, hW, hsame⟩ := X20.leave (v := some (.int (0 : Int32))) (fun h => by rw [Bd.returns] at h; cases h)
      refine ⟨_, _, pre23 _ ?_, hrun, hended, _, _, rfl, ?_, ⟨_, rfl⟩, hW, hsame.mono (by decide) (by decide)⟩
      · show Steps p.tables e below (T20.setTop (mkF m 151 #[.val (.int p0), .val (.int p1), .val (.int p2), .val (.int p3), .val (.int p4), .val (.int p5), .val (.ref b1), .val (.int ((p2 &&& (3 : Int32)) - (1 : Int32))), .val (.int (p3 &&& (3 : Int32))), .val (.int (f0_l9_71001 p0 p1 p2 p3)), .val (.int (f9 (f0_l9_71001 p0 p1 p2 p3) (f0_e1 p0 p1 p4) (f0_e2 p0 p1 p4))), .val (.long (((f0_l9_71001 p0 p1 p2 p3).toInt64) - (p0.toInt64))), .second, .val (.long ((p1.toInt64) - ((f0_l9_71001 p0 p1 p2 p3).toInt64))), .second, .val (.int (f0_s0_115002 p0 p1 p2 p3)), .val (.int (f0_s0_140004 p0 p1 p4))] [(.int (f0_s0_140004 p0 p1 p4))])) _
        refine XS.ifYes X20.here hx rfl (pc0 := 151) (pc' := 158) rfl (hb hby at_151) rfl ((if0 _ _).trans (teq hc24).1) (by decide) (by decide) ?_
        show Steps p.tables e below (T20.setTop (mkF m 158 #[.val (.int p0), .val (.int p1), .val (.int p2), .val (.int p3), .val (.int p4), .val (.int p5), .val (.ref b1), .val (.int ((p2 &&& (3 : Int32)) - (1 : Int32))), .val (.int (p3 &&& (3 : Int32))), .val (.int (f0_l9_71001 p0 p1 p2 p3)), .val (.int (f9 (f0_l9_71001 p0 p1 p2 p3) (f0_e1 p0 p1 p4) (f0_e2 p0 p1 p4))), .val (.long (((f0_l9_71001 p0 p1 p2 p3).toInt64) - (p0.toInt64))), .second, .val (.long ((p1.toInt64) - ((f0_l9_71001 p0 p1 p2 p3).toInt64))), .second, .val (.int (f0_s0_115002 p0 p1 p2 p3)), .val (.int (f0_s0_140004 p0 p1 p4))] [])) _
        refine XS.iconst X20.here hx rfl (hb hby at_158) ?_
        show Steps p.tables e below (T20.setTop (mkF m 159 #[.val (.int p0), .val (.int p1), .val (.int p2), .val (.int p3), .val (.int p4), .val (.int p5), .val (.ref b1), .val (.int ((p2 &&& (3 : Int32)) - (1 : Int32))), .val (.int (p3 &&& (3 : Int32))), .val (.int (f0_l9_71001 p0 p1 p2 p3)), .val (.int (f9 (f0_l9_71001 p0 p1 p2 p3) (f0_e1 p0 p1 p4) (f0_e2 p0 p1 p4))), .val (.long (((f0_l9_71001 p0 p1 p2 p3).toInt64) - (p0.toInt64))), .second, .val (.long ((p1.toInt64) - ((f0_l9_71001 p0 p1 p2 p3).toInt64))), .second, .val (.int (f0_s0_115002 p0 p1 p2 p3)), .val (.int (f0_s0_140004 p0 p1 p4))] [(.int (0 : Int32))])) _
        exact retN X20 hx (t := .boolean) Bd.returns (by simp) (hb hby at_159) hr
      · show Q0 Z p0 p1 p2 p3 p4 p5 zC h0 n0 _ T20.heap _
        rw [e20]
        exact ⟨by rw [show f0 p0 p1 p2 p3 p4 p5 zC = (0 : Int32) from by unfold f0; rw [if_pos hc22, if_pos hc24]], N20⟩
    · obtain ⟨fs, hr, hrun, hended, hW, hsame⟩ := X20.leave (v := some (.int (1 : Int32))) (fun h => by rw [Bd.returns] at h; cases h)
      refine ⟨_, _, pre23 _ ?_, hrun, hended, _, _, rfl, ?_, ⟨_, rfl⟩, hW, hsame.mono (by decide) (by decide)⟩
      · show Steps p.tables e below (T20.setTop (mkF m 151 #[.val (.int p0), .val (.int p1), .val (.int p2), .val (.int p3), .val (.int p4), .val (.int p5), .val (.ref b1), .val (.int ((p2 &&& (3 : Int32)) - (1 : Int32))), .val (.int (p3 &&& (3 : Int32))), .val (.int (f0_l9_71001 p0 p1 p2 p3)), .val (.int (f9 (f0_l9_71001 p0 p1 p2 p3) (f0_e1 p0 p1 p4) (f0_e2 p0 p1 p4))), .val (.long (((f0_l9_71001 p0 p1 p2 p3).toInt64) - (p0.toInt64))), .second, .val (.long ((p1.toInt64) - ((f0_l9_71001 p0 p1 p2 p3).toInt64))), .second, .val (.int (f0_s0_115002 p0 p1 p2 p3)), .val (.int (f0_s0_140004 p0 p1 p4))] [(.int (f0_s0_140004 p0 p1 p4))])) _
        refine XS.ifNo X20.here hx rfl (hb hby at_151) rfl ((if0 _ _).trans (feq hc24).1) ?_
        show Steps p.tables e below (T20.setTop (mkF m 154 #[.val (.int p0), .val (.int p1), .val (.int p2), .val (.int p3), .val (.int p4), .val (.int p5), .val (.ref b1), .val (.int ((p2 &&& (3 : Int32)) - (1 : Int32))), .val (.int (p3 &&& (3 : Int32))), .val (.int (f0_l9_71001 p0 p1 p2 p3)), .val (.int (f9 (f0_l9_71001 p0 p1 p2 p3) (f0_e1 p0 p1 p4) (f0_e2 p0 p1 p4))), .val (.long (((f0_l9_71001 p0 p1 p2 p3).toInt64) - (p0.toInt64))), .second, .val (.long ((p1.toInt64) - ((f0_l9_71001 p0 p1 p2 p3).toInt64))), .second, .val (.int (f0_s0_115002 p0 p1 p2 p3)), .val (.int (f0_s0_140004 p0 p1 p4))] [])) _
        refine XS.iconst X20.here hx rfl (hb hby at_154) ?_
        show Steps p.tables e below (T20.setTop (mkF m 155 #[.val (.int p0), .val (.int p1), .val (.int p2), .val (.int p3), .val (.int p4), .val (.int p5), .val (.ref b1), .val (.int ((p2 &&& (3 : Int32)) - (1 : Int32))), .val (.int (p3 &&& (3 : Int32))), .val (.int (f0_l9_71001 p0 p1 p2 p3)), .val (.int (f9 (f0_l9_71001 p0 p1 p2 p3) (f0_e1 p0 p1 p4) (f0_e2 p0 p1 p4))), .val (.long (((f0_l9_71001 p0 p1 p2 p3).toInt64) - (p0.toInt64))), .second, .val (.long ((p1.toInt64) - ((f0_l9_71001 p0 p1 p2 p3).toInt64))), .second, .val (.int (f0_s0_115002 p0 p1 p2 p3)), .val (.int (f0_s0_140004 p0 p1 p4))] [(.int (1 : Int32))])) _
        refine XS.goto X20.here hx rfl (pc0 := 155) (pc' := 159) rfl (hb hby at_155) (by decide) (by decide) ?_
        show Steps p.tables e below (T20.setTop (mkF m 159 #[.val (.int p0), .val (.int p1), .val (.int p2), .val (.int p3), .val (.int p4), .val (.int p5), .val (.ref b1), .val (.int ((p2 &&& (3 : Int32)) - (1 : Int32))), .val (.int (p3 &&& (3 : Int32))), .val (.int (f0_l9_71001 p0 p1 p2 p3)), .val (.int (f9 (f0_l9_71001 p0 p1 p2 p3) (f0_e1 p0 p1 p4) (f0_e2 p0 p1 p4))), .val (.long (((f0_l9_71001 p0 p1 p2 p3).toInt64) - (p0.toInt64))), .second, .val (.long ((p1.toInt64) - ((f0_l9_71001 p0 p1 p2 p3).toInt64))), .second, .val (.int (f0_s0_115002 p0 p1 p2 p3)), .val (.int (f0_s0_140004 p0 p1 p4))] [(.int (1 : Int32))])) _
        exact retN X20 hx (t := .boolean) Bd.returns (by simp) (hb hby at_159) hr
      · show Q0 Z p0 p1 p2 p3 p4 p5 zC h0 n0 _ T20.heap _
        rw [e20]
        exact ⟨by rw [show f0 p0 p1 p2 p3 p4 p5 zC = (1 : Int32) from by unfold f0; rw [if_pos hc22, if_neg hc24]], N20⟩
  · obtain ⟨fs, hr, hrun, hended, hW, hsame⟩ := X20.leave (v := some (.int (0 : Int32))) (fun h => by rw [Bd.returns] at h; cases h)
    refine ⟨_, _, pre21 _ ?_, hrun, hended, _, _, rfl, ?_, ⟨_, rfl⟩, hW, hsame.mono (by decide) (by decide)⟩
    · show Steps p.tables e below (T20.setTop (mkF m 146 #[.val (.int p0), .val (.int p1), .val (.int p2), .val (.int p3), .val (.int p4), .val (.int p5), .val (.ref b1), .val (.int ((p2 &&& (3 : Int32)) - (1 : Int32))), .val (.int (p3 &&& (3 : Int32))), .val (.int (f0_l9_71001 p0 p1 p2 p3)), .val (.int (f9 (f0_l9_71001 p0 p1 p2 p3) (f0_e1 p0 p1 p4) (f0_e2 p0 p1 p4))), .val (.long (((f0_l9_71001 p0 p1 p2 p3).toInt64) - (p0.toInt64))), .second, .val (.long ((p1.toInt64) - ((f0_l9_71001 p0 p1 p2 p3).toInt64))), .second, .val (.int (f0_s0_115002 p0 p1 p2 p3)), .val (.int (f0_s0_140004 p0 p1 p4))] [(.int (f0_s0_115002 p0 p1 p2 p3)), (.int (f9 (f0_l9_71001 p0 p1 p2 p3) (f0_e1 p0 p1 p4) (f0_e2 p0 p1 p4)))])) _
      refine XS.icmpYes X20.here hx rfl (pc0 := 146) (pc' := 158) rfl (hb hby at_146) rfl (feq hc22).2 (by decide) (by decide) ?_
      show Steps p.tables e below (T20.setTop (mkF m 158 #[.val (.int p0), .val (.int p1), .val (.int p2), .val (.int p3), .val (.int p4), .val (.int p5), .val (.ref b1), .val (.int ((p2 &&& (3 : Int32)) - (1 : Int32))), .val (.int (p3 &&& (3 : Int32))), .val (.int (f0_l9_71001 p0 p1 p2 p3)), .val (.int (f9 (f0_l9_71001 p0 p1 p2 p3) (f0_e1 p0 p1 p4) (f0_e2 p0 p1 p4))), .val (.long (((f0_l9_71001 p0 p1 p2 p3).toInt64) - (p0.toInt64))), .second, .val (.long ((p1.toInt64) - ((f0_l9_71001 p0 p1 p2 p3).toInt64))), .second, .val (.int (f0_s0_115002 p0 p1 p2 p3)), .val (.int (f0_s0_140004 p0 p1 p4))] [])) _
      refine XS.iconst X20.here hx rfl (hb hby at_158) ?_
      show Steps p.tables e below (T20.setTop (mkF m 159 #[.val (.int p0), .val (.int p1), .val (.int p2), .val (.int p3), .val (.int p4), .val (.int p5), .val (.ref b1), .val (.int ((p2 &&& (3 : Int32)) - (1 : Int32))), .val (.int (p3 &&& (3 : Int32))), .val (.int (f0_l9_71001 p0 p1 p2 p3)), .val (.int (f9 (f0_l9_71001 p0 p1 p2 p3) (f0_e1 p0 p1 p4) (f0_e2 p0 p1 p4))), .val (.long (((f0_l9_71001 p0 p1 p2 p3).toInt64) - (p0.toInt64))), .second, .val (.long ((p1.toInt64) - ((f0_l9_71001 p0 p1 p2 p3).toInt64))), .second, .val (.int (f0_s0_115002 p0 p1 p2 p3)), .val (.int (f0_s0_140004 p0 p1 p4))] [(.int (0 : Int32))])) _
      exact retN X20 hx (t := .boolean) Bd.returns (by simp) (hb hby at_159) hr
    · show Q0 Z p0 p1 p2 p3 p4 p5 zC h0 n0 _ T20.heap _
      rw [e20]
      exact ⟨by rw [show f0 p0 p1 p2 p3 p4 p5 zC = (0 : Int32) from by unfold f0; rw [if_neg hc22]], N20⟩
theorem own_gap (x y : Int32) : (0 : Int64) < x.toInt64 - y.toInt64 ↔ y < x := by
  have c0 := c_i2l x
  have c1 := c_i2l y
  have r0 := rng32 x
  have r1 := rng32 y
  have s := c_lsub x.toInt64 y.toInt64
  have r2 := rng64 (x.toInt64 - y.toInt64)
  have l0 : (0 : Int64).toInt = 0 := rfl
  rw [Int64.lt_iff_toInt_lt, Int32.lt_iff_toInt_lt]
  omega
theorem own_irr (x : Int32) : ¬ x < x := by rw [Int32.lt_iff_toInt_lt]; omega
theorem own_law (p0 p1 p2 p3 p4 p5 zC : Int32) : f0 p0 p1 p2 p3 p4 p5 zC = 1 := by
  unfold f0 f0_s0_140004 f0_s0_140003 f0_s0_115002 f0_e3 f0_e4 f0_e1 f0_e2 f6_previousAbove f6_previousBelow
  generalize f0_l9_71001 p0 p1 p2 p3 = p
  simp only [lw_gt, own_gap]
  have z1 : f9 p0 p0 p1 = 0 := by unfold f9; rw [if_neg (own_irr _)]
  have z2 : f9 p1 p0 p1 = 0 := by
    unfold f9
    split
    · rw [if_neg (own_irr _)]
    · rfl
  rw [z1, z2]
  unfold f9
  rw [if_pos rfl]
  decide
set_option maxRecDepth 65536 in
set_option maxHeartbeats 40000000 in
theorem comes_1 {Post : Tables → Env → Array Value → State → Outcome → State → Prop} (hpost : ∀ tb e args s v u, (limb_1_1.after args s (.returned v) u = true ∧ limb_1_2.after args s (.returned v) u = true ∧ True) → FrameEnd s (.returned v) u (Jvm.fieldLocs frame_1_writes args s ++ Jvm.arrayLocs frame_1_arrays args s ++ Jvm.staticLocs frame_1_statics s) 16 128 → Post tb e args s (.returned v) u) :
    ArmFor flags0 classFile x code maxLocals ret World_1 tables_1 room_1 Calls_1 rest_1 Pre_1 Post := by
  intro l hfl _ _ p e ha hc hk s m args below hf hA hF happ hP
  obtain ⟨hcalls, hrest, hpre⟩ := hP
  obtain ⟨-, -, -, hnamed, -, -, -, hat⟩ := (Spec.applies_iff hf).mp happ
  obtain ⟨hg, hn⟩ := and_e (Cond.before_iff.mp (show (Jvm.Cond.and given_1 narrow_1).before args s = true from hpre))
  obtain ⟨g1, g2⟩ := and_e hg
  obtain ⟨g3, g4⟩ := and_e g2
  obtain ⟨g5, g6⟩ := and_e g4
  obtain ⟨g7, g8⟩ := and_e g6
  obtain ⟨g9, g10⟩ := and_e g8
  obtain ⟨g11, g12⟩ := and_e g10
  obtain ⟨w0, w1, w2, w3, w4, w5, rfl⟩ : ∃ w0 w1 w2 w3 w4 w5 : Value, args = #[w0, w1, w2, w3, w4, w5] := by
    have hs : args.size = 6 := by simpa [Cond.value, given_1] using g1
    obtain ⟨L⟩ := args
    match L, hs with
    | [w0, w1, w2, w3, w4, w5], _ => exact ⟨w0, w1, w2, w3, w4, w5, rfl⟩
  have hw := fun d (hd : d ∈ tables_1) => atoms_spec (ws := Jvm.Cond.code x code maxLocals ret :: tables_1) hat d (List.mem_cons_of_mem _ hd)
  have hfit : Fit s := fun {y c} hc i hi => by
    obtain ⟨ha, rfl⟩ := Array.getElem?_eq_some_iff.mp hc
    have q := List.all_eq_true.mp ((Array.all_eq_true_iff_forall_mem.mp hF) _ (Array.getElem_mem ha)) i (List.mem_range.mpr hi)
    simpa [Array.getElem?_eq_getElem hi] using q
  obtain ⟨hsets, hown0⟩ := atoms_of _ (rest_1_c_eq ▸ (show rest_1_c.before _ s = true from hrest))
  have hr0 := Cond.before_iff.mp hown0
  obtain ⟨i0, ei0⟩ := is_v g3
  obtain rfl : w0 = (.int i0) := Option.some.inj ei0
  obtain ⟨i1, ei1⟩ := is_v g5
  obtain rfl : w1 = (.int i1) := Option.some.inj ei1
  obtain ⟨i2, ei2⟩ := is_v g7
  obtain rfl : w2 = (.int i2) := Option.some.inj ei2
  obtain ⟨i3, ei3⟩ := is_v g9
  obtain rfl : w3 = (.int i3) := Option.some.inj ei3
  obtain ⟨i4, ei4⟩ := is_v g11
  obtain rfl : w4 = (.int i4) := Option.some.inj ei4
  obtain ⟨i5, ei5⟩ := is_v g12
  obtain rfl : w5 = (.int i5) := Option.some.inj ei5
  have n3 := not_v (Cond.before_iff.mp (hsets _ (List.mem_of_getElem? (i := 2) rfl)))
  obtain ⟨zC, e6⟩ := is_v (Cond.before_iff.mp (hsets _ (List.mem_of_getElem? (i := 1) rfl)))
  have S8 : Sta s s.heap "java/lang/String" "COMPACT_STRINGS" "Z" (.int zC) := Sta.start e6 (Or.inl (hsets _ (List.mem_of_getElem? (i := 0) rfl)))
  have c9 : ¬ (zC = (0 : Int32)) := gotF (Cond.eq_ints e6 (Term.int_eval (0))) n3
  obtain ⟨n, o, h1, h2, h3, _, L, rfl, ⟨rfl, N⟩, hq⟩ := rm0 l s _ hw tables_1 i0 i1 i2 i3 i4 i5 zC s.heap s.heap.size (Nat.le_refl _) c9 S8 p e ha hc hk s m _ below hf ((Spec.applies_iff_loose hf).mp happ).1 ⟨rfl, State.Warmed39.refl s, rfl⟩ trivial
  refine ⟨n, _, h1, h2, h3, hpost _ _ _ _ _ _ ⟨Cond.after_iff.mpr rfl, Cond.after_iff.mpr (eq_i res_at (Term.int_eval (1)) (by rw [own_law i0 i1 i2 i3 i4 i5 zC])), trivial⟩ ⟨hq.1, hq.2.1, (hq.2.2.sift fun y hy => Or.inr (N y hy)).mono (by decide) (by decide)⟩⟩
theorem main_1_1 : Claimed_1_1 := comes_1 fun _ _ _ _ _ _ h hF => ⟨h.1, hF⟩
theorem main_1_2 : Claimed_1_2 := comes_1 fun _ _ _ _ _ _ h hF => ⟨h.2.1, hF⟩
end Jvm.Pilot.@@N@@
namespace Jvm.Pilot.@@N@@
open Jvm Jvm.ClassFile Sem Op Lib Jvm.Free Jvm.Stand Jvm.Pilot.@@N@@.Jvm.D
/-! MADE BY PROGRAM (witnessworld.py) out of the Statement's table words and the real class files: 19 classes; the members and pool entries that the words name. The judged class is class 1, her method 1. -/
namespace start1
open Jvm.ClassFile
def u (s : String) : CpInfo := .utf8 (stringToUtf16 s)
/-- a pool by its gaps: so many unusable entries, then the entry; so many at the end -/
def gap : Nat → List CpInfo → List CpInfo
  | 0, r => r
  | n + 1, r => .unusable :: gap n r
def poolList (es : List (Nat × CpInfo)) (last : Nat) : List CpInfo := es.foldr (fun e r => gap e.1 (e.2 :: r)) (gap last [])
def pool (es : List (Nat × CpInfo)) (last : Nat) : Array CpInfo := ⟨poolList es last⟩
def fileOf (pool : Array CpInfo) (this : Nat) (attrs : Array Attribute := #[]) (ms : Array MethodInfo := #[]) (fl : Nat := 33) (sup : Nat := 0) (ifs : Array Nat := #[]) (fds : Array FieldInfo := #[]) : ClassFile where
  minorVersion := 0
  majorVersion := 65
  constantPool := pool
  accessFlags := fl
  thisClass := this
  superClass := sup
  interfaces := ifs
  fields := fds
  methods := ms
  attributes := attrs
def plain (name : String) (sup : Option ClassId) : Class where
  name := name
  kind := .ordinary
  loader := none
  accessFlags := 33
  super := sup
  interfaces := #[]
  cf := none
  fields := #[]
  methods := #[]
  instanceTypes := #[]
  staticTypes := #[]
  resolved := #[]
  callSites := []
  init := .initialized
  statics := none
  mirror := none

def pool0 : Array CpInfo := pool [(5, u "<init>"), (0, u "()V"), (1, .class_ 10), (1, u "java/lang/Object")] 113

def k0c0 : Code := { maxStack := 0, maxLocals := 1, code := object_method_1_code, exceptionTable := #[], attributes := #[] }
def k0m0 : Method := { name := "<init>", desc := "()V", sig := { parameters := [], returnType := none }, accessFlags := 1, code := some k0c0 }
/-- java/lang/Object -/
def k0 : Class := { plain "java/lang/Object" none with
  accessFlags := 33
  interfaces := #[]
  cf := some (fileOf pool0 8 #[] #[{ accessFlags := 1, nameIndex := 5, descriptorIndex := 6, attributes := #[] }] 33 0 #[] #[])
  fields := #[]
  methods := #[k0m0]
  instanceTypes := #[]
  staticTypes := #[]
  resolved := Array.replicate 124 none
  statics := none }

def pool1 : Array CpInfo := pool [(2, .class_ 4), (1, u "java/lang/Object"), (0, u "<init>"), (0, u "()V"), (0, .class_ 8), (0, u "com/example/vaultgate/vaultgate/history/AtcClaim"), (0, .methodref 10 11), (0, .class_ 12), (0, .nameAndType 13 14), (0, u "java/lang/String"), (0, u "valueOf"), (0, u "(C)Ljava/lang/String;"), (0, .integer 65535), (0, .methodref 7 17), (0, .nameAndType 5 18), (0, u "(Ljava/lang/String;III)V"), (0, .methodref 7 20), (0, .nameAndType 21 22), (0, u "follows"), (0, u "(I)Z"), (0, .class_ 24), (0, u "com/example/vaultgate/vaultgate/history/AtcClaimFollowsPinLaw"), (2, u "law"), (0, u "(IIIIII)Z")] 3

def k1m0 : Method := { name := "<init>", desc := "()V", sig := { parameters := [], returnType := none }, accessFlags := 1, code := none }
def k1c1 : Code := { maxStack := 6, maxLocals := 17, code := code, exceptionTable := #[], attributes := #[] }
def k1m1 : Method := { name := "law", desc := "(IIIIII)Z", sig := { parameters := [.int, .int, .int, .int, .int, .int], returnType := some .boolean }, accessFlags := 9, code := some k1c1 }
/-- com/example/vaultgate/vaultgate/history/AtcClaimFollowsPinLaw -/
def k1 : Class := { plain "com/example/vaultgate/vaultgate/history/AtcClaimFollowsPinLaw" (some 0) with
  accessFlags := 49
  interfaces := #[]
  cf := some (fileOf pool1 23 #[] #[{ accessFlags := 1, nameIndex := 5, descriptorIndex := 6, attributes := #[] }, { accessFlags := 9, nameIndex := 27, descriptorIndex := 28, attributes := #[] }] 49 2 #[] #[])
  fields := #[]
  methods := #[k1m0, k1m1]
  instanceTypes := #[]
  staticTypes := #[]
  resolved := Array.replicate 32 none
  statics := none }

def pool2 : Array CpInfo := pool [(1, .methodref 2 3), (0, .class_ 4), (0, .nameAndType 5 6), (0, u "java/lang/Object"), (0, u "<init>"), (0, u "()V"), (0, .class_ 8), (0, u "java/lang/Record")] 13

def k2c0 : Code := { maxStack := 1, maxLocals := 1, code := jdk_30_method_1_code, exceptionTable := #[], attributes := #[] }
def k2m0 : Method := { name := "<init>", desc := "()V", sig := { parameters := [], returnType := none }, accessFlags := 4, code := some k2c0 }
/-- java/lang/Record -/
def k2 : Class := { plain "java/lang/Record" (some 0) with
  accessFlags := 1057
  interfaces := #[]
  cf := some (fileOf pool2 7 #[] #[{ accessFlags := 4, nameIndex := 5, descriptorIndex := 6, attributes := #[] }] 1057 2 #[] #[])
  fields := #[]
  methods := #[k2m0]
  instanceTypes := #[]
  staticTypes := #[]
  resolved := Array.replicate 22 none
  statics := none }

def pool3 : Array CpInfo := pool [(1, .methodref 2 3), (0, .class_ 4), (0, .nameAndType 5 6), (0, u "java/lang/Record"), (0, u "<init>"), (0, u "()V"), (0, .methodref 8 9), (0, .class_ 10), (0, .nameAndType 11 12), (0, u "java/util/Objects"), (0, u "requireNonNull"), (0, u "(Ljava/lang/Object;)Ljava/lang/Object;"), (0, .fieldref 14 15), (0, .class_ 16), (0, .nameAndType 17 18), (0, u "com/example/vaultgate/vaultgate/history/AtcClaim"), (0, u "token"), (0, u "Ljava/lang/String;"), (0, .fieldref 14 20), (0, .nameAndType 21 22), (0, u "atc"), (0, u "I"), (0, .fieldref 14 24), (0, .nameAndType 25 22), (0, u "previousAbove"), (0, .fieldref 14 27), (0, .nameAndType 28 22), (0, u "previousBelow"), (12, u "(Ljava/lang/String;III)V"), (3, u "follows"), (0, u "(I)Z")] 27

def k3c0 : Code := { maxStack := 2, maxLocals := 5, code := prog_32_method_1_code, exceptionTable := #[], attributes := #[] }
def k3m0 : Method := { name := "<init>", desc := "(Ljava/lang/String;III)V", sig := { parameters := [(.object "java/lang/String"), .int, .int, .int], returnType := none }, accessFlags := 1, code := some k3c0 }
def k3c1 : Code := { maxStack := 2, maxLocals := 2, code := prog_32_method_2_code, exceptionTable := #[], attributes := #[] }
def k3m1 : Method := { name := "follows", desc := "(I)Z", sig := { parameters := [.int], returnType := some .boolean }, accessFlags := 1, code := some k3c1 }
/-- com/example/vaultgate/vaultgate/history/AtcClaim -/
def k3 : Class := { plain "com/example/vaultgate/vaultgate/history/AtcClaim" (some 2) with
  accessFlags := 49
  interfaces := #[]
  cf := some (fileOf pool3 14 #[] #[{ accessFlags := 1, nameIndex := 5, descriptorIndex := 41, attributes := #[] }, { accessFlags := 1, nameIndex := 45, descriptorIndex := 46, attributes := #[] }] 49 2 #[] #[{ accessFlags := 18, nameIndex := 17, descriptorIndex := 18, attributes := #[] }, { accessFlags := 18, nameIndex := 21, descriptorIndex := 22, attributes := #[] }, { accessFlags := 18, nameIndex := 25, descriptorIndex := 22, attributes := #[] }, { accessFlags := 18, nameIndex := 28, descriptorIndex := 22, attributes := #[] }])
  fields := #[{ name := "token", type := (.object "java/lang/String"), accessFlags := 18, slot := 0, constantValue := 0 }, { name := "atc", type := .int, accessFlags := 18, slot := 1, constantValue := 0 }, { name := "previousAbove", type := .int, accessFlags := 18, slot := 2, constantValue := 0 }, { name := "previousBelow", type := .int, accessFlags := 18, slot := 3, constantValue := 0 }]
  methods := #[k3m0, k3m1]
  instanceTypes := #[(.object "java/lang/String"), .int, .int, .int]
  staticTypes := #[]
  resolved := Array.replicate 74 none
  statics := none }

def pool4 : Array CpInfo := pool [(1, .class_ 2), (0, u "java/io/Serializable"), (0, .class_ 4), (0, u "java/lang/Object")] 2

/-- java/io/Serializable -/
def k4 : Class := { plain "java/io/Serializable" (some 0) with
  accessFlags := 1537
  interfaces := #[]
  cf := some (fileOf pool4 1 #[] #[] 1537 3 #[] #[])
  fields := #[]
  methods := #[]
  instanceTypes := #[]
  staticTypes := #[]
  resolved := Array.replicate 7 none
  statics := none }

def pool5 : Array CpInfo := pool [(1, .class_ 2), (0, u "java/lang/Comparable"), (0, .class_ 4), (0, u "java/lang/Object")] 7

/-- java/lang/Comparable -/
def k5 : Class := { plain "java/lang/Comparable" (some 0) with
  accessFlags := 1537
  interfaces := #[]
  cf := some (fileOf pool5 1 #[] #[] 1537 3 #[] #[])
  fields := #[]
  methods := #[]
  instanceTypes := #[]
  staticTypes := #[]
  resolved := Array.replicate 12 none
  statics := none }

def pool6 : Array CpInfo := pool [(2, .class_ 4), (1, u "java/lang/CharSequence"), (42, .class_ 48), (0, u "java/lang/CharSequence$1CodePointIterator"), (10, .class_ 60), (0, u "java/lang/CharSequence$1CharIterator"), (5, .class_ 67), (0, u "java/lang/Object")] 63

/-- java/lang/CharSequence -/
def k6 : Class := { plain "java/lang/CharSequence" (some 0) with
  accessFlags := 1537
  interfaces := #[]
  cf := some (fileOf pool6 2 #[.nestMembers #[47, 59]] #[] 1537 66 #[] #[])
  fields := #[]
  methods := #[]
  instanceTypes := #[]
  staticTypes := #[]
  resolved := Array.replicate 131 none
  statics := none }

def pool7 : Array CpInfo := pool [(1, .class_ 2), (0, u "java/lang/constant/Constable"), (0, .class_ 4), (0, u "java/lang/Object")] 6

/-- java/lang/constant/Constable -/
def k7 : Class := { plain "java/lang/constant/Constable" (some 0) with
  accessFlags := 1537
  interfaces := #[]
  cf := some (fileOf pool7 1 #[] #[] 1537 3 #[] #[])
  fields := #[]
  methods := #[]
  instanceTypes := #[]
  staticTypes := #[]
  resolved := Array.replicate 11 none
  statics := none }

def pool8 : Array CpInfo := pool [(1, .class_ 2), (0, u "java/lang/constant/ConstantDesc"), (0, .class_ 4), (0, u "java/lang/Object")] 32

/-- java/lang/constant/ConstantDesc -/
def k8 : Class := { plain "java/lang/constant/ConstantDesc" (some 0) with
  accessFlags := 1537
  interfaces := #[]
  cf := some (fileOf pool8 1 #[] #[] 1537 3 #[] #[])
  fields := #[]
  methods := #[]
  instanceTypes := #[]
  staticTypes := #[]
  resolved := Array.replicate 37 none
  statics := none }

def pool9 : Array CpInfo := pool [(1, .methodref 2 3), (0, .class_ 4), (0, .nameAndType 5 6), (0, u "java/lang/Object"), (0, u "<init>"), (0, u "()V"), (2, .fieldref 10 11), (0, .class_ 12), (0, .nameAndType 13 14), (0, u "java/lang/String"), (0, u "value"), (0, u "[B"), (0, .fieldref 10 16), (0, .nameAndType 17 18), (0, u "coder"), (0, u "B"), (2, u "hash"), (0, u "I"), (2, u "hashIsZero"), (0, u "Z"), (11, .fieldref 10 39), (0, .nameAndType 40 26), (0, u "COMPACT_STRINGS"), (12, u "toBytes"), (53, .class_ 109), (1, u "java/lang/StringLatin1"), (99, .methodref 10 210), (0, .nameAndType 5 211), (0, u "([BB)V"), (157, u "(C)Z"), (205, .class_ 576), (0, u "java/lang/CharSequence"), (22, u "CASE_INSENSITIVE_ORDER"), (0, u "Ljava/util/Comparator;"), (181, u "valueOf"), (0, u "(C)Ljava/lang/String;"), (231, .methodref 107 1016), (0, .nameAndType 1017 369), (0, u "canEncode"), (0, .methodref 107 1019), (0, .nameAndType 53 1020), (0, u "(C)[B"), (80, u "serialPersistentFields"), (0, u "[Ljava/io/ObjectStreamField;"), (0, .class_ 1104), (0, u "java/lang/String$CaseInsensitiveComparator"), (1, .class_ 1107), (0, u "java/io/Serializable"), (0, .class_ 1109), (0, u "java/lang/Comparable"), (0, .class_ 1111), (0, u "java/lang/constant/Constable"), (0, .class_ 1113), (0, u "java/lang/constant/ConstantDesc"), (2, u "serialVersionUID"), (0, u "J"), (3, u "REPL"), (0, u "C"), (2, u "LATIN1"), (1, u "UTF16")] 323

def k9m0 : Method := { name := "<init>", desc := "()V", sig := { parameters := [], returnType := none }, accessFlags := 1, code := none }
def k9c1 : Code := { maxStack := 4, maxLocals := 1, code := jdk_42_method_139_code, exceptionTable := #[], attributes := #[] }
def k9m1 : Method := { name := "valueOf", desc := "(C)Ljava/lang/String;", sig := { parameters := [.char], returnType := some (.object "java/lang/String") }, accessFlags := 9, code := some k9c1 }
def k9c2 : Code := { maxStack := 2, maxLocals := 3, code := jdk_42_method_151_code, exceptionTable := #[], attributes := #[] }
def k9m2 : Method := { name := "<init>", desc := "([BB)V", sig := { parameters := [(.array .byte), .byte], returnType := none }, accessFlags := 0, code := some k9c2 }
/-- java/lang/String -/
def k9 : Class := { plain "java/lang/String" (some 0) with
  accessFlags := 49
  interfaces := #[4, 5, 6, 7, 8]
  cf := some (fileOf pool9 10 #[.nestMembers #[1103]] #[{ accessFlags := 1, nameIndex := 5, descriptorIndex := 6, attributes := #[] }, { accessFlags := 9, nameIndex := 782, descriptorIndex := 783, attributes := #[] }, { accessFlags := 0, nameIndex := 5, descriptorIndex := 211, attributes := #[] }] 49 2 #[1106, 1108, 575, 1110, 1112] #[{ accessFlags := 18, nameIndex := 13, descriptorIndex := 14, attributes := #[] }, { accessFlags := 18, nameIndex := 17, descriptorIndex := 18, attributes := #[] }, { accessFlags := 2, nameIndex := 21, descriptorIndex := 22, attributes := #[] }, { accessFlags := 2, nameIndex := 25, descriptorIndex := 26, attributes := #[] }, { accessFlags := 26, nameIndex := 1116, descriptorIndex := 1117, attributes := #[] }, { accessFlags := 24, nameIndex := 40, descriptorIndex := 26, attributes := #[] }, { accessFlags := 26, nameIndex := 1101, descriptorIndex := 1102, attributes := #[] }, { accessFlags := 26, nameIndex := 1121, descriptorIndex := 1122, attributes := #[] }, { accessFlags := 25, nameIndex := 599, descriptorIndex := 600, attributes := #[] }, { accessFlags := 24, nameIndex := 1125, descriptorIndex := 18, attributes := #[] }, { accessFlags := 24, nameIndex := 1127, descriptorIndex := 18, attributes := #[] }])
  fields := #[{ name := "value", type := (.array .byte), accessFlags := 18, slot := 0, constantValue := 0 }, { name := "coder", type := .byte, accessFlags := 18, slot := 1, constantValue := 0 }, { name := "hash", type := .int, accessFlags := 2, slot := 2, constantValue := 0 }, { name := "hashIsZero", type := .boolean, accessFlags := 2, slot := 3, constantValue := 0 }, { name := "serialVersionUID", type := .long, accessFlags := 26, slot := 0, constantValue := 0 }, { name := "COMPACT_STRINGS", type := .boolean, accessFlags := 24, slot := 1, constantValue := 0 }, { name := "serialPersistentFields", type := (.array (.object "java/io/ObjectStreamField")), accessFlags := 26, slot := 2, constantValue := 0 }, { name := "REPL", type := .char, accessFlags := 26, slot := 3, constantValue := 0 }, { name := "CASE_INSENSITIVE_ORDER", type := (.object "java/util/Comparator"), accessFlags := 25, slot := 4, constantValue := 0 }, { name := "LATIN1", type := .byte, accessFlags := 24, slot := 5, constantValue := 0 }, { name := "UTF16", type := .byte, accessFlags := 24, slot := 6, constantValue := 0 }]
  methods := #[k9m0, k9m1, k9m2]
  instanceTypes := #[(.array .byte), .byte, .int, .boolean]
  staticTypes := #[.long, .boolean, (.array (.object "java/io/ObjectStreamField")), .char, (.object "java/util/Comparator"), .byte, .byte]
  resolved := Array.replicate 1451 none
  statics := some 0 }

def pool10 : Array CpInfo := pool [(4, .class_ 6), (1, u "java/lang/Object"), (0, u "<init>"), (0, u "()V"), (5, .class_ 16), (1, u "java/lang/StringLatin1"), (73, u "canEncode"), (14, u "(C)Z"), (15, u "$assertionsDisabled"), (0, u "Z"), (98, .class_ 223), (1, u "java/lang/StringLatin1$LinesSpliterator"), (156, u "toBytes"), (1, u "(C)[B"), (7, .class_ 391), (0, u "java/lang/StringLatin1$CharsSpliterator")] 3

def k10m0 : Method := { name := "<init>", desc := "()V", sig := { parameters := [], returnType := none }, accessFlags := 0, code := none }
def k10c1 : Code := { maxStack := 2, maxLocals := 1, code := jdk_43_method_3_code, exceptionTable := #[], attributes := #[] }
def k10m1 : Method := { name := "canEncode", desc := "(C)Z", sig := { parameters := [.char], returnType := some .boolean }, accessFlags := 9, code := some k10c1 }
def k10c2 : Code := { maxStack := 4, maxLocals := 1, code := jdk_43_method_46_code, exceptionTable := #[], attributes := #[] }
def k10m2 : Method := { name := "toBytes", desc := "(C)[B", sig := { parameters := [.char], returnType := some (.array .byte) }, accessFlags := 9, code := some k10c2 }
/-- java/lang/StringLatin1 -/
def k10 : Class := { plain "java/lang/StringLatin1" (some 0) with
  accessFlags := 48
  interfaces := #[]
  cf := some (fileOf pool10 14 #[.nestMembers #[390, 221]] #[{ accessFlags := 0, nameIndex := 7, descriptorIndex := 8, attributes := #[] }, { accessFlags := 9, nameIndex := 90, descriptorIndex := 105, attributes := #[] }, { accessFlags := 9, nameIndex := 380, descriptorIndex := 382, attributes := #[] }] 48 4 #[] #[{ accessFlags := 4120, nameIndex := 121, descriptorIndex := 122, attributes := #[] }])
  fields := #[{ name := "$assertionsDisabled", type := .boolean, accessFlags := 4120, slot := 0, constantValue := 0 }]
  methods := #[k10m0, k10m1, k10m2]
  instanceTypes := #[]
  staticTypes := #[.boolean]
  resolved := Array.replicate 395 none
  statics := none }

def pool11 : Array CpInfo := pool [(2, .class_ 4), (1, u "java/lang/Object"), (0, u "<init>"), (0, u "()V"), (35, .class_ 44), (1, u "java/util/Objects"), (0, u "requireNonNull"), (0, u "(Ljava/lang/Object;)Ljava/lang/Object;")] 137

def k11m0 : Method := { name := "<init>", desc := "()V", sig := { parameters := [], returnType := none }, accessFlags := 2, code := none }
def k11c1 : Code := { maxStack := 2, maxLocals := 1, code := jdk_31_method_10_code, exceptionTable := #[], attributes := #[] }
def k11m1 : Method := { name := "requireNonNull", desc := "(Ljava/lang/Object;)Ljava/lang/Object;", sig := { parameters := [(.object "java/lang/Object")], returnType := some (.object "java/lang/Object") }, accessFlags := 9, code := some k11c1 }
/-- java/util/Objects -/
def k11 : Class := { plain "java/util/Objects" (some 0) with
  accessFlags := 49
  interfaces := #[]
  cf := some (fileOf pool11 42 #[] #[{ accessFlags := 2, nameIndex := 5, descriptorIndex := 6, attributes := #[] }, { accessFlags := 9, nameIndex := 45, descriptorIndex := 46, attributes := #[] }] 49 2 #[] #[])
  fields := #[]
  methods := #[k11m0, k11m1]
  instanceTypes := #[]
  staticTypes := #[]
  resolved := Array.replicate 184 none
  statics := none }

def pool12 : Array CpInfo := pool [(2, .class_ 4), (1, u "java/lang/Object"), (0, u "<init>"), (0, u "()V"), (17, .class_ 26), (1, u "jdk/internal/util/Preconditions"), (28, .class_ 56), (0, u "jdk/internal/util/Preconditions$4"), (57, .class_ 115), (0, u "jdk/internal/util/Preconditions$1"), (7, u "SIOOBE_FORMATTER"), (0, u "Ljava/util/function/BiFunction;"), (0, .class_ 126), (0, u "jdk/internal/util/Preconditions$2"), (3, u "AIOOBE_FORMATTER"), (0, .class_ 132), (0, u "jdk/internal/util/Preconditions$3"), (3, u "IOOBE_FORMATTER")] 57

def k12m0 : Method := { name := "<init>", desc := "()V", sig := { parameters := [], returnType := none }, accessFlags := 1, code := none }
/-- jdk/internal/util/Preconditions -/
def k12 : Class := { plain "jdk/internal/util/Preconditions" (some 0) with
  accessFlags := 33
  interfaces := #[]
  cf := some (fileOf pool12 24 #[.nestMembers #[55, 131, 125, 114]] #[{ accessFlags := 1, nameIndex := 5, descriptorIndex := 6, attributes := #[] }] 33 2 #[] #[{ accessFlags := 25, nameIndex := 123, descriptorIndex := 124, attributes := #[] }, { accessFlags := 25, nameIndex := 130, descriptorIndex := 124, attributes := #[] }, { accessFlags := 25, nameIndex := 136, descriptorIndex := 124, attributes := #[] }])
  fields := #[{ name := "SIOOBE_FORMATTER", type := (.object "java/util/function/BiFunction"), accessFlags := 25, slot := 0, constantValue := 0 }, { name := "AIOOBE_FORMATTER", type := (.object "java/util/function/BiFunction"), accessFlags := 25, slot := 1, constantValue := 0 }, { name := "IOOBE_FORMATTER", type := (.object "java/util/function/BiFunction"), accessFlags := 25, slot := 2, constantValue := 0 }]
  methods := #[k12m0]
  instanceTypes := #[]
  staticTypes := #[(.object "java/util/function/BiFunction"), (.object "java/util/function/BiFunction"), (.object "java/util/function/BiFunction")]
  resolved := Array.replicate 194 none
  statics := some 1 }

def pool13 : Array CpInfo := pool [(9, u "<init>"), (6, .class_ 18), (1, u "java/lang/Object"), (0, u "()V"), (1, .class_ 23), (1, u "jdk/internal/util/ArraysSupport"), (0, u "LOG2_ARRAY_LONG_INDEX_SCALE"), (0, u "I"), (2, u "U"), (0, u "Ljdk/internal/misc/Unsafe;"), (8, u "BIG_ENDIAN"), (0, u "Z"), (8, u "LOG2_BYTE_BIT_SIZE"), (4, u "LOG2_ARRAY_INT_INDEX_SCALE"), (54, u "JLA"), (0, u "Ljdk/internal/access/JavaLangAccess;"), (11, u "LOG2_ARRAY_BOOLEAN_INDEX_SCALE"), (9, u "LOG2_ARRAY_BYTE_INDEX_SCALE"), (5, u "LOG2_ARRAY_CHAR_INDEX_SCALE"), (5, u "LOG2_ARRAY_SHORT_INDEX_SCALE"), (18, u "LOG2_ARRAY_FLOAT_INDEX_SCALE"), (24, u "LOG2_ARRAY_DOUBLE_INDEX_SCALE"), (89, u "T_BOOLEAN"), (2, u "T_CHAR"), (1, u "T_FLOAT"), (1, u "T_DOUBLE"), (1, u "T_BYTE"), (1, u "T_SHORT"), (1, u "T_INT"), (1, u "T_LONG"), (1, u "SOFT_MAX_ARRAY_LENGTH")] 83

def k13m0 : Method := { name := "<init>", desc := "()V", sig := { parameters := [], returnType := none }, accessFlags := 2, code := none }
/-- jdk/internal/util/ArraysSupport -/
def k13 : Class := { plain "jdk/internal/util/ArraysSupport" (some 0) with
  accessFlags := 33
  interfaces := #[]
  cf := some (fileOf pool13 21 #[] #[{ accessFlags := 2, nameIndex := 9, descriptorIndex := 19, attributes := #[] }] 33 16 #[] #[{ accessFlags := 24, nameIndex := 28, descriptorIndex := 29, attributes := #[] }, { accessFlags := 26, nameIndex := 38, descriptorIndex := 39, attributes := #[] }, { accessFlags := 25, nameIndex := 121, descriptorIndex := 25, attributes := #[] }, { accessFlags := 25, nameIndex := 131, descriptorIndex := 25, attributes := #[] }, { accessFlags := 25, nameIndex := 137, descriptorIndex := 25, attributes := #[] }, { accessFlags := 25, nameIndex := 143, descriptorIndex := 25, attributes := #[] }, { accessFlags := 25, nameIndex := 53, descriptorIndex := 25, attributes := #[] }, { accessFlags := 25, nameIndex := 24, descriptorIndex := 25, attributes := #[] }, { accessFlags := 25, nameIndex := 162, descriptorIndex := 25, attributes := #[] }, { accessFlags := 25, nameIndex := 187, descriptorIndex := 25, attributes := #[] }, { accessFlags := 26, nameIndex := 48, descriptorIndex := 25, attributes := #[] }, { accessFlags := 25, nameIndex := 277, descriptorIndex := 25, attributes := #[] }, { accessFlags := 25, nameIndex := 280, descriptorIndex := 25, attributes := #[] }, { accessFlags := 25, nameIndex := 282, descriptorIndex := 25, attributes := #[] }, { accessFlags := 25, nameIndex := 284, descriptorIndex := 25, attributes := #[] }, { accessFlags := 25, nameIndex := 286, descriptorIndex := 25, attributes := #[] }, { accessFlags := 25, nameIndex := 288, descriptorIndex := 25, attributes := #[] }, { accessFlags := 25, nameIndex := 290, descriptorIndex := 25, attributes := #[] }, { accessFlags := 25, nameIndex := 292, descriptorIndex := 25, attributes := #[] }, { accessFlags := 26, nameIndex := 108, descriptorIndex := 109, attributes := #[] }, { accessFlags := 25, nameIndex := 294, descriptorIndex := 25, attributes := #[] }])
  fields := #[{ name := "U", type := (.object "jdk/internal/misc/Unsafe"), accessFlags := 24, slot := 0, constantValue := 0 }, { name := "BIG_ENDIAN", type := .boolean, accessFlags := 26, slot := 1, constantValue := 0 }, { name := "LOG2_ARRAY_BOOLEAN_INDEX_SCALE", type := .int, accessFlags := 25, slot := 2, constantValue := 0 }, { name := "LOG2_ARRAY_BYTE_INDEX_SCALE", type := .int, accessFlags := 25, slot := 3, constantValue := 0 }, { name := "LOG2_ARRAY_CHAR_INDEX_SCALE", type := .int, accessFlags := 25, slot := 4, constantValue := 0 }, { name := "LOG2_ARRAY_SHORT_INDEX_SCALE", type := .int, accessFlags := 25, slot := 5, constantValue := 0 }, { name := "LOG2_ARRAY_INT_INDEX_SCALE", type := .int, accessFlags := 25, slot := 6, constantValue := 0 }, { name := "LOG2_ARRAY_LONG_INDEX_SCALE", type := .int, accessFlags := 25, slot := 7, constantValue := 0 }, { name := "LOG2_ARRAY_FLOAT_INDEX_SCALE", type := .int, accessFlags := 25, slot := 8, constantValue := 0 }, { name := "LOG2_ARRAY_DOUBLE_INDEX_SCALE", type := .int, accessFlags := 25, slot := 9, constantValue := 0 }, { name := "LOG2_BYTE_BIT_SIZE", type := .int, accessFlags := 26, slot := 10, constantValue := 0 }, { name := "T_BOOLEAN", type := .int, accessFlags := 25, slot := 11, constantValue := 0 }, { name := "T_CHAR", type := .int, accessFlags := 25, slot := 12, constantValue := 0 }, { name := "T_FLOAT", type := .int, accessFlags := 25, slot := 13, constantValue := 0 }, { name := "T_DOUBLE", type := .int, accessFlags := 25, slot := 14, constantValue := 0 }, { name := "T_BYTE", type := .int, accessFlags := 25, slot := 15, constantValue := 0 }, { name := "T_SHORT", type := .int, accessFlags := 25, slot := 16, constantValue := 0 }, { name := "T_INT", type := .int, accessFlags := 25, slot := 17, constantValue := 0 }, { name := "T_LONG", type := .int, accessFlags := 25, slot := 18, constantValue := 0 }, { name := "JLA", type := (.object "jdk/internal/access/JavaLangAccess"), accessFlags := 26, slot := 19, constantValue := 0 }, { name := "SOFT_MAX_ARRAY_LENGTH", type := .int, accessFlags := 25, slot := 20, constantValue := 0 }]
  methods := #[k13m0]
  instanceTypes := #[]
  staticTypes := #[(.object "jdk/internal/misc/Unsafe"), .boolean, .int, .int, .int, .int, .int, .int, .int, .int, .int, .int, .int, .int, .int, .int, .int, .int, .int, (.object "jdk/internal/access/JavaLangAccess"), .int]
  resolved := Array.replicate 378 none
  statics := none }

def pool14 : Array CpInfo := pool [(1, u "java/lang/Cloneable"), (0, .class_ 1), (0, u "java/lang/Object"), (0, .class_ 3)] 3

/-- java/lang/Cloneable -/
def k14 : Class := { plain "java/lang/Cloneable" (some 0) with
  accessFlags := 1537
  interfaces := #[]
  cf := some (fileOf pool14 2 #[] #[] 1537 4 #[] #[])
  fields := #[]
  methods := #[]
  instanceTypes := #[]
  staticTypes := #[]
  resolved := Array.replicate 8 none
  statics := none }

/-- the primitive byte -/
def k15 : Class := { plain "byte" none with kind := .primitive 'B', accessFlags := 0x411 }
/-- [B -/
def k16 : Class := { plain "[B" (some 0) with kind := .array 15 .byte, interfaces := #[14, 4], accessFlags := 1041 }

/-- the primitive int -/
def k17 : Class := { plain "int" none with kind := .primitive 'I', accessFlags := 0x411 }
/-- [I -/
def k18 : Class := { plain "[I" (some 0) with kind := .array 17 .int, interfaces := #[14, 4], accessFlags := 1041 }

def heap : Heap := #[{ cls := 9, slots := #[.long 0, .int 1, .null, .int 0, .null, .int 0, .int 0], vm := .statics 9 },
  { cls := 12, slots := #[.null, .null, .null], vm := .statics 12 }]
def classes : Array Class := #[k0, k1, k2, k3, k4, k5, k6, k7, k8, k9, k10, k11, k12, k13, k14, k15, k16, k17, k18]
def interned : List (Array UInt16 × Addr) := []
def slotsUsed : Nat := 10
def theMethod : MethodId := ⟨1, 1⟩
def args0 : Array Value := #[.int 5, .int 5, .int 5, .int 5, .int 5, .int 5]
def aboutOver (below : List Frame) : State where
  vm := { classes := classes, interned := interned.toArray }
  heap := heap
  slotsUsed := slotsUsed
  threads := #[{ frames := .invoking theMethod args0 :: below }]
def below0 : List Frame := [.native { method := ⟨0, 0⟩, args := #[] }]
def about1 : State := aboutOver below0
def p0 : Program := .bare "" "" ""
def e0 : Env := launch0.env 0 0 0
theorem w_frames : about1.frames = Frame.invoking theMethod args0 :: below0 := rfl
set_option maxRecDepth 65536 in
theorem w_args : argsFit about1.vm theMethod args0 = true := by decide +kernel
set_option maxRecDepth 65536 in
theorem w_heap : heapFits about1 = true := by decide +kernel
set_option maxRecDepth 65536 in
theorem w_runnable : about1.curStatus? = some .runnable := by decide +kernel
set_option maxRecDepth 65536 in
theorem w_alone : about1.alone = true := by decide +kernel
set_option maxRecDepth 65536 in
theorem w_named : about1.methodNamed? x = some theMethod := by decide +kernel
set_option maxRecDepth 65536 in
theorem w_hears : about1.hears theMethod below0 = true := by decide +kernel
set_option maxRecDepth 65536 in
theorem w_ripe : about1.ripe theMethod args0 below0 = true := by decide +kernel
theorem w_running : about1.status = .running := rfl
set_option maxRecDepth 65536 in
theorem w_room : about1.hasRoom e0.platform room_1 = true :=
  launch0.hasRoom_least _ room_1 (by decide +kernel) (by decide +kernel) (by decide +kernel) (by decide +kernel) (by decide +kernel) (by decide +kernel)
theorem allAtoms_all (ts : List Jvm.Cond) (a : Array Jvm.Value) (st : Jvm.State) : (allAtoms ts).before a st = ts.all (fun c => c.before a st) := by
  induction ts with
  | nil => rfl
  | cons c t ih =>
    show (Jvm.Cond.and c (allAtoms t)).before a st = _
    rw [Jvm.Cond.before_and, ih, List.all_cons]
def words1 : List Jvm.Cond := Jvm.Cond.code x code maxLocals ret :: tables_1
/-- a 'code' word, met by the world's own term for the bytes: nothing is compared byte by byte -/
theorem code_word {y : MethodName} {bytes : ByteArray} {mx : Nat} {rt : Option FieldType} {a : Array Value} {s : State} {m : MethodId} {meth : Method} {c : Code} (h1 : s.methodNamed? y = some m) (h2 : s.vm.method? m = some meth) (h3 : meth.code = some c) (h4 : c.code = bytes)
    (h5 : (c.maxLocals == mx && c.exceptionTable.isEmpty && decide (c.maxStack ≤ mostOperands) && decide (meth.sig.returnType = rt) && !meth.locks && decide (parseMethodDescriptor y.desc = some meth.sig)) = true) : (Jvm.Cond.code y bytes mx rt).before a s = true := by
  simp only [Bool.and_eq_true, beq_iff_eq, Bool.not_eq_true', decide_eq_true_eq] at h5
  obtain ⟨⟨⟨⟨⟨g1, g2⟩, g3⟩, g4⟩, g5⟩, g6⟩ := h5
  simp [Cond.before, Cond.holds, Cond.value, h1, h2, h3, h4, g1, g2, g3, g4, g5, g6]
def isCode : Jvm.Cond → Bool
  | .code _ _ _ _ => true
  | _ => false
theorem all_split {L : List Jvm.Cond} {P : Jvm.Cond → Bool} (h1 : L.all (fun c => isCode c || P c) = true) (h2 : ∀ c ∈ L.filter isCode, P c = true) : L.all P = true := by
  refine List.all_eq_true.mpr fun c hc => ?_
  have h := List.all_eq_true.mp h1 c hc
  rcases Bool.eq_false_or_eq_true (isCode c) with hi | hi
  · exact h2 c (List.mem_filter.mpr ⟨hc, hi⟩)
  · simpa [hi] using h
set_option maxRecDepth 65536 in
theorem w_c0 : (Jvm.Cond.code x code maxLocals ret).before args0 about1 = true := code_word (m := ⟨1, 1⟩) (meth := k1m1) (c := k1c1) (by decide +kernel) rfl rfl rfl (by decide +kernel)
set_option maxRecDepth 65536 in
theorem w_c1 : (Jvm.Cond.code ({ cls := "java/lang/String", name := "valueOf", desc := "(C)Ljava/lang/String;" } : Jvm.MethodName) jdk_42_method_139_code (1 : Nat) (Option.some (Jvm.ClassFile.FieldType.object "java/lang/String"))).before args0 about1 = true := code_word (m := ⟨9, 1⟩) (meth := k9m1) (c := k9c1) (by decide +kernel) rfl rfl rfl (by decide +kernel)
set_option maxRecDepth 65536 in
theorem w_c2 : (Jvm.Cond.code ({ cls := "java/lang/StringLatin1", name := "canEncode", desc := "(C)Z" } : Jvm.MethodName) jdk_43_method_3_code (1 : Nat) (Option.some Jvm.ClassFile.FieldType.boolean)).before args0 about1 = true := code_word (m := ⟨10, 1⟩) (meth := k10m1) (c := k10c1) (by decide +kernel) rfl rfl rfl (by decide +kernel)
set_option maxRecDepth 65536 in
theorem w_c3 : (Jvm.Cond.code ({ cls := "java/lang/StringLatin1", name := "toBytes", desc := "(C)[B" } : Jvm.MethodName) jdk_43_method_46_code (1 : Nat) (Option.some (Jvm.ClassFile.FieldType.array Jvm.ClassFile.FieldType.byte))).before args0 about1 = true := code_word (m := ⟨10, 2⟩) (meth := k10m2) (c := k10c2) (by decide +kernel) rfl rfl rfl (by decide +kernel)
set_option maxRecDepth 65536 in
theorem w_c4 : (Jvm.Cond.code ({ cls := "java/lang/String", name := "<init>", desc := "([BB)V" } : Jvm.MethodName) jdk_42_method_151_code (3 : Nat) (Option.none : Option Jvm.ClassFile.FieldType)).before args0 about1 = true := code_word (m := ⟨9, 2⟩) (meth := k9m2) (c := k9c2) (by decide +kernel) rfl rfl rfl (by decide +kernel)
set_option maxRecDepth 65536 in
theorem w_c5 : (Jvm.Cond.code ({ cls := "java/lang/Object", name := "<init>", desc := "()V" } : Jvm.MethodName) object_method_1_code (1 : Nat) (Option.none : Option Jvm.ClassFile.FieldType)).before args0 about1 = true := code_word (m := ⟨0, 0⟩) (meth := k0m0) (c := k0c0) (by decide +kernel) rfl rfl rfl (by decide +kernel)
set_option maxRecDepth 65536 in
theorem w_c6 : (Jvm.Cond.code ({ cls := "com/example/vaultgate/vaultgate/history/AtcClaim", name := "<init>", desc := "(Ljava/lang/String;III)V" } : Jvm.MethodName) prog_32_method_1_code (5 : Nat) (Option.none : Option Jvm.ClassFile.FieldType)).before args0 about1 = true := code_word (m := ⟨3, 0⟩) (meth := k3m0) (c := k3c0) (by decide +kernel) rfl rfl rfl (by decide +kernel)
set_option maxRecDepth 65536 in
theorem w_c7 : (Jvm.Cond.code ({ cls := "java/lang/Record", name := "<init>", desc := "()V" } : Jvm.MethodName) jdk_30_method_1_code (1 : Nat) (Option.none : Option Jvm.ClassFile.FieldType)).before args0 about1 = true := code_word (m := ⟨2, 0⟩) (meth := k2m0) (c := k2c0) (by decide +kernel) rfl rfl rfl (by decide +kernel)
set_option maxRecDepth 65536 in
theorem w_c8 : (Jvm.Cond.code ({ cls := "java/util/Objects", name := "requireNonNull", desc := "(Ljava/lang/Object;)Ljava/lang/Object;" } : Jvm.MethodName) jdk_31_method_10_code (1 : Nat) (Option.some (Jvm.ClassFile.FieldType.object "java/lang/Object"))).before args0 about1 = true := code_word (m := ⟨11, 1⟩) (meth := k11m1) (c := k11c1) (by decide +kernel) rfl rfl rfl (by decide +kernel)
set_option maxRecDepth 65536 in
theorem w_c9 : (Jvm.Cond.code ({ cls := "com/example/vaultgate/vaultgate/history/AtcClaim", name := "follows", desc := "(I)Z" } : Jvm.MethodName) prog_32_method_2_code (2 : Nat) (Option.some Jvm.ClassFile.FieldType.boolean)).before args0 about1 = true := code_word (m := ⟨3, 1⟩) (meth := k3m1) (c := k3c1) (by decide +kernel) rfl rfl rfl (by decide +kernel)
def codes1 : List Jvm.Cond := [Jvm.Cond.code x code maxLocals ret, Jvm.Cond.code ({ cls := "java/lang/String", name := "valueOf", desc := "(C)Ljava/lang/String;" } : Jvm.MethodName) jdk_42_method_139_code (1 : Nat) (Option.some (Jvm.ClassFile.FieldType.object "java/lang/String")), Jvm.Cond.code ({ cls := "java/lang/StringLatin1", name := "canEncode", desc := "(C)Z" } : Jvm.MethodName) jdk_43_method_3_code (1 : Nat) (Option.some Jvm.ClassFile.FieldType.boolean), Jvm.Cond.code ({ cls := "java/lang/StringLatin1", name := "toBytes", desc := "(C)[B" } : Jvm.MethodName) jdk_43_method_46_code (1 : Nat) (Option.some (Jvm.ClassFile.FieldType.array Jvm.ClassFile.FieldType.byte)), Jvm.Cond.code ({ cls := "java/lang/String", name := "<init>", desc := "([BB)V" } : Jvm.MethodName) jdk_42_method_151_code (3 : Nat) (Option.none : Option Jvm.ClassFile.FieldType), Jvm.Cond.code ({ cls := "java/lang/Object", name := "<init>", desc := "()V" } : Jvm.MethodName) object_method_1_code (1 : Nat) (Option.none : Option Jvm.ClassFile.FieldType), Jvm.Cond.code ({ cls := "com/example/vaultgate/vaultgate/history/AtcClaim", name := "<init>", desc := "(Ljava/lang/String;III)V" } : Jvm.MethodName) prog_32_method_1_code (5 : Nat) (Option.none : Option Jvm.ClassFile.FieldType), Jvm.Cond.code ({ cls := "java/lang/Record", name := "<init>", desc := "()V" } : Jvm.MethodName) jdk_30_method_1_code (1 : Nat) (Option.none : Option Jvm.ClassFile.FieldType), Jvm.Cond.code ({ cls := "java/util/Objects", name := "requireNonNull", desc := "(Ljava/lang/Object;)Ljava/lang/Object;" } : Jvm.MethodName) jdk_31_method_10_code (1 : Nat) (Option.some (Jvm.ClassFile.FieldType.object "java/lang/Object")), Jvm.Cond.code ({ cls := "com/example/vaultgate/vaultgate/history/AtcClaim", name := "follows", desc := "(I)Z" } : Jvm.MethodName) prog_32_method_2_code (2 : Nat) (Option.some Jvm.ClassFile.FieldType.boolean)]
set_option maxRecDepth 65536 in
theorem codes_eq : words1.filter isCode = codes1 := rfl
theorem w_codes : ∀ c ∈ words1.filter isCode, c.before args0 about1 = true := by
  rw [codes_eq]
  intro c hc
  simp only [codes1, List.mem_cons, List.not_mem_nil, or_false] at hc
  rcases hc with rfl | rfl | rfl | rfl | rfl | rfl | rfl | rfl | rfl | rfl
  · exact w_c0
  · exact w_c1
  · exact w_c2
  · exact w_c3
  · exact w_c4
  · exact w_c5
  · exact w_c6
  · exact w_c7
  · exact w_c8
  · exact w_c9
set_option maxRecDepth 65536 in
theorem w_t1 : (words1.take 24).all (fun c => isCode c || c.before args0 about1) = true := by decide +kernel
set_option maxRecDepth 65536 in
theorem w_t2 : ((words1.drop 24).take 24).all (fun c => isCode c || c.before args0 about1) = true := by decide +kernel
set_option maxRecDepth 65536 in
theorem w_t3 : ((words1.drop 24).drop 24).all (fun c => isCode c || c.before args0 about1) = true := by decide +kernel
theorem w_tables : (allAtoms (Jvm.Cond.code x code maxLocals ret :: tables_1)).before args0 about1 = true := by
  rw [allAtoms_all]
  show words1.all (fun c => c.before args0 about1) = true
  refine all_split ?_ w_codes
  rw [← List.take_append_drop 24 words1, List.all_append, w_t1, ← List.take_append_drop 24 (words1.drop 24), List.all_append, w_t2, w_t3]
  rfl
set_option maxRecDepth 65536 in
theorem w_rest : rest_1_c.before args0 about1 = true := by decide +kernel
set_option maxRecDepth 65536 in
theorem w_case : (Jvm.Cond.and given_1 narrow_1).before args0 about1 = true := by decide +kernel
theorem w_applies : (headSpec (Jvm.Cond.code x code maxLocals ret :: tables_1) room_1).applies x e0.platform about1 = true :=
  (Spec.applies_iff w_frames).mpr ⟨w_running, w_runnable, w_alone, w_named, w_hears, w_ripe, w_room, w_tables⟩
theorem atStart : AtStart classFile x code maxLocals ret World_1 tables_1 room_1 Calls_1 rest_1 Pre_1 launch0 p0 e0 about1 theMethod args0 below0 :=
  ⟨lists_1, trivial, launch0.admits_env _ _ _, launch0.least_env, fairChoices_fair.cas, fairChoices_fair.clock, w_frames, w_args, w_heap, w_applies, trivial, w_rest, w_case⟩
end start1
theorem witness_1 : WitnessClaimed_1 := ⟨start1.p0, start1.e0, start1.about1, start1.theMethod, start1.args0, start1.below0, start1.atStart⟩
end Jvm.Pilot.@@N@@

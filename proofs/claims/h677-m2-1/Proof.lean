import JvmDerived
import JvmDerived.Pilot.@@N@@Statement
import JvmDerived.Pilot.@@N@@Code
set_option linter.unusedVariables false
set_option linter.unusedSimpArgs false
namespace Jvm.RoadKit
open Sem ClassFile Op Lib Jvm.Stand Jvm.Free Jvm.LawKit
section New
variable {p : Program} {l : Launch} {e : Env} {R : Room} {s : State} {m : MethodId} {args : Array Value} {below : List Frame} {meth : Method} {c : Code} {T : State} {locs : List Loc} {cells slots : Nat}
theorem retI (X : Stand p l e R s m args below meth c T locs cells slots) (hx : p.tables.exec = Jvm.exec) {pc : Nat} {Ls : Array Slot} {z : Int32} {rest : List Value} (hret : meth.sig.returnType = some .int) (hd : decode c.code pc = .ok (.ireturn, 1)) {fs : List Frame}
    (hl : ∀ (f : JFrame) (acts : List Action), f.method = m → f.locked = none → f.entered = [] → (doReturn e (T.setTop f) acts (some (.int z))).1 = T.setFrames fs) : Steps p.tables e below (T.setTop (mkF m pc Ls (.int z :: rest))) (T.setFrames fs) := by
  have hm' : T.vm.method? m = some meth := X.method'
  have hn : narrow .int (.int z) = .int z := rfl
  show Steps p.tables e below (T.setTop { method := m, pc := pc, locals := Ls, stack := _ :: rest, locked := none }) _
  jvm_step X.here [X.here.top, hx, hd, hm', hret, hn]
  first | (intro acts; rw [hl _ acts rfl rfl rfl]) | rw [hl _ _ rfl rfl rfl]
  exact Steps.refl _
end New
end Jvm.RoadKit
namespace Jvm.Pilot.@@N@@
open Jvm Jvm.ClassFile Sem Op Lib Jvm.Free Jvm.Stand Jvm.LawKit Jvm.RoadKit Bundle Jvm.Pilot.@@N@@.Jvm.D
theorem pn_0 : plainName "com/example/wireshape/wireshape/model/ByteSum" = true := by first | (simp [plainName, overriddenIn]; done) | decide +kernel
theorem d1_0 : decode prog_26_method_1_code 0 = .ok (.aload_n 0, 1) := by decide +kernel
theorem d1_1 : decode prog_26_method_1_code 1 = .ok (.invokespecial 1, 3) := by decide +kernel
theorem d1_4 : decode prog_26_method_1_code 4 = .ok (.return_, 1) := by decide +kernel
theorem ef_1 (m : MethodId) (x0 : Addr) : entryFrame m #[(.ref x0)] 1 = mkF m 0 #[.val (.ref x0)] [] := by first | (simp [entryFrame, mkF, argsToLocals, Value.category]; done) | rfl
def Q1 (Z : State) (a0t : Addr) (w_sum : Int64) (h0 : Heap) (n0 : Nat) (v : Option Value) (h : Heap) (L : List Loc) : Prop := v = none ∧ Fr n0 L ∧ h = h0
set_option maxRecDepth 65536 in
set_option maxHeartbeats 40000000 in
theorem rm1 (l : Launch) (Z : State) (a0 : Array Value) (hw : ∀ d ∈ tables_1, d.before a0 Z = true) (ws : List Jvm.Cond) (a0t : Addr) (w_sum : Int64) (h0 : Heap) (n0 : Nat) (Z0 : n0 ≤ h0.size) (E_this : Exa Z h0 a0t "com/example/wireshape/wireshape/model/ByteSum") (g_this : n0 ≤ a0t) (F_sum : Fld Z h0 a0t "com/example/wireshape/wireshape/model/ByteSum" "sum" "J" (.long w_sum)) :
    MetFree l (⟨"com/example/wireshape/wireshape/model/ByteSum", "<init>", "()V"⟩ : MethodName) (head1 (Jvm.Cond.code (⟨"com/example/wireshape/wireshape/model/ByteSum", "<init>", "()V"⟩ : MethodName) prog_26_method_1_code 1 none :: ws) ({ frames := 1, cells := 0, slots := 0, locals := 12 } : Room)) (fun a U => a = #[(.ref a0t)] ∧ Z.Warmed39 U.vm ∧ U.heap = h0) (fun _ _ _ _ _ => True) (fun _ U o U' => ∃ v L, o = .returned v ∧ Q1 Z a0t w_sum h0 n0 v U'.heap L ∧ FrameEnd U o U' L ({ frames := 1, cells := 0, slots := 0, locals := 12 } : Room).cells ({ frames := 1, cells := 0, slots := 0, locals := 12 } : Room).slots) := by
  refine MetFree.of_bodySF (plainFor_of_name pn_0) hisR ?_
  intro p e s m args below meth c s₁ Bd hml0 hP hK
  obtain ⟨rfl, hZ, hh⟩ := hP
  have hx := Bd.exec
  have hby := Bd.bytes
  have hml : c.maxLocals = 1 := hml0
  have hown : s.vm.findClass "com/example/wireshape/wireshape/model/ByteSum" = some m.cls := findClass_of_methodNamed Bd.named
  have hnm := (name_of_methodNamed Bd.named Bd.method).1
  have X0 : Stand p l e ({ frames := 1, cells := 0, slots := 0, locals := 12 } : Room) s m #[(.ref a0t)] below meth c s₁ [] 0 0 := Stand.of_body Bd
  have e0 : s₁.heap = h0 := by rw [← hh, Bd.state]; rfl
  have N0 := Fr.nil n0
  have K0 := Keep.refl h0 [a0t]
  have pre0 : ∀ t, Steps p.tables e below (s₁.setTop (mkF m 0 #[.val (.ref a0t)] [])) t → Steps p.tables e below (s₁.setTop (entryFrame m #[(.ref a0t)] 1)) t := fun t k => castTop (ef_1 m a0t) k
  obtain ⟨T1, X1, e1, st1⟩ := initO X0 hx hZ hown (hw _ (List.mem_of_getElem? (i := 6) rfl)) (hw _ (List.mem_of_getElem? (i := 7) rfl)) (hw _ (List.mem_of_getElem? (i := 8) rfl)) e0 (g := (mkF m 1 #[.val (.ref a0t)] [(.ref a0t)])) rfl (by rw [hml]; rfl) rfl (hb hby d1_1) (by decide) (W := 0) (by show 2 * 0 + _ ≤ _; exact Nat.le_of_eq rfl) (by decide)
  obtain ⟨fs, hr, hrun, hended, hW, hsame⟩ := X1.leave (v := none) (fun _ => rfl)
  refine ⟨_, _, pre0 _ ?_, hrun, hended, _, _, rfl, ?_, ⟨_, rfl⟩, hW, hsame.mono (by decide) (by decide)⟩
  · show Steps p.tables e below (s₁.setTop (mkF m 0 #[.val (.ref a0t)] [])) _
    refine XS.aloadN X0.here hx rfl (hb hby d1_0) rfl rfl ?_
    show Steps p.tables e below (s₁.setTop (mkF m 1 #[.val (.ref a0t)] [(.ref a0t)])) _
    refine st1 _ ?_
    show Steps p.tables e below (T1.setTop (mkF m 4 #[.val (.ref a0t)] [])) _
    exact X1.returnOut hx Bd.returns (hb hby d1_4) hr
  · show Q1 Z a0t w_sum h0 n0 _ T1.heap _
    rw [e1]
    exact ⟨rfl, N0, rfl⟩
theorem d3_0 : decode prog_26_method_4_code 0 = .ok (.aload_n 0, 1) := by decide +kernel
theorem d3_1 : decode prog_26_method_4_code 1 = .ok (.getfield 7, 3) := by decide +kernel
theorem d3_4 : decode prog_26_method_4_code 4 = .ok (.lreturn, 1) := by decide +kernel
theorem ef_3 (m : MethodId) (x0 : Addr) : entryFrame m #[(.ref x0)] 1 = mkF m 0 #[.val (.ref x0)] [] := by first | (simp [entryFrame, mkF, argsToLocals, Value.category]; done) | rfl
def f3 (w_sum : Int64) : Int64 := w_sum
def Q3 (Z : State) (a0t : Addr) (w_sum : Int64) (h0 : Heap) (n0 : Nat) (v : Option Value) (h : Heap) (L : List Loc) : Prop := v = some (.long (f3 w_sum)) ∧ Fr n0 L ∧ h = h0
set_option maxRecDepth 65536 in
set_option maxHeartbeats 40000000 in
theorem rm3 (l : Launch) (Z : State) (a0 : Array Value) (hw : ∀ d ∈ tables_1, d.before a0 Z = true) (ws : List Jvm.Cond) (a0t : Addr) (w_sum : Int64) (h0 : Heap) (n0 : Nat) (Z0 : n0 ≤ h0.size) (E_this : Exa Z h0 a0t "com/example/wireshape/wireshape/model/ByteSum") (g_this : n0 ≤ a0t) (F_sum : Fld Z h0 a0t "com/example/wireshape/wireshape/model/ByteSum" "sum" "J" (.long w_sum)) :
    MetFree l (⟨"com/example/wireshape/wireshape/model/ByteSum", "getValue", "()J"⟩ : MethodName) (head1 (Jvm.Cond.code (⟨"com/example/wireshape/wireshape/model/ByteSum", "getValue", "()J"⟩ : MethodName) prog_26_method_4_code 1 (some .long) :: ws) ({ frames := 0, cells := 0, slots := 0, locals := 0 } : Room)) (fun a U => a = #[(.ref a0t)] ∧ Z.Warmed39 U.vm ∧ U.heap = h0) (fun _ _ _ _ _ => True) (fun _ U o U' => ∃ v L, o = .returned v ∧ Q3 Z a0t w_sum h0 n0 v U'.heap L ∧ FrameEnd U o U' L ({ frames := 0, cells := 0, slots := 0, locals := 0 } : Room).cells ({ frames := 0, cells := 0, slots := 0, locals := 0 } : Room).slots) := by
  refine MetFree.of_bodySF (plainFor_of_name pn_0) hisR ?_
  intro p e s m args below meth c s₁ Bd hml0 hP hK
  obtain ⟨rfl, hZ, hh⟩ := hP
  have hx := Bd.exec
  have hby := Bd.bytes
  have hml : c.maxLocals = 1 := hml0
  have hown : s.vm.findClass "com/example/wireshape/wireshape/model/ByteSum" = some m.cls := findClass_of_methodNamed Bd.named
  have hnm := (name_of_methodNamed Bd.named Bd.method).1
  have X0 : Stand p l e ({ frames := 0, cells := 0, slots := 0, locals := 0 } : Room) s m #[(.ref a0t)] below meth c s₁ [] 0 0 := Stand.of_body Bd
  have e0 : s₁.heap = h0 := by rw [← hh, Bd.state]; rfl
  have N0 := Fr.nil n0
  have K0 := Keep.refl h0 [a0t]
  have pre0 : ∀ t, Steps p.tables e below (s₁.setTop (mkF m 0 #[.val (.ref a0t)] [])) t → Steps p.tables e below (s₁.setTop (entryFrame m #[(.ref a0t)] 1)) t := fun t k => castTop (ef_3 m a0t) k
  obtain ⟨T1, X1, e1, st1⟩ := getF X0 hx hZ hown (host := "") (Or.inl (hw _ (List.mem_of_getElem? (i := 14) rfl))) Via.refl e0 F_sum (g := (mkF m 1 #[.val (.ref a0t)] [(.ref a0t)])) rfl rfl (hb hby d3_1)
  obtain ⟨fs, hr, hrun, hended, hW, hsame⟩ := X1.leave (v := some (.long w_sum)) (fun h => by rw [Bd.returns] at h; cases h)
  refine ⟨_, _, pre0 _ ?_, hrun, hended, _, _, rfl, ?_, ⟨_, rfl⟩, hW, hsame.mono (by decide) (by decide)⟩
  · show Steps p.tables e below (s₁.setTop (mkF m 0 #[.val (.ref a0t)] [])) _
    refine XS.aloadN X0.here hx rfl (hb hby d3_0) rfl rfl ?_
    show Steps p.tables e below (s₁.setTop (mkF m 1 #[.val (.ref a0t)] [(.ref a0t)])) _
    refine st1 _ ?_
    show Steps p.tables e below (T1.setTop (mkF m 4 #[.val (.ref a0t)] [(.long w_sum)])) _
    jvm_step X1.here [X1.here.top, hx, (hb hby d3_4), X1.method', Bd.returns, narrow]
    first | (intro acts; rw [hr _ acts rfl rfl rfl]) | rw [hr _ _ rfl rfl rfl]
    exact Steps.refl _
  · show Q3 Z a0t w_sum h0 n0 _ T1.heap _
    rw [e1]
    exact ⟨by rw [show f3 w_sum = w_sum from by unfold f3; rfl], N0, rfl⟩
theorem d4_0 : decode prog_26_method_2_code 0 = .ok (.aload_n 0, 1) := by decide +kernel
theorem d4_1 : decode prog_26_method_2_code 1 = .ok (.dup, 1) := by decide +kernel
theorem d4_2 : decode prog_26_method_2_code 2 = .ok (.getfield 7, 3) := by decide +kernel
theorem d4_5 : decode prog_26_method_2_code 5 = .ok (.iload_n 1, 1) := by decide +kernel
theorem d4_6 : decode prog_26_method_2_code 6 = .ok (.sipush 255, 3) := by decide +kernel
theorem d4_9 : decode prog_26_method_2_code 9 = .ok (.iand, 1) := by decide +kernel
theorem d4_10 : decode prog_26_method_2_code 10 = .ok (.i2l, 1) := by decide +kernel
theorem d4_11 : decode prog_26_method_2_code 11 = .ok (.ladd, 1) := by decide +kernel
theorem d4_12 : decode prog_26_method_2_code 12 = .ok (.putfield 7, 3) := by decide +kernel
theorem d4_15 : decode prog_26_method_2_code 15 = .ok (.return_, 1) := by decide +kernel
theorem ef_4 (m : MethodId) (x0 : Addr) (x1 : Int32) : entryFrame m #[(.ref x0), (.int x1)] 2 = mkF m 0 #[.val (.ref x0), .val (.int x1)] [] := by first | (simp [entryFrame, mkF, argsToLocals, Value.category]; done) | rfl
def f4_sum (p0 : Int32) (w_sum : Int64) : Int64 := (w_sum + ((p0 &&& (255 : Int32)).toInt64))
def Q4 (Z : State) (a0t : Addr) (p0 : Int32) (w_sum : Int64) (h0 : Heap) (n0 : Nat) (v : Option Value) (h : Heap) (L : List Loc) : Prop := v = none ∧ Fr n0 L ∧ Keep h0 h [a0t] ∧ Exa Z h a0t "com/example/wireshape/wireshape/model/ByteSum" ∧ Fld Z h a0t "com/example/wireshape/wireshape/model/ByteSum" "sum" "J" (.long (f4_sum p0 w_sum))
set_option maxRecDepth 65536 in
set_option maxHeartbeats 40000000 in
theorem rm4 (l : Launch) (Z : State) (a0 : Array Value) (hw : ∀ d ∈ tables_1, d.before a0 Z = true) (ws : List Jvm.Cond) (a0t : Addr) (p0 : Int32) (w_sum : Int64) (h0 : Heap) (n0 : Nat) (Z0 : n0 ≤ h0.size) (E_this : Exa Z h0 a0t "com/example/wireshape/wireshape/model/ByteSum") (g_this : n0 ≤ a0t) (F_sum : Fld Z h0 a0t "com/example/wireshape/wireshape/model/ByteSum" "sum" "J" (.long w_sum)) :
    MetFree l (⟨"com/example/wireshape/wireshape/model/ByteSum", "update", "(I)V"⟩ : MethodName) (head1 (Jvm.Cond.code (⟨"com/example/wireshape/wireshape/model/ByteSum", "update", "(I)V"⟩ : MethodName) prog_26_method_2_code 2 none :: ws) ({ frames := 0, cells := 0, slots := 0, locals := 0 } : Room)) (fun a U => a = #[(.ref a0t), (.int p0)] ∧ Z.Warmed39 U.vm ∧ U.heap = h0) (fun _ _ _ _ _ => True) (fun _ U o U' => ∃ v L, o = .returned v ∧ Q4 Z a0t p0 w_sum h0 n0 v U'.heap L ∧ FrameEnd U o U' L ({ frames := 0, cells := 0, slots := 0, locals := 0 } : Room).cells ({ frames := 0, cells := 0, slots := 0, locals := 0 } : Room).slots) := by
  refine MetFree.of_bodySF (plainFor_of_name pn_0) hisR ?_
  intro p e s m args below meth c s₁ Bd hml0 hP hK
  obtain ⟨rfl, hZ, hh⟩ := hP
  have hx := Bd.exec
  have hby := Bd.bytes
  have hml : c.maxLocals = 2 := hml0
  have hown : s.vm.findClass "com/example/wireshape/wireshape/model/ByteSum" = some m.cls := findClass_of_methodNamed Bd.named
  have hnm := (name_of_methodNamed Bd.named Bd.method).1
  have X0 : Stand p l e ({ frames := 0, cells := 0, slots := 0, locals := 0 } : Room) s m #[(.ref a0t), (.int p0)] below meth c s₁ [] 0 0 := Stand.of_body Bd
  have e0 : s₁.heap = h0 := by rw [← hh, Bd.state]; rfl
  have N0 := Fr.nil n0
  have K0 := Keep.refl h0 [a0t]
  have pre0 : ∀ t, Steps p.tables e below (s₁.setTop (mkF m 0 #[.val (.ref a0t), .val (.int p0)] [])) t → Steps p.tables e below (s₁.setTop (entryFrame m #[(.ref a0t), (.int p0)] 2)) t := fun t k => castTop (ef_4 m a0t p0) k
  obtain ⟨T1, X1, e1, st1⟩ := getF X0 hx hZ hown (host := "") (Or.inl (hw _ (List.mem_of_getElem? (i := 14) rfl))) Via.refl e0 F_sum (g := (mkF m 2 #[.val (.ref a0t), .val (.int p0)] [(.ref a0t), (.ref a0t)])) rfl rfl (hb hby d4_2)
  obtain ⟨T2, h2, X2, e2, W2, st2⟩ := putF X1 hx hZ hown (host := "") (Or.inl (hw _ (List.mem_of_getElem? (i := 14) rfl))) Via.refl e1 F_sum E_this (Or.inl (hw _ (List.mem_of_getElem? (i := 15) rfl))) (hw _ (List.mem_of_getElem? (i := 1) rfl)) (ty := .long) (by decide) rfl rfl (g := (mkF m 12 #[.val (.ref a0t), .val (.int p0)] [(.long (w_sum + ((p0 &&& (255 : Int32)).toInt64))), (.ref a0t)])) rfl rfl (hb hby d4_12)
  have F_sum_a0t_2 := F_sum.same W2
  have E_a0t_2 := E_this.wr W2
  have N2 := Fr.snoc X2 N0 g_this
  have Zz2 := Nat.le_trans Z0 (Keep.of_wr W2).1
  have K2 : Keep h0 h2 [a0t] := K0.wr W2 (Or.inl (by simp))
  obtain ⟨fs, hr, hrun, hended, hW, hsame⟩ := X2.leave (v := none) (fun _ => rfl)
  refine ⟨_, _, pre0 _ ?_, hrun, hended, _, _, rfl, ?_, ⟨_, rfl⟩, hW, hsame.mono (by decide) (by decide)⟩
  · show Steps p.tables e below (s₁.setTop (mkF m 0 #[.val (.ref a0t), .val (.int p0)] [])) _
    refine XS.aloadN X0.here hx rfl (hb hby d4_0) rfl rfl ?_
    show Steps p.tables e below (s₁.setTop (mkF m 1 #[.val (.ref a0t), .val (.int p0)] [(.ref a0t)])) _
    refine XS.dup X0.here hx rfl (hb hby d4_1) rfl rfl ?_
    show Steps p.tables e below (s₁.setTop (mkF m 2 #[.val (.ref a0t), .val (.int p0)] [(.ref a0t), (.ref a0t)])) _
    refine st1 _ ?_
    show Steps p.tables e below (T1.setTop (mkF m 5 #[.val (.ref a0t), .val (.int p0)] [(.long w_sum), (.ref a0t)])) _
    refine XS.iloadN X1.here hx rfl (hb hby d4_5) rfl ?_
    show Steps p.tables e below (T1.setTop (mkF m 6 #[.val (.ref a0t), .val (.int p0)] [(.int p0), (.long w_sum), (.ref a0t)])) _
    refine XS.sipush X1.here hx rfl (hb hby d4_6) ?_
    show Steps p.tables e below (T1.setTop (mkF m 9 #[.val (.ref a0t), .val (.int p0)] [(.int (255 : Int32)), (.int p0), (.long w_sum), (.ref a0t)])) _
    refine XS.iand X1.here hx rfl (hb hby d4_9) rfl ?_
    show Steps p.tables e below (T1.setTop (mkF m 10 #[.val (.ref a0t), .val (.int p0)] [(.int (p0 &&& (255 : Int32))), (.long w_sum), (.ref a0t)])) _
    refine XS.i2l X1.here hx rfl (hb hby d4_10) rfl ?_
    show Steps p.tables e below (T1.setTop (mkF m 11 #[.val (.ref a0t), .val (.int p0)] [(.long ((p0 &&& (255 : Int32)).toInt64)), (.long w_sum), (.ref a0t)])) _
    refine XS.ladd X1.here hx rfl (hb hby d4_11) rfl ?_
    show Steps p.tables e below (T1.setTop (mkF m 12 #[.val (.ref a0t), .val (.int p0)] [(.long (w_sum + ((p0 &&& (255 : Int32)).toInt64))), (.ref a0t)])) _
    refine st2 _ ?_
    show Steps p.tables e below (T2.setTop (mkF m 15 #[.val (.ref a0t), .val (.int p0)] [])) _
    exact X2.returnOut hx Bd.returns (hb hby d4_15) hr
  · show Q4 Z a0t p0 w_sum h0 n0 _ T2.heap _
    rw [e2]
    exact ⟨rfl, N2, K2, E_a0t_2, by rw [show f4_sum p0 w_sum = (w_sum + ((p0 &&& (255 : Int32)).toInt64)) from by unfold f4_sum; rfl]; exact F_sum_a0t_2⟩
theorem pn_1 : plainName "com/example/wireshape/wireshape/model/ByteSumUpdatePinLaw" = true := by first | (simp [plainName, overriddenIn]; done) | decide +kernel
theorem d5_0 : decode method_2_code 0 = .ok (.iload_n 0, 1) := by decide +kernel
theorem d5_1 : decode method_2_code 1 = .ok (.sipush 256, 3) := by decide +kernel
theorem d5_4 : decode method_2_code 4 = .ok (.irem, 1) := by decide +kernel
theorem d5_5 : decode method_2_code 5 = .ok (.istore_n 1, 1) := by decide +kernel
theorem d5_6 : decode method_2_code 6 = .ok (.iload_n 1, 1) := by decide +kernel
theorem d5_7 : decode method_2_code 7 = .ok (.ifCond .ge 9, 3) := by decide +kernel
theorem d5_10 : decode method_2_code 10 = .ok (.iload_n 1, 1) := by decide +kernel
theorem d5_11 : decode method_2_code 11 = .ok (.sipush 256, 3) := by decide +kernel
theorem d5_14 : decode method_2_code 14 = .ok (.iadd, 1) := by decide +kernel
theorem d5_15 : decode method_2_code 15 = .ok (.istore_n 1, 1) := by decide +kernel
theorem d5_16 : decode method_2_code 16 = .ok (.iload_n 1, 1) := by decide +kernel
theorem d5_17 : decode method_2_code 17 = .ok (.i2l, 1) := by decide +kernel
theorem d5_18 : decode method_2_code 18 = .ok (.lreturn, 1) := by decide +kernel
theorem ef_5 (m : MethodId) (x0 : Int32) : entryFrame m #[(.int x0)] 2 = mkF m 0 #[.val (.int x0), .unset] [] := by first | (simp [entryFrame, mkF, argsToLocals, Value.category]; done) | rfl
def f5_l1_16001 (p0 : Int32) : Int32 := (if (p0 % (256 : Int32)) < (0 : Int32) then ((p0 % (256 : Int32)) + (256 : Int32)) else (p0 % (256 : Int32)))
def f5 (p0 : Int32) : Int64 := ((f5_l1_16001 p0).toInt64)
def Q5 (Z : State) (p0 : Int32) (h0 : Heap) (n0 : Nat) (v : Option Value) (h : Heap) (L : List Loc) : Prop := v = some (.long (f5 p0)) ∧ Fr n0 L ∧ h = h0
set_option maxRecDepth 65536 in
set_option maxHeartbeats 40000000 in
theorem rm5 (l : Launch) (Z : State) (a0 : Array Value) (hw : ∀ d ∈ tables_1, d.before a0 Z = true) (ws : List Jvm.Cond) (p0 : Int32) (h0 : Heap) (n0 : Nat) (Z0 : n0 ≤ h0.size)  :
    MetFree l (⟨"com/example/wireshape/wireshape/model/ByteSumUpdatePinLaw", "low", "(I)J"⟩ : MethodName) (head1 (Jvm.Cond.code (⟨"com/example/wireshape/wireshape/model/ByteSumUpdatePinLaw", "low", "(I)J"⟩ : MethodName) method_2_code 2 (some .long) :: ws) ({ frames := 0, cells := 0, slots := 0, locals := 0 } : Room)) (fun a U => a = #[(.int p0)] ∧ Z.Warmed39 U.vm ∧ U.heap = h0) (fun _ _ _ _ _ => True) (fun _ U o U' => ∃ v L, o = .returned v ∧ Q5 Z p0 h0 n0 v U'.heap L ∧ FrameEnd U o U' L ({ frames := 0, cells := 0, slots := 0, locals := 0 } : Room).cells ({ frames := 0, cells := 0, slots := 0, locals := 0 } : Room).slots) := by
  refine MetFree.of_bodySF (plainFor_of_name pn_1) hisR ?_
  intro p e s m args below meth c s₁ Bd hml0 hP hK
  obtain ⟨rfl, hZ, hh⟩ := hP
  have hx := Bd.exec
  have hby := Bd.bytes
  have hml : c.maxLocals = 2 := hml0
  have hown : s.vm.findClass "com/example/wireshape/wireshape/model/ByteSumUpdatePinLaw" = some m.cls := findClass_of_methodNamed Bd.named
  have hnm := (name_of_methodNamed Bd.named Bd.method).1
  have X0 : Stand p l e ({ frames := 0, cells := 0, slots := 0, locals := 0 } : Room) s m #[(.int p0)] below meth c s₁ [] 0 0 := Stand.of_body Bd
  have e0 : s₁.heap = h0 := by rw [← hh, Bd.state]; rfl
  have N0 := Fr.nil n0
  have K0 := Keep.refl h0 []
  have pre0 : ∀ t, Steps p.tables e below (s₁.setTop (mkF m 0 #[.val (.int p0), .unset] [])) t → Steps p.tables e below (s₁.setTop (entryFrame m #[(.int p0)] 2)) t := fun t k => castTop (ef_5 m p0) k
  have pre1 : ∀ t, Steps p.tables e below (s₁.setTop (mkF m 7 #[.val (.int p0), .val (.int (p0 % (256 : Int32)))] [(.int (p0 % (256 : Int32)))])) t → Steps p.tables e below (s₁.setTop (entryFrame m #[(.int p0)] 2)) t := fun t kt => pre0 t (by
    show Steps p.tables e below (s₁.setTop (mkF m 0 #[.val (.int p0), .unset] [])) _
    refine XS.iloadN X0.here hx rfl (hb hby d5_0) rfl ?_
    show Steps p.tables e below (s₁.setTop (mkF m 1 #[.val (.int p0), .unset] [(.int p0)])) _
    refine XS.sipush X0.here hx rfl (hb hby d5_1) ?_
    show Steps p.tables e below (s₁.setTop (mkF m 4 #[.val (.int p0), .unset] [(.int (256 : Int32)), (.int p0)])) _
    refine iremM X0 hx rfl (hb hby d5_4) rfl (by decide) ?_
    show Steps p.tables e below (s₁.setTop (mkF m 5 #[.val (.int p0), .unset] [(.int (p0 % (256 : Int32)))])) _
    refine XS.istoreN X0.here hx rfl (hb hby d5_5) rfl (l' := #[.val (.int p0), .val (.int (p0 % (256 : Int32)))]) rfl ?_
    show Steps p.tables e below (s₁.setTop (mkF m 6 #[.val (.int p0), .val (.int (p0 % (256 : Int32)))] [])) _
    refine XS.iloadN X0.here hx rfl (hb hby d5_6) rfl ?_
    exact kt)
  have pre3 : ∀ t, Steps p.tables e below (s₁.setTop (mkF m 16 #[.val (.int p0), .val (.int (f5_l1_16001 p0))] [])) t → Steps p.tables e below (s₁.setTop (entryFrame m #[(.int p0)] 2)) t := by
    intro t kt
    by_cases hc2 : (p0 % (256 : Int32)) < (0 : Int32)
    · have hj : (f5_l1_16001 p0) = ((p0 % (256 : Int32)) + (256 : Int32)) := by unfold f5_l1_16001; rw [if_pos hc2]
      rw [hj] at kt
      refine pre1 t ?_
      show Steps p.tables e below (s₁.setTop (mkF m 7 #[.val (.int p0), .val (.int (p0 % (256 : Int32)))] [(.int (p0 % (256 : Int32)))])) _
      refine XS.ifNo X0.here hx rfl (hb hby d5_7) rfl ((if0 _ _).trans (tlt hc2).2.1) ?_
      show Steps p.tables e below (s₁.setTop (mkF m 10 #[.val (.int p0), .val (.int (p0 % (256 : Int32)))] [])) _
      refine XS.iloadN X0.here hx rfl (hb hby d5_10) rfl ?_
      show Steps p.tables e below (s₁.setTop (mkF m 11 #[.val (.int p0), .val (.int (p0 % (256 : Int32)))] [(.int (p0 % (256 : Int32)))])) _
      refine XS.sipush X0.here hx rfl (hb hby d5_11) ?_
      show Steps p.tables e below (s₁.setTop (mkF m 14 #[.val (.int p0), .val (.int (p0 % (256 : Int32)))] [(.int (256 : Int32)), (.int (p0 % (256 : Int32)))])) _
      refine XS.iadd X0.here hx rfl (hb hby d5_14) rfl ?_
      show Steps p.tables e below (s₁.setTop (mkF m 15 #[.val (.int p0), .val (.int (p0 % (256 : Int32)))] [(.int ((p0 % (256 : Int32)) + (256 : Int32)))])) _
      refine XS.istoreN X0.here hx rfl (hb hby d5_15) rfl (l' := #[.val (.int p0), .val (.int ((p0 % (256 : Int32)) + (256 : Int32)))]) rfl ?_
      exact kt
    · have hj : (f5_l1_16001 p0) = (p0 % (256 : Int32)) := by unfold f5_l1_16001; rw [if_neg hc2]
      rw [hj] at kt
      refine pre1 t ?_
      show Steps p.tables e below (s₁.setTop (mkF m 7 #[.val (.int p0), .val (.int (p0 % (256 : Int32)))] [(.int (p0 % (256 : Int32)))])) _
      refine XS.ifYes X0.here hx rfl (pc0 := 7) (pc' := 16) rfl (hb hby d5_7) rfl ((if0 _ _).trans (flt hc2).2.1) (by decide) (by decide) ?_
      exact kt
  obtain ⟨fs, hr, hrun, hended, hW, hsame⟩ := X0.leave (v := some (.long ((f5_l1_16001 p0).toInt64))) (fun h => by rw [Bd.returns] at h; cases h)
  refine ⟨_, _, pre3 _ ?_, hrun, hended, _, _, rfl, ?_, ⟨_, rfl⟩, hW, hsame.mono (by decide) (by decide)⟩
  · show Steps p.tables e below (s₁.setTop (mkF m 16 #[.val (.int p0), .val (.int (f5_l1_16001 p0))] [])) _
    refine XS.iloadN X0.here hx rfl (hb hby d5_16) rfl ?_
    show Steps p.tables e below (s₁.setTop (mkF m 17 #[.val (.int p0), .val (.int (f5_l1_16001 p0))] [(.int (f5_l1_16001 p0))])) _
    refine XS.i2l X0.here hx rfl (hb hby d5_17) rfl ?_
    show Steps p.tables e below (s₁.setTop (mkF m 18 #[.val (.int p0), .val (.int (f5_l1_16001 p0))] [(.long ((f5_l1_16001 p0).toInt64))])) _
    jvm_step X0.here [X0.here.top, hx, (hb hby d5_18), X0.method', Bd.returns, narrow]
    first | (intro acts; rw [hr _ acts rfl rfl rfl]) | rw [hr _ _ rfl rfl rfl]
    exact Steps.refl _
  · show Q5 Z p0 h0 n0 _ s₁.heap _
    rw [e0]
    exact ⟨by rw [show f5 p0 = ((f5_l1_16001 p0).toInt64) from by unfold f5; rfl], N0, rfl⟩
theorem pd_0 : parseMethodDescriptor "()V" = some ⟨[], none⟩ := by decide +kernel
theorem pd_1 : parseMethodDescriptor "()J" = some ⟨[], some .long⟩ := by decide +kernel
theorem pd_2 : parseMethodDescriptor "(I)V" = some ⟨[.int], none⟩ := by decide +kernel
theorem pd_3 : parseMethodDescriptor "(I)J" = some ⟨[.int], some .long⟩ := by decide +kernel
theorem ef_0 (m : MethodId) (x0 : Int32) (x1 : Int32) (x2 : Int32) : entryFrame m #[(.int x0), (.int x1), (.int x2)] maxLocals = mkF m 0 #[.val (.int x0), .val (.int x1), .val (.int x2), .unset, .unset, .unset, .unset, .unset, .unset, .unset, .unset, .unset] [] := by first | (simp [entryFrame, mkF, argsToLocals, Value.category, maxLocals]; done) | rfl
def f0_e1 (p0 : Int32) (p1 : Int32) : Int32 := (lcmpW (f3 (f4_sum p1 (f4_sum p0 (0 : Int64)))) ((f3 (f4_sum p0 (0 : Int64))) + (f5 p1)))
def f0_e2 (p0 : Int32) (p1 : Int32) (p2 : Int32) : Int32 := (lcmpW (f3 (f4_sum p2 (f4_sum p1 (f4_sum p0 (0 : Int64))))) ((f3 (f4_sum p1 (f4_sum p0 (0 : Int64)))) + (f5 p2)))
def f0 (p0 : Int32) (p1 : Int32) (p2 : Int32) : Int32 := (if (lcmpW (f3 (0 : Int64)) (0 : Int64)) = (0 : Int32) then (if (lcmpW (f3 (f4_sum p0 (0 : Int64))) (f5 p0)) = (0 : Int32) then (if (f0_e1 p0 p1) = (0 : Int32) then (if (f0_e2 p0 p1 p2) = (0 : Int32) then (1 : Int32) else (0 : Int32)) else (0 : Int32)) else (0 : Int32)) else (0 : Int32))
def Q0 (Z : State) (p0 : Int32) (p1 : Int32) (p2 : Int32) (h0 : Heap) (n0 : Nat) (v : Option Value) (h : Heap) (L : List Loc) : Prop := v = some (.int (f0 p0 p1 p2)) ∧ Fr n0 L
set_option maxRecDepth 65536 in
set_option maxHeartbeats 40000000 in
theorem rm0 (l : Launch) (Z : State) (a0 : Array Value) (hw : ∀ d ∈ tables_1, d.before a0 Z = true) (ws : List Jvm.Cond) (p0 : Int32) (p1 : Int32) (p2 : Int32) (h0 : Heap) (n0 : Nat) (Z0 : n0 ≤ h0.size)  :
    MetFree l x (head1 (Jvm.Cond.code x code maxLocals ret :: ws) room_1) (fun a U => a = #[(.int p0), (.int p1), (.int p2)] ∧ Z.Warmed39 U.vm ∧ U.heap = h0) (fun _ _ _ _ _ => True) (fun _ U o U' => ∃ v L, o = .returned v ∧ Q0 Z p0 p1 p2 h0 n0 v U'.heap L ∧ FrameEnd U o U' L room_1.cells room_1.slots) := by
  refine MetFree.of_bodySF (plainFor_of_name pn_1) hisR ?_
  intro p e s m args below meth c s₁ Bd hml0 hP hK
  obtain ⟨rfl, hZ, hh⟩ := hP
  have hx := Bd.exec
  have hby := Bd.bytes
  have hml : c.maxLocals = 12 := hml0
  have hown : s.vm.findClass "com/example/wireshape/wireshape/model/ByteSumUpdatePinLaw" = some m.cls := findClass_of_methodNamed Bd.named
  have hnm := (name_of_methodNamed Bd.named Bd.method).1
  have X0 : Stand p l e room_1 s m #[(.int p0), (.int p1), (.int p2)] below meth c s₁ [] 0 0 := Stand.of_body Bd
  have e0 : s₁.heap = h0 := by rw [← hh, Bd.state]; rfl
  have N0 := Fr.nil n0
  have K0 := Keep.refl h0 []
  have pre0 : ∀ t, Steps p.tables e below (s₁.setTop (mkF m 0 #[.val (.int p0), .val (.int p1), .val (.int p2), .unset, .unset, .unset, .unset, .unset, .unset, .unset, .unset, .unset] [])) t → Steps p.tables e below (s₁.setTop (entryFrame m #[(.int p0), (.int p1), (.int p2)] maxLocals)) t := fun t k => castTop (ef_0 m p0 p1 p2) k
  obtain ⟨T1, h1, X1, e1, E1, A1, D1, -, st1⟩ := newO X0 hx hZ hown (hw _ (List.mem_of_getElem? (i := 0) rfl)) (hw _ (List.mem_of_getElem? (i := 1) rfl)) (hw _ (List.mem_of_getElem? (i := 2) rfl)) e0 (g := (mkF m 0 #[.val (.int p0), .val (.int p1), .val (.int p2), .unset, .unset, .unset, .unset, .unset, .unset, .unset, .unset, .unset] [])) rfl (hb hby at_0) (by decide) (by decide)
  obtain ⟨b1, g1⟩ : ∃ z, z = h0.size := ⟨_, rfl⟩
  rw [← g1] at A1 D1 st1
  have gn_b1 : n0 ≤ b1 := Nat.le_trans Z0 (Nat.le_of_eq g1.symm)
  have sz_b1 : h0.size ≤ b1 := Nat.le_trans K0.1 (Nat.le_of_eq g1.symm)
  have Zz1 := Nat.le_trans Z0 E1.1
  have K1 := K0.ext E1
  have F_sum_b1 : Fld Z h1 b1 "com/example/wireshape/wireshape/model/ByteSum" "sum" "J" (.long (0 : Int64)) := D1 (Or.inl (hw _ (List.mem_of_getElem? (i := 15) rfl))) (ty := .long) (by decide)
  obtain ⟨_, _, ⟨T2, L2, k2, n2⟩, -, X2, ⟨Lc2, hQ2, l2, y2, z2⟩, st2⟩ := X1.specialBack hx (y := (⟨"com/example/wireshape/wireshape/model/ByteSum", "<init>", "()V"⟩ : MethodName)) rfl hown (mvT hZ (hw _ (List.mem_of_getElem? (i := 3) rfl))) (mvT hZ (hw _ (List.mem_of_getElem? (i := 4) rfl))) (mvT hZ (hw _ (List.mem_of_getElem? (i := 5) rfl))) (by decide) (backOf (W := 1) (rm1 l Z a0 hw [] b1 (0 : Int64) h1 n0 Zz1 A1 gn_b1 F_sum_b1) hZ (hw _ (List.mem_of_getElem? (i := 5) rfl)) (hw _ (List.mem_of_getElem? (i := 2) rfl)) (by decide) (by decide)) (g := (mkF m 4 #[.val (.int p0), .val (.int p1), .val (.int p2), .unset, .unset, .unset, .unset, .unset, .unset, .unset, .unset, .unset] [(.ref b1), (.ref b1)])) rfl (by rw [hml]; rfl) (Steps.refl _) (a := b1) (argsL := []) (rest := [(.ref b1)]) (lenOf pd_0 rfl) rfl (by show 2 * 0 + _ ≤ _; exact Nat.le_of_eq rfl) (hb hby at_4) (fun _ _ => ⟨rfl, e1, (by decide : 1 + 0 ≤ _), (by decide : 1 + 0 ≤ _)⟩)
  dsimp only [Pt.U, Pt.locs, Pt.cells, Pt.slots] at X2 l2 y2 z2 st2 hQ2
  subst l2 y2 z2
  obtain ⟨rfl, N2q, e2⟩ := hQ2
  have N2 := Fr.app N0 N2q
  obtain ⟨cq3, kq3, q3a, q3b, q3c⟩ := isOf hZ e2 A1
  obtain ⟨_, _, ⟨T3, L3, k3, n3⟩, -, X3, ⟨Lc3, hQ3, l3, y3, z3⟩, st3⟩ := X2.virtualBack hx (y := (⟨"com/example/wireshape/wireshape/model/ByteSum", "getValue", "()J"⟩ : MethodName)) (z := (⟨"com/example/wireshape/wireshape/model/ByteSum", "getValue", "()J"⟩ : MethodName)) hown (mvT hZ (hw _ (List.mem_of_getElem? (i := 9) rfl))) (mvT hZ (hw _ (List.mem_of_getElem? (i := 10) rfl))) (notFace_of_selects (args := #[]) (mvT hZ (hw _ (List.mem_of_getElem? (i := 12) rfl)))) (mvT hZ (hw _ (List.mem_of_getElem? (i := 12) rfl))) (mvT hZ (hw _ (List.mem_of_getElem? (i := 11) rfl))) (by decide) (backOf (W := 0) (rm3 l Z a0 hw [] b1 (0 : Int64) h1 n0 Zz1 A1 gn_b1 F_sum_b1) hZ (hw _ (List.mem_of_getElem? (i := 13) rfl)) (hw _ (List.mem_of_getElem? (i := 2) rfl)) (by decide) (by decide)) q3a q3c (g := (mkF m 9 #[.val (.int p0), .val (.int p1), .val (.int p2), .val (.ref b1), .unset, .unset, .unset, .unset, .unset, .unset, .unset, .unset] [(.ref b1)])) rfl (by rw [hml]; rfl) (Steps.refl _) (argsL := []) (rest := []) (lenOf pd_1 rfl) rfl (by show 2 * 0 + _ ≤ _; exact Nat.le_of_eq rfl) (hb hby at_9) (fun _ _ => ⟨rfl, e2, (by decide : 1 + 0 ≤ _), (by decide : 1 + 0 ≤ _)⟩)
  dsimp only [Pt.U, Pt.locs, Pt.cells, Pt.slots] at X3 l3 y3 z3 st3 hQ3
  subst l3 y3 z3
  obtain ⟨rfl, N3q, e3⟩ := hQ3
  have N3 := Fr.app N2 N3q
  obtain ⟨cq4, kq4, q4a, q4b, q4c⟩ := isOf hZ e3 A1
  obtain ⟨_, _, ⟨T4, L4, k4, n4⟩, -, X4, ⟨Lc4, hQ4, l4, y4, z4⟩, st4⟩ := X3.virtualBack hx (y := (⟨"com/example/wireshape/wireshape/model/ByteSum", "update", "(I)V"⟩ : MethodName)) (z := (⟨"com/example/wireshape/wireshape/model/ByteSum", "update", "(I)V"⟩ : MethodName)) hown (mvT hZ (hw _ (List.mem_of_getElem? (i := 16) rfl))) (mvT hZ (hw _ (List.mem_of_getElem? (i := 17) rfl))) (notFace_of_selects (args := #[]) (mvT hZ (hw _ (List.mem_of_getElem? (i := 19) rfl)))) (mvT hZ (hw _ (List.mem_of_getElem? (i := 19) rfl))) (mvT hZ (hw _ (List.mem_of_getElem? (i := 18) rfl))) (by decide) (backOf (W := 0) (rm4 l Z a0 hw [] b1 p0 (0 : Int64) h1 n0 Zz1 A1 gn_b1 F_sum_b1) hZ (hw _ (List.mem_of_getElem? (i := 20) rfl)) (hw _ (List.mem_of_getElem? (i := 2) rfl)) (by decide) (by decide)) q4a q4c (g := (mkF m 16 #[.val (.int p0), .val (.int p1), .val (.int p2), .val (.ref b1), .val (.long (f3 (0 : Int64))), .second, .unset, .unset, .unset, .unset, .unset, .unset] [(.int p0), (.ref b1)])) rfl (by rw [hml]; rfl) (Steps.refl _) (argsL := [(.int p0)]) (rest := []) (lenOf pd_2 rfl) rfl (by show 2 * 0 + _ ≤ _; exact Nat.le_of_eq rfl) (hb hby at_16) (fun _ _ => ⟨rfl, e3, (by decide : 1 + 0 ≤ _), (by decide : 1 + 0 ≤ _)⟩)
  dsimp only [Pt.U, Pt.locs, Pt.cells, Pt.slots] at X4 l4 y4 z4 st4 hQ4
  subst l4 y4 z4
  obtain ⟨rfl, N4q, K4q, E4q, F4q_sum⟩ := hQ4
  have Zz4 := Nat.le_trans Zz1 K4q.1
  have K4 : Keep h0 T4.heap [] := K1.trans K4q (allS (Or.inr sz_b1) all0)
  have N4 := Fr.app N3 N4q
  obtain ⟨cq5, kq5, q5a, q5b, q5c⟩ := isOf hZ rfl E4q
  obtain ⟨_, _, ⟨T5, L5, k5, n5⟩, -, X5, ⟨Lc5, hQ5, l5, y5, z5⟩, st5⟩ := X4.virtualBack hx (y := (⟨"com/example/wireshape/wireshape/model/ByteSum", "getValue", "()J"⟩ : MethodName)) (z := (⟨"com/example/wireshape/wireshape/model/ByteSum", "getValue", "()J"⟩ : MethodName)) hown (mvT hZ (hw _ (List.mem_of_getElem? (i := 9) rfl))) (mvT hZ (hw _ (List.mem_of_getElem? (i := 10) rfl))) (notFace_of_selects (args := #[]) (mvT hZ (hw _ (List.mem_of_getElem? (i := 12) rfl)))) (mvT hZ (hw _ (List.mem_of_getElem? (i := 12) rfl))) (mvT hZ (hw _ (List.mem_of_getElem? (i := 11) rfl))) (by decide) (backOf (W := 0) (rm3 l Z a0 hw [] b1 (f4_sum p0 (0 : Int64)) T4.heap n0 Zz4 E4q gn_b1 F4q_sum) hZ (hw _ (List.mem_of_getElem? (i := 13) rfl)) (hw _ (List.mem_of_getElem? (i := 2) rfl)) (by decide) (by decide)) q5a q5c (g := (mkF m 20 #[.val (.int p0), .val (.int p1), .val (.int p2), .val (.ref b1), .val (.long (f3 (0 : Int64))), .second, .unset, .unset, .unset, .unset, .unset, .unset] [(.ref b1)])) rfl (by rw [hml]; rfl) (Steps.refl _) (argsL := []) (rest := []) (lenOf pd_1 rfl) rfl (by show 2 * 0 + _ ≤ _; exact Nat.le_of_eq rfl) (hb hby at_20) (fun _ _ => ⟨rfl, rfl, (by decide : 1 + 0 ≤ _), (by decide : 1 + 0 ≤ _)⟩)
  dsimp only [Pt.U, Pt.locs, Pt.cells, Pt.slots] at X5 l5 y5 z5 st5 hQ5
  subst l5 y5 z5
  obtain ⟨rfl, N5q, e5⟩ := hQ5
  have N5 := Fr.app N4 N5q
  obtain ⟨cq6, kq6, q6a, q6b, q6c⟩ := isOf hZ e5 E4q
  obtain ⟨_, _, ⟨T6, L6, k6, n6⟩, -, X6, ⟨Lc6, hQ6, l6, y6, z6⟩, st6⟩ := X5.virtualBack hx (y := (⟨"com/example/wireshape/wireshape/model/ByteSum", "update", "(I)V"⟩ : MethodName)) (z := (⟨"com/example/wireshape/wireshape/model/ByteSum", "update", "(I)V"⟩ : MethodName)) hown (mvT hZ (hw _ (List.mem_of_getElem? (i := 16) rfl))) (mvT hZ (hw _ (List.mem_of_getElem? (i := 17) rfl))) (notFace_of_selects (args := #[]) (mvT hZ (hw _ (List.mem_of_getElem? (i := 19) rfl)))) (mvT hZ (hw _ (List.mem_of_getElem? (i := 19) rfl))) (mvT hZ (hw _ (List.mem_of_getElem? (i := 18) rfl))) (by decide) (backOf (W := 0) (rm4 l Z a0 hw [] b1 p1 (f4_sum p0 (0 : Int64)) T4.heap n0 Zz4 E4q gn_b1 F4q_sum) hZ (hw _ (List.mem_of_getElem? (i := 20) rfl)) (hw _ (List.mem_of_getElem? (i := 2) rfl)) (by decide) (by decide)) q6a q6c (g := (mkF m 27 #[.val (.int p0), .val (.int p1), .val (.int p2), .val (.ref b1), .val (.long (f3 (0 : Int64))), .second, .val (.long (f3 (f4_sum p0 (0 : Int64)))), .second, .unset, .unset, .unset, .unset] [(.int p1), (.ref b1)])) rfl (by rw [hml]; rfl) (Steps.refl _) (argsL := [(.int p1)]) (rest := []) (lenOf pd_2 rfl) rfl (by show 2 * 0 + _ ≤ _; exact Nat.le_of_eq rfl) (hb hby at_27) (fun _ _ => ⟨rfl, e5, (by decide : 1 + 0 ≤ _), (by decide : 1 + 0 ≤ _)⟩)
  dsimp only [Pt.U, Pt.locs, Pt.cells, Pt.slots] at X6 l6 y6 z6 st6 hQ6
  subst l6 y6 z6
  obtain ⟨rfl, N6q, K6q, E6q, F6q_sum⟩ := hQ6
  have Zz6 := Nat.le_trans Zz4 K6q.1
  have K6 : Keep h0 T6.heap [] := K4.trans K6q (allS (Or.inr sz_b1) all0)
  have N6 := Fr.app N5 N6q
  obtain ⟨cq7, kq7, q7a, q7b, q7c⟩ := isOf hZ rfl E6q
  obtain ⟨_, _, ⟨T7, L7, k7, n7⟩, -, X7, ⟨Lc7, hQ7, l7, y7, z7⟩, st7⟩ := X6.virtualBack hx (y := (⟨"com/example/wireshape/wireshape/model/ByteSum", "getValue", "()J"⟩ : MethodName)) (z := (⟨"com/example/wireshape/wireshape/model/ByteSum", "getValue", "()J"⟩ : MethodName)) hown (mvT hZ (hw _ (List.mem_of_getElem? (i := 9) rfl))) (mvT hZ (hw _ (List.mem_of_getElem? (i := 10) rfl))) (notFace_of_selects (args := #[]) (mvT hZ (hw _ (List.mem_of_getElem? (i := 12) rfl)))) (mvT hZ (hw _ (List.mem_of_getElem? (i := 12) rfl))) (mvT hZ (hw _ (List.mem_of_getElem? (i := 11) rfl))) (by decide) (backOf (W := 0) (rm3 l Z a0 hw [] b1 (f4_sum p1 (f4_sum p0 (0 : Int64))) T6.heap n0 Zz6 E6q gn_b1 F6q_sum) hZ (hw _ (List.mem_of_getElem? (i := 13) rfl)) (hw _ (List.mem_of_getElem? (i := 2) rfl)) (by decide) (by decide)) q7a q7c (g := (mkF m 31 #[.val (.int p0), .val (.int p1), .val (.int p2), .val (.ref b1), .val (.long (f3 (0 : Int64))), .second, .val (.long (f3 (f4_sum p0 (0 : Int64)))), .second, .unset, .unset, .unset, .unset] [(.ref b1)])) rfl (by rw [hml]; rfl) (Steps.refl _) (argsL := []) (rest := []) (lenOf pd_1 rfl) rfl (by show 2 * 0 + _ ≤ _; exact Nat.le_of_eq rfl) (hb hby at_31) (fun _ _ => ⟨rfl, rfl, (by decide : 1 + 0 ≤ _), (by decide : 1 + 0 ≤ _)⟩)
  dsimp only [Pt.U, Pt.locs, Pt.cells, Pt.slots] at X7 l7 y7 z7 st7 hQ7
  subst l7 y7 z7
  obtain ⟨rfl, N7q, e7⟩ := hQ7
  have N7 := Fr.app N6 N7q
  obtain ⟨cq8, kq8, q8a, q8b, q8c⟩ := isOf hZ e7 E6q
  obtain ⟨_, _, ⟨T8, L8, k8, n8⟩, -, X8, ⟨Lc8, hQ8, l8, y8, z8⟩, st8⟩ := X7.virtualBack hx (y := (⟨"com/example/wireshape/wireshape/model/ByteSum", "update", "(I)V"⟩ : MethodName)) (z := (⟨"com/example/wireshape/wireshape/model/ByteSum", "update", "(I)V"⟩ : MethodName)) hown (mvT hZ (hw _ (List.mem_of_getElem? (i := 16) rfl))) (mvT hZ (hw _ (List.mem_of_getElem? (i := 17) rfl))) (notFace_of_selects (args := #[]) (mvT hZ (hw _ (List.mem_of_getElem? (i := 19) rfl)))) (mvT hZ (hw _ (List.mem_of_getElem? (i := 19) rfl))) (mvT hZ (hw _ (List.mem_of_getElem? (i := 18) rfl))) (by decide) (backOf (W := 0) (rm4 l Z a0 hw [] b1 p2 (f4_sum p1 (f4_sum p0 (0 : Int64))) T6.heap n0 Zz6 E6q gn_b1 F6q_sum) hZ (hw _ (List.mem_of_getElem? (i := 20) rfl)) (hw _ (List.mem_of_getElem? (i := 2) rfl)) (by decide) (by decide)) q8a q8c (g := (mkF m 38 #[.val (.int p0), .val (.int p1), .val (.int p2), .val (.ref b1), .val (.long (f3 (0 : Int64))), .second, .val (.long (f3 (f4_sum p0 (0 : Int64)))), .second, .val (.long (f3 (f4_sum p1 (f4_sum p0 (0 : Int64))))), .second, .unset, .unset] [(.int p2), (.ref b1)])) rfl (by rw [hml]; rfl) (Steps.refl _) (argsL := [(.int p2)]) (rest := []) (lenOf pd_2 rfl) rfl (by show 2 * 0 + _ ≤ _; exact Nat.le_of_eq rfl) (hb hby at_38) (fun _ _ => ⟨rfl, e7, (by decide : 1 + 0 ≤ _), (by decide : 1 + 0 ≤ _)⟩)
  dsimp only [Pt.U, Pt.locs, Pt.cells, Pt.slots] at X8 l8 y8 z8 st8 hQ8
  subst l8 y8 z8
  obtain ⟨rfl, N8q, K8q, E8q, F8q_sum⟩ := hQ8
  have Zz8 := Nat.le_trans Zz6 K8q.1
  have K8 : Keep h0 T8.heap [] := K6.trans K8q (allS (Or.inr sz_b1) all0)
  have N8 := Fr.app N7 N8q
  obtain ⟨cq9, kq9, q9a, q9b, q9c⟩ := isOf hZ rfl E8q
  obtain ⟨_, _, ⟨T9, L9, k9, n9⟩, -, X9, ⟨Lc9, hQ9, l9, y9, z9⟩, st9⟩ := X8.virtualBack hx (y := (⟨"com/example/wireshape/wireshape/model/ByteSum", "getValue", "()J"⟩ : MethodName)) (z := (⟨"com/example/wireshape/wireshape/model/ByteSum", "getValue", "()J"⟩ : MethodName)) hown (mvT hZ (hw _ (List.mem_of_getElem? (i := 9) rfl))) (mvT hZ (hw _ (List.mem_of_getElem? (i := 10) rfl))) (notFace_of_selects (args := #[]) (mvT hZ (hw _ (List.mem_of_getElem? (i := 12) rfl)))) (mvT hZ (hw _ (List.mem_of_getElem? (i := 12) rfl))) (mvT hZ (hw _ (List.mem_of_getElem? (i := 11) rfl))) (by decide) (backOf (W := 0) (rm3 l Z a0 hw [] b1 (f4_sum p2 (f4_sum p1 (f4_sum p0 (0 : Int64)))) T8.heap n0 Zz8 E8q gn_b1 F8q_sum) hZ (hw _ (List.mem_of_getElem? (i := 13) rfl)) (hw _ (List.mem_of_getElem? (i := 2) rfl)) (by decide) (by decide)) q9a q9c (g := (mkF m 42 #[.val (.int p0), .val (.int p1), .val (.int p2), .val (.ref b1), .val (.long (f3 (0 : Int64))), .second, .val (.long (f3 (f4_sum p0 (0 : Int64)))), .second, .val (.long (f3 (f4_sum p1 (f4_sum p0 (0 : Int64))))), .second, .unset, .unset] [(.ref b1)])) rfl (by rw [hml]; rfl) (Steps.refl _) (argsL := []) (rest := []) (lenOf pd_1 rfl) rfl (by show 2 * 0 + _ ≤ _; exact Nat.le_of_eq rfl) (hb hby at_42) (fun _ _ => ⟨rfl, rfl, (by decide : 1 + 0 ≤ _), (by decide : 1 + 0 ≤ _)⟩)
  dsimp only [Pt.U, Pt.locs, Pt.cells, Pt.slots] at X9 l9 y9 z9 st9 hQ9
  subst l9 y9 z9
  obtain ⟨rfl, N9q, e9⟩ := hQ9
  have N9 := Fr.app N8 N9q
  have pre10 : ∀ t, Steps p.tables e below (T9.setTop (mkF m 51 #[.val (.int p0), .val (.int p1), .val (.int p2), .val (.ref b1), .val (.long (f3 (0 : Int64))), .second, .val (.long (f3 (f4_sum p0 (0 : Int64)))), .second, .val (.long (f3 (f4_sum p1 (f4_sum p0 (0 : Int64))))), .second, .val (.long (f3 (f4_sum p2 (f4_sum p1 (f4_sum p0 (0 : Int64)))))), .second] [(.int (lcmpW (f3 (0 : Int64)) (0 : Int64)))])) t → Steps p.tables e below (s₁.setTop (entryFrame m #[(.int p0), (.int p1), (.int p2)] maxLocals)) t := fun t kt => pre0 t (by
    show Steps p.tables e below (s₁.setTop (mkF m 0 #[.val (.int p0), .val (.int p1), .val (.int p2), .unset, .unset, .unset, .unset, .unset, .unset, .unset, .unset, .unset] [])) _
    refine st1 _ ?_
    show Steps p.tables e below (T1.setTop (mkF m 3 #[.val (.int p0), .val (.int p1), .val (.int p2), .unset, .unset, .unset, .unset, .unset, .unset, .unset, .unset, .unset] [(.ref b1)])) _
    refine XS.dup X1.here hx rfl (hb hby at_3) rfl rfl ?_
    show Steps p.tables e below (T1.setTop (mkF m 4 #[.val (.int p0), .val (.int p1), .val (.int p2), .unset, .unset, .unset, .unset, .unset, .unset, .unset, .unset, .unset] [(.ref b1), (.ref b1)])) _
    refine st2.trans ?_
    show Steps p.tables e below (T2.setTop (mkF m 7 #[.val (.int p0), .val (.int p1), .val (.int p2), .unset, .unset, .unset, .unset, .unset, .unset, .unset, .unset, .unset] [(.ref b1)])) _
    refine XS.astoreN X2.here hx rfl (hb hby at_7) rfl rfl (l' := #[.val (.int p0), .val (.int p1), .val (.int p2), .val (.ref b1), .unset, .unset, .unset, .unset, .unset, .unset, .unset, .unset]) rfl ?_
    show Steps p.tables e below (T2.setTop (mkF m 8 #[.val (.int p0), .val (.int p1), .val (.int p2), .val (.ref b1), .unset, .unset, .unset, .unset, .unset, .unset, .unset, .unset] [])) _
    refine XS.aloadN X2.here hx rfl (hb hby at_8) rfl rfl ?_
    show Steps p.tables e below (T2.setTop (mkF m 9 #[.val (.int p0), .val (.int p1), .val (.int p2), .val (.ref b1), .unset, .unset, .unset, .unset, .unset, .unset, .unset, .unset] [(.ref b1)])) _
    refine st3.trans ?_
    show Steps p.tables e below (T3.setTop (mkF m 12 #[.val (.int p0), .val (.int p1), .val (.int p2), .val (.ref b1), .unset, .unset, .unset, .unset, .unset, .unset, .unset, .unset] [(.long (f3 (0 : Int64)))])) _
    refine XS.lstore X3.here hx rfl (hb hby at_12) rfl (l' := #[.val (.int p0), .val (.int p1), .val (.int p2), .val (.ref b1), .val (.long (f3 (0 : Int64))), .second, .unset, .unset, .unset, .unset, .unset, .unset]) rfl ?_
    show Steps p.tables e below (T3.setTop (mkF m 14 #[.val (.int p0), .val (.int p1), .val (.int p2), .val (.ref b1), .val (.long (f3 (0 : Int64))), .second, .unset, .unset, .unset, .unset, .unset, .unset] [])) _
    refine XS.aloadN X3.here hx rfl (hb hby at_14) rfl rfl ?_
    show Steps p.tables e below (T3.setTop (mkF m 15 #[.val (.int p0), .val (.int p1), .val (.int p2), .val (.ref b1), .val (.long (f3 (0 : Int64))), .second, .unset, .unset, .unset, .unset, .unset, .unset] [(.ref b1)])) _
    refine XS.iloadN X3.here hx rfl (hb hby at_15) rfl ?_
    show Steps p.tables e below (T3.setTop (mkF m 16 #[.val (.int p0), .val (.int p1), .val (.int p2), .val (.ref b1), .val (.long (f3 (0 : Int64))), .second, .unset, .unset, .unset, .unset, .unset, .unset] [(.int p0), (.ref b1)])) _
    refine st4.trans ?_
    show Steps p.tables e below (T4.setTop (mkF m 19 #[.val (.int p0), .val (.int p1), .val (.int p2), .val (.ref b1), .val (.long (f3 (0 : Int64))), .second, .unset, .unset, .unset, .unset, .unset, .unset] [])) _
    refine XS.aloadN X4.here hx rfl (hb hby at_19) rfl rfl ?_
    show Steps p.tables e below (T4.setTop (mkF m 20 #[.val (.int p0), .val (.int p1), .val (.int p2), .val (.ref b1), .val (.long (f3 (0 : Int64))), .second, .unset, .unset, .unset, .unset, .unset, .unset] [(.ref b1)])) _
    refine st5.trans ?_
    show Steps p.tables e below (T5.setTop (mkF m 23 #[.val (.int p0), .val (.int p1), .val (.int p2), .val (.ref b1), .val (.long (f3 (0 : Int64))), .second, .unset, .unset, .unset, .unset, .unset, .unset] [(.long (f3 (f4_sum p0 (0 : Int64))))])) _
    refine XS.lstore X5.here hx rfl (hb hby at_23) rfl (l' := #[.val (.int p0), .val (.int p1), .val (.int p2), .val (.ref b1), .val (.long (f3 (0 : Int64))), .second, .val (.long (f3 (f4_sum p0 (0 : Int64)))), .second, .unset, .unset, .unset, .unset]) rfl ?_
    show Steps p.tables e below (T5.setTop (mkF m 25 #[.val (.int p0), .val (.int p1), .val (.int p2), .val (.ref b1), .val (.long (f3 (0 : Int64))), .second, .val (.long (f3 (f4_sum p0 (0 : Int64)))), .second, .unset, .unset, .unset, .unset] [])) _
    refine XS.aloadN X5.here hx rfl (hb hby at_25) rfl rfl ?_
    show Steps p.tables e below (T5.setTop (mkF m 26 #[.val (.int p0), .val (.int p1), .val (.int p2), .val (.ref b1), .val (.long (f3 (0 : Int64))), .second, .val (.long (f3 (f4_sum p0 (0 : Int64)))), .second, .unset, .unset, .unset, .unset] [(.ref b1)])) _
    refine XS.iloadN X5.here hx rfl (hb hby at_26) rfl ?_
    show Steps p.tables e below (T5.setTop (mkF m 27 #[.val (.int p0), .val (.int p1), .val (.int p2), .val (.ref b1), .val (.long (f3 (0 : Int64))), .second, .val (.long (f3 (f4_sum p0 (0 : Int64)))), .second, .unset, .unset, .unset, .unset] [(.int p1), (.ref b1)])) _
    refine st6.trans ?_
    show Steps p.tables e below (T6.setTop (mkF m 30 #[.val (.int p0), .val (.int p1), .val (.int p2), .val (.ref b1), .val (.long (f3 (0 : Int64))), .second, .val (.long (f3 (f4_sum p0 (0 : Int64)))), .second, .unset, .unset, .unset, .unset] [])) _
    refine XS.aloadN X6.here hx rfl (hb hby at_30) rfl rfl ?_
    show Steps p.tables e below (T6.setTop (mkF m 31 #[.val (.int p0), .val (.int p1), .val (.int p2), .val (.ref b1), .val (.long (f3 (0 : Int64))), .second, .val (.long (f3 (f4_sum p0 (0 : Int64)))), .second, .unset, .unset, .unset, .unset] [(.ref b1)])) _
    refine st7.trans ?_
    show Steps p.tables e below (T7.setTop (mkF m 34 #[.val (.int p0), .val (.int p1), .val (.int p2), .val (.ref b1), .val (.long (f3 (0 : Int64))), .second, .val (.long (f3 (f4_sum p0 (0 : Int64)))), .second, .unset, .unset, .unset, .unset] [(.long (f3 (f4_sum p1 (f4_sum p0 (0 : Int64)))))])) _
    refine XS.lstore X7.here hx rfl (hb hby at_34) rfl (l' := #[.val (.int p0), .val (.int p1), .val (.int p2), .val (.ref b1), .val (.long (f3 (0 : Int64))), .second, .val (.long (f3 (f4_sum p0 (0 : Int64)))), .second, .val (.long (f3 (f4_sum p1 (f4_sum p0 (0 : Int64))))), .second, .unset, .unset]) rfl ?_
    show Steps p.tables e below (T7.setTop (mkF m 36 #[.val (.int p0), .val (.int p1), .val (.int p2), .val (.ref b1), .val (.long (f3 (0 : Int64))), .second, .val (.long (f3 (f4_sum p0 (0 : Int64)))), .second, .val (.long (f3 (f4_sum p1 (f4_sum p0 (0 : Int64))))), .second, .unset, .unset] [])) _
    refine XS.aloadN X7.here hx rfl (hb hby at_36) rfl rfl ?_
    show Steps p.tables e below (T7.setTop (mkF m 37 #[.val (.int p0), .val (.int p1), .val (.int p2), .val (.ref b1), .val (.long (f3 (0 : Int64))), .second, .val (.long (f3 (f4_sum p0 (0 : Int64)))), .second, .val (.long (f3 (f4_sum p1 (f4_sum p0 (0 : Int64))))), .second, .unset, .unset] [(.ref b1)])) _
    refine XS.iloadN X7.here hx rfl (hb hby at_37) rfl ?_
    show Steps p.tables e below (T7.setTop (mkF m 38 #[.val (.int p0), .val (.int p1), .val (.int p2), .val (.ref b1), .val (.long (f3 (0 : Int64))), .second, .val (.long (f3 (f4_sum p0 (0 : Int64)))), .second, .val (.long (f3 (f4_sum p1 (f4_sum p0 (0 : Int64))))), .second, .unset, .unset] [(.int p2), (.ref b1)])) _
    refine st8.trans ?_
    show Steps p.tables e below (T8.setTop (mkF m 41 #[.val (.int p0), .val (.int p1), .val (.int p2), .val (.ref b1), .val (.long (f3 (0 : Int64))), .second, .val (.long (f3 (f4_sum p0 (0 : Int64)))), .second, .val (.long (f3 (f4_sum p1 (f4_sum p0 (0 : Int64))))), .second, .unset, .unset] [])) _
    refine XS.aloadN X8.here hx rfl (hb hby at_41) rfl rfl ?_
    show Steps p.tables e below (T8.setTop (mkF m 42 #[.val (.int p0), .val (.int p1), .val (.int p2), .val (.ref b1), .val (.long (f3 (0 : Int64))), .second, .val (.long (f3 (f4_sum p0 (0 : Int64)))), .second, .val (.long (f3 (f4_sum p1 (f4_sum p0 (0 : Int64))))), .second, .unset, .unset] [(.ref b1)])) _
    refine st9.trans ?_
    show Steps p.tables e below (T9.setTop (mkF m 45 #[.val (.int p0), .val (.int p1), .val (.int p2), .val (.ref b1), .val (.long (f3 (0 : Int64))), .second, .val (.long (f3 (f4_sum p0 (0 : Int64)))), .second, .val (.long (f3 (f4_sum p1 (f4_sum p0 (0 : Int64))))), .second, .unset, .unset] [(.long (f3 (f4_sum p2 (f4_sum p1 (f4_sum p0 (0 : Int64))))))])) _
    refine XS.lstore X9.here hx rfl (hb hby at_45) rfl (l' := #[.val (.int p0), .val (.int p1), .val (.int p2), .val (.ref b1), .val (.long (f3 (0 : Int64))), .second, .val (.long (f3 (f4_sum p0 (0 : Int64)))), .second, .val (.long (f3 (f4_sum p1 (f4_sum p0 (0 : Int64))))), .second, .val (.long (f3 (f4_sum p2 (f4_sum p1 (f4_sum p0 (0 : Int64)))))), .second]) rfl ?_
    show Steps p.tables e below (T9.setTop (mkF m 47 #[.val (.int p0), .val (.int p1), .val (.int p2), .val (.ref b1), .val (.long (f3 (0 : Int64))), .second, .val (.long (f3 (f4_sum p0 (0 : Int64)))), .second, .val (.long (f3 (f4_sum p1 (f4_sum p0 (0 : Int64))))), .second, .val (.long (f3 (f4_sum p2 (f4_sum p1 (f4_sum p0 (0 : Int64)))))), .second] [])) _
    refine XS.lload X9.here hx rfl (hb hby at_47) rfl ?_
    show Steps p.tables e below (T9.setTop (mkF m 49 #[.val (.int p0), .val (.int p1), .val (.int p2), .val (.ref b1), .val (.long (f3 (0 : Int64))), .second, .val (.long (f3 (f4_sum p0 (0 : Int64)))), .second, .val (.long (f3 (f4_sum p1 (f4_sum p0 (0 : Int64))))), .second, .val (.long (f3 (f4_sum p2 (f4_sum p1 (f4_sum p0 (0 : Int64)))))), .second] [(.long (f3 (0 : Int64)))])) _
    refine XS.lconst X9.here hx rfl (hb hby at_49) ?_
    show Steps p.tables e below (T9.setTop (mkF m 50 #[.val (.int p0), .val (.int p1), .val (.int p2), .val (.ref b1), .val (.long (f3 (0 : Int64))), .second, .val (.long (f3 (f4_sum p0 (0 : Int64)))), .second, .val (.long (f3 (f4_sum p1 (f4_sum p0 (0 : Int64))))), .second, .val (.long (f3 (f4_sum p2 (f4_sum p1 (f4_sum p0 (0 : Int64)))))), .second] [(.long (0 : Int64)), (.long (f3 (0 : Int64)))])) _
    refine XS.lcmp X9.here hx rfl (hb hby at_50) rfl ?_
    exact kt)
  by_cases hc11 : (lcmpW (f3 (0 : Int64)) (0 : Int64)) = (0 : Int32)
  · obtain ⟨_, _, ⟨T12, L12, k12, n12⟩, -, X12, ⟨Lc12, hQ12, l12, y12, z12⟩, st12⟩ := Jvm.LawKit.callS X9 hx (y := (⟨"com/example/wireshape/wireshape/model/ByteSumUpdatePinLaw", "low", "(I)J"⟩ : MethodName)) hown (mvT hZ (hw _ (List.mem_of_getElem? (i := 21) rfl))) (mvT hZ (hw _ (List.mem_of_getElem? (i := 22) rfl))) (mvT hZ (hw _ (List.mem_of_getElem? (i := 23) rfl))) (mvT hZ (hw _ (List.mem_of_getElem? (i := 24) rfl))) (by decide) (backOf (W := 2) (rm5 l Z a0 hw [] p0 T8.heap n0 Zz8) hZ (hw _ (List.mem_of_getElem? (i := 24) rfl)) (hw _ (List.mem_of_getElem? (i := 23) rfl)) (by decide) (by decide)) (g := (mkF m 57 #[.val (.int p0), .val (.int p1), .val (.int p2), .val (.ref b1), .val (.long (f3 (0 : Int64))), .second, .val (.long (f3 (f4_sum p0 (0 : Int64)))), .second, .val (.long (f3 (f4_sum p1 (f4_sum p0 (0 : Int64))))), .second, .val (.long (f3 (f4_sum p2 (f4_sum p1 (f4_sum p0 (0 : Int64)))))), .second] [(.int p0), (.long (f3 (f4_sum p0 (0 : Int64))))])) rfl (by rw [hml]; rfl) (argsL := [(.int p0)]) (rest := [(.long (f3 (f4_sum p0 (0 : Int64))))]) (lenOf pd_3 rfl) rfl (by show 2 * 0 + _ ≤ _; exact Nat.le_of_eq rfl) (hb hby at_57) (fun _ _ => ⟨rfl, e9, (by decide : 1 + 0 ≤ _), (by decide : 1 + 0 ≤ _)⟩)
    dsimp only [Pt.U, Pt.locs, Pt.cells, Pt.slots] at X12 l12 y12 z12 st12 hQ12
    subst l12 y12 z12
    obtain ⟨rfl, N12q, e12⟩ := hQ12
    have N12 := Fr.app N9 N12q
    have pre13 : ∀ t, Steps p.tables e below (T12.setTop (mkF m 61 #[.val (.int p0), .val (.int p1), .val (.int p2), .val (.ref b1), .val (.long (f3 (0 : Int64))), .second, .val (.long (f3 (f4_sum p0 (0 : Int64)))), .second, .val (.long (f3 (f4_sum p1 (f4_sum p0 (0 : Int64))))), .second, .val (.long (f3 (f4_sum p2 (f4_sum p1 (f4_sum p0 (0 : Int64)))))), .second] [(.int (lcmpW (f3 (f4_sum p0 (0 : Int64))) (f5 p0)))])) t → Steps p.tables e below (s₁.setTop (entryFrame m #[(.int p0), (.int p1), (.int p2)] maxLocals)) t := fun t kt => pre10 t (by
      show Steps p.tables e below (T9.setTop (mkF m 51 #[.val (.int p0), .val (.int p1), .val (.int p2), .val (.ref b1), .val (.long (f3 (0 : Int64))), .second, .val (.long (f3 (f4_sum p0 (0 : Int64)))), .second, .val (.long (f3 (f4_sum p1 (f4_sum p0 (0 : Int64))))), .second, .val (.long (f3 (f4_sum p2 (f4_sum p1 (f4_sum p0 (0 : Int64)))))), .second] [(.int (lcmpW (f3 (0 : Int64)) (0 : Int64)))])) _
      refine XS.ifNo X9.here hx rfl (hb hby at_51) rfl ((if0 _ _).trans (teq hc11).2) ?_
      show Steps p.tables e below (T9.setTop (mkF m 54 #[.val (.int p0), .val (.int p1), .val (.int p2), .val (.ref b1), .val (.long (f3 (0 : Int64))), .second, .val (.long (f3 (f4_sum p0 (0 : Int64)))), .second, .val (.long (f3 (f4_sum p1 (f4_sum p0 (0 : Int64))))), .second, .val (.long (f3 (f4_sum p2 (f4_sum p1 (f4_sum p0 (0 : Int64)))))), .second] [])) _
      refine XS.lload X9.here hx rfl (hb hby at_54) rfl ?_
      show Steps p.tables e below (T9.setTop (mkF m 56 #[.val (.int p0), .val (.int p1), .val (.int p2), .val (.ref b1), .val (.long (f3 (0 : Int64))), .second, .val (.long (f3 (f4_sum p0 (0 : Int64)))), .second, .val (.long (f3 (f4_sum p1 (f4_sum p0 (0 : Int64))))), .second, .val (.long (f3 (f4_sum p2 (f4_sum p1 (f4_sum p0 (0 : Int64)))))), .second] [(.long (f3 (f4_sum p0 (0 : Int64))))])) _
      refine XS.iloadN X9.here hx rfl (hb hby at_56) rfl ?_
      show Steps p.tables e below (T9.setTop (mkF m 57 #[.val (.int p0), .val (.int p1), .val (.int p2), .val (.ref b1), .val (.long (f3 (0 : Int64))), .second, .val (.long (f3 (f4_sum p0 (0 : Int64)))), .second, .val (.long (f3 (f4_sum p1 (f4_sum p0 (0 : Int64))))), .second, .val (.long (f3 (f4_sum p2 (f4_sum p1 (f4_sum p0 (0 : Int64)))))), .second] [(.int p0), (.long (f3 (f4_sum p0 (0 : Int64))))])) _
      refine st12 _ ?_
      show Steps p.tables e below (T12.setTop (mkF m 60 #[.val (.int p0), .val (.int p1), .val (.int p2), .val (.ref b1), .val (.long (f3 (0 : Int64))), .second, .val (.long (f3 (f4_sum p0 (0 : Int64)))), .second, .val (.long (f3 (f4_sum p1 (f4_sum p0 (0 : Int64))))), .second, .val (.long (f3 (f4_sum p2 (f4_sum p1 (f4_sum p0 (0 : Int64)))))), .second] [(.long (f5 p0)), (.long (f3 (f4_sum p0 (0 : Int64))))])) _
      refine XS.lcmp X12.here hx rfl (hb hby at_60) rfl ?_
      exact kt)
    by_cases hc14 : (lcmpW (f3 (f4_sum p0 (0 : Int64))) (f5 p0)) = (0 : Int32)
    · obtain ⟨_, _, ⟨T15, L15, k15, n15⟩, -, X15, ⟨Lc15, hQ15, l15, y15, z15⟩, st15⟩ := Jvm.LawKit.callS X12 hx (y := (⟨"com/example/wireshape/wireshape/model/ByteSumUpdatePinLaw", "low", "(I)J"⟩ : MethodName)) hown (mvT hZ (hw _ (List.mem_of_getElem? (i := 21) rfl))) (mvT hZ (hw _ (List.mem_of_getElem? (i := 22) rfl))) (mvT hZ (hw _ (List.mem_of_getElem? (i := 23) rfl))) (mvT hZ (hw _ (List.mem_of_getElem? (i := 24) rfl))) (by decide) (backOf (W := 4) (rm5 l Z a0 hw [] p1 T8.heap n0 Zz8) hZ (hw _ (List.mem_of_getElem? (i := 24) rfl)) (hw _ (List.mem_of_getElem? (i := 23) rfl)) (by decide) (by decide)) (g := (mkF m 69 #[.val (.int p0), .val (.int p1), .val (.int p2), .val (.ref b1), .val (.long (f3 (0 : Int64))), .second, .val (.long (f3 (f4_sum p0 (0 : Int64)))), .second, .val (.long (f3 (f4_sum p1 (f4_sum p0 (0 : Int64))))), .second, .val (.long (f3 (f4_sum p2 (f4_sum p1 (f4_sum p0 (0 : Int64)))))), .second] [(.int p1), (.long (f3 (f4_sum p0 (0 : Int64)))), (.long (f3 (f4_sum p1 (f4_sum p0 (0 : Int64)))))])) rfl (by rw [hml]; rfl) (argsL := [(.int p1)]) (rest := [(.long (f3 (f4_sum p0 (0 : Int64)))), (.long (f3 (f4_sum p1 (f4_sum p0 (0 : Int64)))))]) (lenOf pd_3 rfl) rfl (by show 2 * 0 + _ ≤ _; exact Nat.le_of_eq rfl) (hb hby at_69) (fun _ _ => ⟨rfl, e12, (by decide : 1 + 0 ≤ _), (by decide : 1 + 0 ≤ _)⟩)
      dsimp only [Pt.U, Pt.locs, Pt.cells, Pt.slots] at X15 l15 y15 z15 st15 hQ15
      subst l15 y15 z15
      obtain ⟨rfl, N15q, e15⟩ := hQ15
      have N15 := Fr.app N12 N15q
      have pre16 : ∀ t, Steps p.tables e below (T15.setTop (mkF m 74 #[.val (.int p0), .val (.int p1), .val (.int p2), .val (.ref b1), .val (.long (f3 (0 : Int64))), .second, .val (.long (f3 (f4_sum p0 (0 : Int64)))), .second, .val (.long (f3 (f4_sum p1 (f4_sum p0 (0 : Int64))))), .second, .val (.long (f3 (f4_sum p2 (f4_sum p1 (f4_sum p0 (0 : Int64)))))), .second] [(.int (f0_e1 p0 p1))])) t → Steps p.tables e below (s₁.setTop (entryFrame m #[(.int p0), (.int p1), (.int p2)] maxLocals)) t := fun t kt => pre13 t (by
        show Steps p.tables e below (T12.setTop (mkF m 61 #[.val (.int p0), .val (.int p1), .val (.int p2), .val (.ref b1), .val (.long (f3 (0 : Int64))), .second, .val (.long (f3 (f4_sum p0 (0 : Int64)))), .second, .val (.long (f3 (f4_sum p1 (f4_sum p0 (0 : Int64))))), .second, .val (.long (f3 (f4_sum p2 (f4_sum p1 (f4_sum p0 (0 : Int64)))))), .second] [(.int (lcmpW (f3 (f4_sum p0 (0 : Int64))) (f5 p0)))])) _
        refine XS.ifNo X12.here hx rfl (hb hby at_61) rfl ((if0 _ _).trans (teq hc14).2) ?_
        show Steps p.tables e below (T12.setTop (mkF m 64 #[.val (.int p0), .val (.int p1), .val (.int p2), .val (.ref b1), .val (.long (f3 (0 : Int64))), .second, .val (.long (f3 (f4_sum p0 (0 : Int64)))), .second, .val (.long (f3 (f4_sum p1 (f4_sum p0 (0 : Int64))))), .second, .val (.long (f3 (f4_sum p2 (f4_sum p1 (f4_sum p0 (0 : Int64)))))), .second] [])) _
        refine XS.lload X12.here hx rfl (hb hby at_64) rfl ?_
        show Steps p.tables e below (T12.setTop (mkF m 66 #[.val (.int p0), .val (.int p1), .val (.int p2), .val (.ref b1), .val (.long (f3 (0 : Int64))), .second, .val (.long (f3 (f4_sum p0 (0 : Int64)))), .second, .val (.long (f3 (f4_sum p1 (f4_sum p0 (0 : Int64))))), .second, .val (.long (f3 (f4_sum p2 (f4_sum p1 (f4_sum p0 (0 : Int64)))))), .second] [(.long (f3 (f4_sum p1 (f4_sum p0 (0 : Int64)))))])) _
        refine XS.lload X12.here hx rfl (hb hby at_66) rfl ?_
        show Steps p.tables e below (T12.setTop (mkF m 68 #[.val (.int p0), .val (.int p1), .val (.int p2), .val (.ref b1), .val (.long (f3 (0 : Int64))), .second, .val (.long (f3 (f4_sum p0 (0 : Int64)))), .second, .val (.long (f3 (f4_sum p1 (f4_sum p0 (0 : Int64))))), .second, .val (.long (f3 (f4_sum p2 (f4_sum p1 (f4_sum p0 (0 : Int64)))))), .second] [(.long (f3 (f4_sum p0 (0 : Int64)))), (.long (f3 (f4_sum p1 (f4_sum p0 (0 : Int64)))))])) _
        refine XS.iloadN X12.here hx rfl (hb hby at_68) rfl ?_
        show Steps p.tables e below (T12.setTop (mkF m 69 #[.val (.int p0), .val (.int p1), .val (.int p2), .val (.ref b1), .val (.long (f3 (0 : Int64))), .second, .val (.long (f3 (f4_sum p0 (0 : Int64)))), .second, .val (.long (f3 (f4_sum p1 (f4_sum p0 (0 : Int64))))), .second, .val (.long (f3 (f4_sum p2 (f4_sum p1 (f4_sum p0 (0 : Int64)))))), .second] [(.int p1), (.long (f3 (f4_sum p0 (0 : Int64)))), (.long (f3 (f4_sum p1 (f4_sum p0 (0 : Int64)))))])) _
        refine st15 _ ?_
        show Steps p.tables e below (T15.setTop (mkF m 72 #[.val (.int p0), .val (.int p1), .val (.int p2), .val (.ref b1), .val (.long (f3 (0 : Int64))), .second, .val (.long (f3 (f4_sum p0 (0 : Int64)))), .second, .val (.long (f3 (f4_sum p1 (f4_sum p0 (0 : Int64))))), .second, .val (.long (f3 (f4_sum p2 (f4_sum p1 (f4_sum p0 (0 : Int64)))))), .second] [(.long (f5 p1)), (.long (f3 (f4_sum p0 (0 : Int64)))), (.long (f3 (f4_sum p1 (f4_sum p0 (0 : Int64)))))])) _
        refine XS.ladd X15.here hx rfl (hb hby at_72) rfl ?_
        show Steps p.tables e below (T15.setTop (mkF m 73 #[.val (.int p0), .val (.int p1), .val (.int p2), .val (.ref b1), .val (.long (f3 (0 : Int64))), .second, .val (.long (f3 (f4_sum p0 (0 : Int64)))), .second, .val (.long (f3 (f4_sum p1 (f4_sum p0 (0 : Int64))))), .second, .val (.long (f3 (f4_sum p2 (f4_sum p1 (f4_sum p0 (0 : Int64)))))), .second] [(.long ((f3 (f4_sum p0 (0 : Int64))) + (f5 p1))), (.long (f3 (f4_sum p1 (f4_sum p0 (0 : Int64)))))])) _
        refine XS.lcmp X15.here hx rfl (hb hby at_73) rfl ?_
        exact kt)
      by_cases hc17 : (f0_e1 p0 p1) = (0 : Int32)
      · obtain ⟨_, _, ⟨T18, L18, k18, n18⟩, -, X18, ⟨Lc18, hQ18, l18, y18, z18⟩, st18⟩ := Jvm.LawKit.callS X15 hx (y := (⟨"com/example/wireshape/wireshape/model/ByteSumUpdatePinLaw", "low", "(I)J"⟩ : MethodName)) hown (mvT hZ (hw _ (List.mem_of_getElem? (i := 21) rfl))) (mvT hZ (hw _ (List.mem_of_getElem? (i := 22) rfl))) (mvT hZ (hw _ (List.mem_of_getElem? (i := 23) rfl))) (mvT hZ (hw _ (List.mem_of_getElem? (i := 24) rfl))) (by decide) (backOf (W := 4) (rm5 l Z a0 hw [] p2 T8.heap n0 Zz8) hZ (hw _ (List.mem_of_getElem? (i := 24) rfl)) (hw _ (List.mem_of_getElem? (i := 23) rfl)) (by decide) (by decide)) (g := (mkF m 82 #[.val (.int p0), .val (.int p1), .val (.int p2), .val (.ref b1), .val (.long (f3 (0 : Int64))), .second, .val (.long (f3 (f4_sum p0 (0 : Int64)))), .second, .val (.long (f3 (f4_sum p1 (f4_sum p0 (0 : Int64))))), .second, .val (.long (f3 (f4_sum p2 (f4_sum p1 (f4_sum p0 (0 : Int64)))))), .second] [(.int p2), (.long (f3 (f4_sum p1 (f4_sum p0 (0 : Int64))))), (.long (f3 (f4_sum p2 (f4_sum p1 (f4_sum p0 (0 : Int64))))))])) rfl (by rw [hml]; rfl) (argsL := [(.int p2)]) (rest := [(.long (f3 (f4_sum p1 (f4_sum p0 (0 : Int64))))), (.long (f3 (f4_sum p2 (f4_sum p1 (f4_sum p0 (0 : Int64))))))]) (lenOf pd_3 rfl) rfl (by show 2 * 0 + _ ≤ _; exact Nat.le_of_eq rfl) (hb hby at_82) (fun _ _ => ⟨rfl, e15, (by decide : 1 + 0 ≤ _), (by decide : 1 + 0 ≤ _)⟩)
        dsimp only [Pt.U, Pt.locs, Pt.cells, Pt.slots] at X18 l18 y18 z18 st18 hQ18
        subst l18 y18 z18
        obtain ⟨rfl, N18q, e18⟩ := hQ18
        have N18 := Fr.app N15 N18q
        have pre19 : ∀ t, Steps p.tables e below (T18.setTop (mkF m 87 #[.val (.int p0), .val (.int p1), .val (.int p2), .val (.ref b1), .val (.long (f3 (0 : Int64))), .second, .val (.long (f3 (f4_sum p0 (0 : Int64)))), .second, .val (.long (f3 (f4_sum p1 (f4_sum p0 (0 : Int64))))), .second, .val (.long (f3 (f4_sum p2 (f4_sum p1 (f4_sum p0 (0 : Int64)))))), .second] [(.int (f0_e2 p0 p1 p2))])) t → Steps p.tables e below (s₁.setTop (entryFrame m #[(.int p0), (.int p1), (.int p2)] maxLocals)) t := fun t kt => pre16 t (by
          show Steps p.tables e below (T15.setTop (mkF m 74 #[.val (.int p0), .val (.int p1), .val (.int p2), .val (.ref b1), .val (.long (f3 (0 : Int64))), .second, .val (.long (f3 (f4_sum p0 (0 : Int64)))), .second, .val (.long (f3 (f4_sum p1 (f4_sum p0 (0 : Int64))))), .second, .val (.long (f3 (f4_sum p2 (f4_sum p1 (f4_sum p0 (0 : Int64)))))), .second] [(.int (f0_e1 p0 p1))])) _
          refine XS.ifNo X15.here hx rfl (hb hby at_74) rfl ((if0 _ _).trans (teq hc17).2) ?_
          show Steps p.tables e below (T15.setTop (mkF m 77 #[.val (.int p0), .val (.int p1), .val (.int p2), .val (.ref b1), .val (.long (f3 (0 : Int64))), .second, .val (.long (f3 (f4_sum p0 (0 : Int64)))), .second, .val (.long (f3 (f4_sum p1 (f4_sum p0 (0 : Int64))))), .second, .val (.long (f3 (f4_sum p2 (f4_sum p1 (f4_sum p0 (0 : Int64)))))), .second] [])) _
          refine XS.lload X15.here hx rfl (hb hby at_77) rfl ?_
          show Steps p.tables e below (T15.setTop (mkF m 79 #[.val (.int p0), .val (.int p1), .val (.int p2), .val (.ref b1), .val (.long (f3 (0 : Int64))), .second, .val (.long (f3 (f4_sum p0 (0 : Int64)))), .second, .val (.long (f3 (f4_sum p1 (f4_sum p0 (0 : Int64))))), .second, .val (.long (f3 (f4_sum p2 (f4_sum p1 (f4_sum p0 (0 : Int64)))))), .second] [(.long (f3 (f4_sum p2 (f4_sum p1 (f4_sum p0 (0 : Int64))))))])) _
          refine XS.lload X15.here hx rfl (hb hby at_79) rfl ?_
          show Steps p.tables e below (T15.setTop (mkF m 81 #[.val (.int p0), .val (.int p1), .val (.int p2), .val (.ref b1), .val (.long (f3 (0 : Int64))), .second, .val (.long (f3 (f4_sum p0 (0 : Int64)))), .second, .val (.long (f3 (f4_sum p1 (f4_sum p0 (0 : Int64))))), .second, .val (.long (f3 (f4_sum p2 (f4_sum p1 (f4_sum p0 (0 : Int64)))))), .second] [(.long (f3 (f4_sum p1 (f4_sum p0 (0 : Int64))))), (.long (f3 (f4_sum p2 (f4_sum p1 (f4_sum p0 (0 : Int64))))))])) _
          refine XS.iloadN X15.here hx rfl (hb hby at_81) rfl ?_
          show Steps p.tables e below (T15.setTop (mkF m 82 #[.val (.int p0), .val (.int p1), .val (.int p2), .val (.ref b1), .val (.long (f3 (0 : Int64))), .second, .val (.long (f3 (f4_sum p0 (0 : Int64)))), .second, .val (.long (f3 (f4_sum p1 (f4_sum p0 (0 : Int64))))), .second, .val (.long (f3 (f4_sum p2 (f4_sum p1 (f4_sum p0 (0 : Int64)))))), .second] [(.int p2), (.long (f3 (f4_sum p1 (f4_sum p0 (0 : Int64))))), (.long (f3 (f4_sum p2 (f4_sum p1 (f4_sum p0 (0 : Int64))))))])) _
          refine st18 _ ?_
          show Steps p.tables e below (T18.setTop (mkF m 85 #[.val (.int p0), .val (.int p1), .val (.int p2), .val (.ref b1), .val (.long (f3 (0 : Int64))), .second, .val (.long (f3 (f4_sum p0 (0 : Int64)))), .second, .val (.long (f3 (f4_sum p1 (f4_sum p0 (0 : Int64))))), .second, .val (.long (f3 (f4_sum p2 (f4_sum p1 (f4_sum p0 (0 : Int64)))))), .second] [(.long (f5 p2)), (.long (f3 (f4_sum p1 (f4_sum p0 (0 : Int64))))), (.long (f3 (f4_sum p2 (f4_sum p1 (f4_sum p0 (0 : Int64))))))])) _
          refine XS.ladd X18.here hx rfl (hb hby at_85) rfl ?_
          show Steps p.tables e below (T18.setTop (mkF m 86 #[.val (.int p0), .val (.int p1), .val (.int p2), .val (.ref b1), .val (.long (f3 (0 : Int64))), .second, .val (.long (f3 (f4_sum p0 (0 : Int64)))), .second, .val (.long (f3 (f4_sum p1 (f4_sum p0 (0 : Int64))))), .second, .val (.long (f3 (f4_sum p2 (f4_sum p1 (f4_sum p0 (0 : Int64)))))), .second] [(.long ((f3 (f4_sum p1 (f4_sum p0 (0 : Int64)))) + (f5 p2))), (.long (f3 (f4_sum p2 (f4_sum p1 (f4_sum p0 (0 : Int64))))))])) _
          refine XS.lcmp X18.here hx rfl (hb hby at_86) rfl ?_
          exact kt)
        by_cases hc20 : (f0_e2 p0 p1 p2) = (0 : Int32)
        · obtain ⟨fs, hr, hrun, hended, hW, hsame⟩ := X18.leave (v := some (.int (1 : Int32))) (fun h => by rw [Bd.returns] at h; cases h)
          refine ⟨_, _, pre19 _ ?_, hrun, hended, _, _, rfl, ?_, ⟨_, rfl⟩, hW, hsame.mono (by decide) (by decide)⟩
          · show Steps p.tables e below (T18.setTop (mkF m 87 #[.val (.int p0), .val (.int p1), .val (.int p2), .val (.ref b1), .val (.long (f3 (0 : Int64))), .second, .val (.long (f3 (f4_sum p0 (0 : Int64)))), .second, .val (.long (f3 (f4_sum p1 (f4_sum p0 (0 : Int64))))), .second, .val (.long (f3 (f4_sum p2 (f4_sum p1 (f4_sum p0 (0 : Int64)))))), .second] [(.int (f0_e2 p0 p1 p2))])) _
            refine XS.ifNo X18.here hx rfl (hb hby at_87) rfl ((if0 _ _).trans (teq hc20).2) ?_
            show Steps p.tables e below (T18.setTop (mkF m 90 #[.val (.int p0), .val (.int p1), .val (.int p2), .val (.ref b1), .val (.long (f3 (0 : Int64))), .second, .val (.long (f3 (f4_sum p0 (0 : Int64)))), .second, .val (.long (f3 (f4_sum p1 (f4_sum p0 (0 : Int64))))), .second, .val (.long (f3 (f4_sum p2 (f4_sum p1 (f4_sum p0 (0 : Int64)))))), .second] [])) _
            refine XS.iconst X18.here hx rfl (hb hby at_90) ?_
            show Steps p.tables e below (T18.setTop (mkF m 91 #[.val (.int p0), .val (.int p1), .val (.int p2), .val (.ref b1), .val (.long (f3 (0 : Int64))), .second, .val (.long (f3 (f4_sum p0 (0 : Int64)))), .second, .val (.long (f3 (f4_sum p1 (f4_sum p0 (0 : Int64))))), .second, .val (.long (f3 (f4_sum p2 (f4_sum p1 (f4_sum p0 (0 : Int64)))))), .second] [(.int (1 : Int32))])) _
            refine XS.goto X18.here hx rfl (pc0 := 91) (pc' := 95) rfl (hb hby at_91) (by decide) (by decide) ?_
            show Steps p.tables e below (T18.setTop (mkF m 95 #[.val (.int p0), .val (.int p1), .val (.int p2), .val (.ref b1), .val (.long (f3 (0 : Int64))), .second, .val (.long (f3 (f4_sum p0 (0 : Int64)))), .second, .val (.long (f3 (f4_sum p1 (f4_sum p0 (0 : Int64))))), .second, .val (.long (f3 (f4_sum p2 (f4_sum p1 (f4_sum p0 (0 : Int64)))))), .second] [(.int (1 : Int32))])) _
            exact retN X18 hx (t := .boolean) Bd.returns (by simp) (hb hby at_95) hr
          · show Q0 Z p0 p1 p2 h0 n0 _ T18.heap _
            rw [e18]
            exact ⟨by rw [show f0 p0 p1 p2 = (1 : Int32) from by unfold f0; rw [if_pos hc11, if_pos hc14, if_pos hc17, if_pos hc20]], N18⟩
        · obtain ⟨fs, hr, hrun, hended, hW, hsame⟩ := X18.leave (v := some (.int (0 : Int32))) (fun h => by rw [Bd.returns] at h; cases h)
          refine ⟨_, _, pre19 _ ?_, hrun, hended, _, _, rfl, ?_, ⟨_, rfl⟩, hW, hsame.mono (by decide) (by decide)⟩
          · show Steps p.tables e below (T18.setTop (mkF m 87 #[.val (.int p0), .val (.int p1), .val (.int p2), .val (.ref b1), .val (.long (f3 (0 : Int64))), .second, .val (.long (f3 (f4_sum p0 (0 : Int64)))), .second, .val (.long (f3 (f4_sum p1 (f4_sum p0 (0 : Int64))))), .second, .val (.long (f3 (f4_sum p2 (f4_sum p1 (f4_sum p0 (0 : Int64)))))), .second] [(.int (f0_e2 p0 p1 p2))])) _
            refine XS.ifYes X18.here hx rfl (pc0 := 87) (pc' := 94) rfl (hb hby at_87) rfl ((if0 _ _).trans (feq hc20).2) (by decide) (by decide) ?_
            show Steps p.tables e below (T18.setTop (mkF m 94 #[.val (.int p0), .val (.int p1), .val (.int p2), .val (.ref b1), .val (.long (f3 (0 : Int64))), .second, .val (.long (f3 (f4_sum p0 (0 : Int64)))), .second, .val (.long (f3 (f4_sum p1 (f4_sum p0 (0 : Int64))))), .second, .val (.long (f3 (f4_sum p2 (f4_sum p1 (f4_sum p0 (0 : Int64)))))), .second] [])) _
            refine XS.iconst X18.here hx rfl (hb hby at_94) ?_
            show Steps p.tables e below (T18.setTop (mkF m 95 #[.val (.int p0), .val (.int p1), .val (.int p2), .val (.ref b1), .val (.long (f3 (0 : Int64))), .second, .val (.long (f3 (f4_sum p0 (0 : Int64)))), .second, .val (.long (f3 (f4_sum p1 (f4_sum p0 (0 : Int64))))), .second, .val (.long (f3 (f4_sum p2 (f4_sum p1 (f4_sum p0 (0 : Int64)))))), .second] [(.int (0 : Int32))])) _
            exact retN X18 hx (t := .boolean) Bd.returns (by simp) (hb hby at_95) hr
          · show Q0 Z p0 p1 p2 h0 n0 _ T18.heap _
            rw [e18]
            exact ⟨by rw [show f0 p0 p1 p2 = (0 : Int32) from by unfold f0; rw [if_pos hc11, if_pos hc14, if_pos hc17, if_neg hc20]], N18⟩
      · obtain ⟨fs, hr, hrun, hended, hW, hsame⟩ := X15.leave (v := some (.int (0 : Int32))) (fun h => by rw [Bd.returns] at h; cases h)
        refine ⟨_, _, pre16 _ ?_, hrun, hended, _, _, rfl, ?_, ⟨_, rfl⟩, hW, hsame.mono (by decide) (by decide)⟩
        · show Steps p.tables e below (T15.setTop (mkF m 74 #[.val (.int p0), .val (.int p1), .val (.int p2), .val (.ref b1), .val (.long (f3 (0 : Int64))), .second, .val (.long (f3 (f4_sum p0 (0 : Int64)))), .second, .val (.long (f3 (f4_sum p1 (f4_sum p0 (0 : Int64))))), .second, .val (.long (f3 (f4_sum p2 (f4_sum p1 (f4_sum p0 (0 : Int64)))))), .second] [(.int (f0_e1 p0 p1))])) _
          refine XS.ifYes X15.here hx rfl (pc0 := 74) (pc' := 94) rfl (hb hby at_74) rfl ((if0 _ _).trans (feq hc17).2) (by decide) (by decide) ?_
          show Steps p.tables e below (T15.setTop (mkF m 94 #[.val (.int p0), .val (.int p1), .val (.int p2), .val (.ref b1), .val (.long (f3 (0 : Int64))), .second, .val (.long (f3 (f4_sum p0 (0 : Int64)))), .second, .val (.long (f3 (f4_sum p1 (f4_sum p0 (0 : Int64))))), .second, .val (.long (f3 (f4_sum p2 (f4_sum p1 (f4_sum p0 (0 : Int64)))))), .second] [])) _
          refine XS.iconst X15.here hx rfl (hb hby at_94) ?_
          show Steps p.tables e below (T15.setTop (mkF m 95 #[.val (.int p0), .val (.int p1), .val (.int p2), .val (.ref b1), .val (.long (f3 (0 : Int64))), .second, .val (.long (f3 (f4_sum p0 (0 : Int64)))), .second, .val (.long (f3 (f4_sum p1 (f4_sum p0 (0 : Int64))))), .second, .val (.long (f3 (f4_sum p2 (f4_sum p1 (f4_sum p0 (0 : Int64)))))), .second] [(.int (0 : Int32))])) _
          exact retN X15 hx (t := .boolean) Bd.returns (by simp) (hb hby at_95) hr
        · show Q0 Z p0 p1 p2 h0 n0 _ T15.heap _
          rw [e15]
          exact ⟨by rw [show f0 p0 p1 p2 = (0 : Int32) from by unfold f0; rw [if_pos hc11, if_pos hc14, if_neg hc17]], N15⟩
    · obtain ⟨fs, hr, hrun, hended, hW, hsame⟩ := X12.leave (v := some (.int (0 : Int32))) (fun h => by rw [Bd.returns] at h; cases h)
      refine ⟨_, _, pre13 _ ?_, hrun, hended, _, _, rfl, ?_, ⟨_, rfl⟩, hW, hsame.mono (by decide) (by decide)⟩
      · show Steps p.tables e below (T12.setTop (mkF m 61 #[.val (.int p0), .val (.int p1), .val (.int p2), .val (.ref b1), .val (.long (f3 (0 : Int64))), .second, .val (.long (f3 (f4_sum p0 (0 : Int64)))), .second, .val (.long (f3 (f4_sum p1 (f4_sum p0 (0 : Int64))))), .second, .val (.long (f3 (f4_sum p2 (f4_sum p1 (f4_sum p0 (0 : Int64)))))), .second] [(.int (lcmpW (f3 (f4_sum p0 (0 : Int64))) (f5 p0)))])) _
        refine XS.ifYes X12.here hx rfl (pc0 := 61) (pc' := 94) rfl (hb hby at_61) rfl ((if0 _ _).trans (feq hc14).2) (by decide) (by decide) ?_
        show Steps p.tables e below (T12.setTop (mkF m 94 #[.val (.int p0), .val (.int p1), .val (.int p2), .val (.ref b1), .val (.long (f3 (0 : Int64))), .second, .val (.long (f3 (f4_sum p0 (0 : Int64)))), .second, .val (.long (f3 (f4_sum p1 (f4_sum p0 (0 : Int64))))), .second, .val (.long (f3 (f4_sum p2 (f4_sum p1 (f4_sum p0 (0 : Int64)))))), .second] [])) _
        refine XS.iconst X12.here hx rfl (hb hby at_94) ?_
        show Steps p.tables e below (T12.setTop (mkF m 95 #[.val (.int p0), .val (.int p1), .val (.int p2), .val (.ref b1), .val (.long (f3 (0 : Int64))), .second, .val (.long (f3 (f4_sum p0 (0 : Int64)))), .second, .val (.long (f3 (f4_sum p1 (f4_sum p0 (0 : Int64))))), .second, .val (.long (f3 (f4_sum p2 (f4_sum p1 (f4_sum p0 (0 : Int64)))))), .second] [(.int (0 : Int32))])) _
        exact retN X12 hx (t := .boolean) Bd.returns (by simp) (hb hby at_95) hr
      · show Q0 Z p0 p1 p2 h0 n0 _ T12.heap _
        rw [e12]
        exact ⟨by rw [show f0 p0 p1 p2 = (0 : Int32) from by unfold f0; rw [if_pos hc11, if_neg hc14]], N12⟩
  · obtain ⟨fs, hr, hrun, hended, hW, hsame⟩ := X9.leave (v := some (.int (0 : Int32))) (fun h => by rw [Bd.returns] at h; cases h)
    refine ⟨_, _, pre10 _ ?_, hrun, hended, _, _, rfl, ?_, ⟨_, rfl⟩, hW, hsame.mono (by decide) (by decide)⟩
    · show Steps p.tables e below (T9.setTop (mkF m 51 #[.val (.int p0), .val (.int p1), .val (.int p2), .val (.ref b1), .val (.long (f3 (0 : Int64))), .second, .val (.long (f3 (f4_sum p0 (0 : Int64)))), .second, .val (.long (f3 (f4_sum p1 (f4_sum p0 (0 : Int64))))), .second, .val (.long (f3 (f4_sum p2 (f4_sum p1 (f4_sum p0 (0 : Int64)))))), .second] [(.int (lcmpW (f3 (0 : Int64)) (0 : Int64)))])) _
      refine XS.ifYes X9.here hx rfl (pc0 := 51) (pc' := 94) rfl (hb hby at_51) rfl ((if0 _ _).trans (feq hc11).2) (by decide) (by decide) ?_
      show Steps p.tables e below (T9.setTop (mkF m 94 #[.val (.int p0), .val (.int p1), .val (.int p2), .val (.ref b1), .val (.long (f3 (0 : Int64))), .second, .val (.long (f3 (f4_sum p0 (0 : Int64)))), .second, .val (.long (f3 (f4_sum p1 (f4_sum p0 (0 : Int64))))), .second, .val (.long (f3 (f4_sum p2 (f4_sum p1 (f4_sum p0 (0 : Int64)))))), .second] [])) _
      refine XS.iconst X9.here hx rfl (hb hby at_94) ?_
      show Steps p.tables e below (T9.setTop (mkF m 95 #[.val (.int p0), .val (.int p1), .val (.int p2), .val (.ref b1), .val (.long (f3 (0 : Int64))), .second, .val (.long (f3 (f4_sum p0 (0 : Int64)))), .second, .val (.long (f3 (f4_sum p1 (f4_sum p0 (0 : Int64))))), .second, .val (.long (f3 (f4_sum p2 (f4_sum p1 (f4_sum p0 (0 : Int64)))))), .second] [(.int (0 : Int32))])) _
      exact retN X9 hx (t := .boolean) Bd.returns (by simp) (hb hby at_95) hr
    · show Q0 Z p0 p1 p2 h0 n0 _ T9.heap _
      rw [e9]
      exact ⟨by rw [show f0 p0 p1 p2 = (0 : Int32) from by unfold f0; rw [if_neg hc11]], N9⟩
theorem own_low (p : Int32) : (p &&& 255).toInt64 = f5 p := by
  unfold f5 f5_l1_16001
  have e := c_mask p 255 8 (by decide) (by decide)
  have e2 : ((2 ^ 8 : Nat) : Int) = 256 := by decide
  rw [e2] at e
  have q := c_irem p 256 256 rfl
  have r := rng32 p
  have l0 : (0 : Int32).toInt = 0 := rfl
  have l256 : (256 : Int32).toInt = 256 := rfl
  have a := c_iadd (p % 256) 256
  have r2 := rng32 (p % 256 + 256)
  congr 1
  apply Int32.toInt_inj.mp
  by_cases h : p % 256 < 0
  · rw [if_pos h]
    rw [Int32.lt_iff_toInt_lt] at h
    by_cases g : 0 ≤ p.toInt
    · have := q.1 g; omega
    · have := q.2 (by omega); omega
  · rw [if_neg h]
    rw [Int32.lt_iff_toInt_lt] at h
    by_cases g : 0 ≤ p.toInt
    · have := q.1 g; omega
    · have := q.2 (by omega); omega
theorem own_law (p0 p1 p2 : Int32) : f0 p0 p1 p2 = 1 := by
  unfold f0 f0_e1 f0_e2 f3 f4_sum
  simp only [lw_eq, own_low]
  simp
set_option maxRecDepth 65536 in
set_option maxHeartbeats 40000000 in
theorem comes_1 {Post : Tables → Env → Array Value → State → Outcome → State → Prop} (hpost : ∀ tb e args s v u, (limb_1_1.after args s (.returned v) u = true ∧ limb_1_2.after args s (.returned v) u = true ∧ True) → FrameEnd s (.returned v) u (Jvm.fieldLocs frame_1_writes args s ++ Jvm.arrayLocs frame_1_arrays args s ++ Jvm.staticLocs frame_1_statics s) 16 128 → Post tb e args s (.returned v) u) :
    ArmFor flags0 classFile x code maxLocals ret World_1 tables_1 room_1 Calls_1 rest_1 Pre_1 Post := by
  intro l hfl _ _ p e ha hc hk s m args below hf hA hF happ hP
  obtain ⟨hcalls, hrest, hpre⟩ := hP
  obtain ⟨-, -, -, hnamed, -, -, -, hat⟩ := (Spec.applies_iff hf).mp happ
  obtain ⟨hg, hn⟩ := and_e (Cond.before_iff.mp (show (Jvm.Cond.and given_1 narrow_1).before args s = true from hpre))
  obtain ⟨g1, g2⟩ := and_e hg
  obtain ⟨g3, g4⟩ := and_e g2
  obtain ⟨g5, g6⟩ := and_e g4
  obtain ⟨w0, w1, w2, rfl⟩ : ∃ w0 w1 w2 : Value, args = #[w0, w1, w2] := by
    have hs : args.size = 3 := by simpa [Cond.value, given_1] using g1
    obtain ⟨L⟩ := args
    match L, hs with
    | [w0, w1, w2], _ => exact ⟨w0, w1, w2, rfl⟩
  have hw := fun d (hd : d ∈ tables_1) => atoms_spec (ws := Jvm.Cond.code x code maxLocals ret :: tables_1) hat d (List.mem_cons_of_mem _ hd)
  have hfit : Fit s := fun {y c} hc i hi => by
    obtain ⟨ha, rfl⟩ := Array.getElem?_eq_some_iff.mp hc
    have q := List.all_eq_true.mp ((Array.all_eq_true_iff_forall_mem.mp hF) _ (Array.getElem_mem ha)) i (List.mem_range.mpr hi)
    simpa [Array.getElem?_eq_getElem hi] using q
  obtain ⟨i0, ei0⟩ := is_v g3
  obtain rfl : w0 = (.int i0) := Option.some.inj ei0
  obtain ⟨i1, ei1⟩ := is_v g5
  obtain rfl : w1 = (.int i1) := Option.some.inj ei1
  obtain ⟨i2, ei2⟩ := is_v g6
  obtain rfl : w2 = (.int i2) := Option.some.inj ei2
  obtain ⟨n, o, h1, h2, h3, _, L, rfl, ⟨rfl, N⟩, hq⟩ := rm0 l s _ hw tables_1 i0 i1 i2 s.heap s.heap.size (Nat.le_refl _) p e ha hc hk s m _ below hf ((Spec.applies_iff_loose hf).mp happ).1 ⟨rfl, State.Warmed39.refl s, rfl⟩ trivial
  refine ⟨n, _, h1, h2, h3, hpost _ _ _ _ _ _ ⟨Cond.after_iff.mpr rfl, Cond.after_iff.mpr (eq_i res_at (Term.int_eval (1)) (by rw [own_law i0 i1 i2])), trivial⟩ ⟨hq.1, hq.2.1, (hq.2.2.sift fun y hy => Or.inr (N y hy)).mono (by decide) (by decide)⟩⟩
theorem main_1_1 : Claimed_1_1 := comes_1 fun _ _ _ _ _ _ h hF => ⟨h.1, hF⟩
theorem main_1_2 : Claimed_1_2 := comes_1 fun _ _ _ _ _ _ h hF => ⟨h.2.1, hF⟩
end Jvm.Pilot.@@N@@
namespace Jvm.Pilot.@@N@@
open Jvm Jvm.ClassFile Sem Op Lib Jvm.Free Jvm.Stand Jvm.Pilot.@@N@@.Jvm.D
/-! MADE BY PROGRAM (witnessworld.py) out of the Statement's table words and the real class files: 10 classes; the members and pool entries that the words name. The judged class is class 1, her method 2. -/
namespace start1
open Jvm.ClassFile
def u (s : String) : CpInfo := .utf8 (stringToUtf16 s)
/-- a pool by its gaps: so many unusable entries, then the entry; so many at the end -/
def gap : Nat → List CpInfo → List CpInfo
  | 0, r => r
  | n + 1, r => .unusable :: gap n r
def poolList (es : List (Nat × CpInfo)) (last : Nat) : List CpInfo := es.foldr (fun e r => gap e.1 (e.2 :: r)) (gap last [])
def pool (es : List (Nat × CpInfo)) (last : Nat) : Array CpInfo := ⟨poolList es last⟩
def fileOf (pool : Array CpInfo) (this : Nat) (attrs : Array Attribute := #[]) (ms : Array MethodInfo := #[]) (fl : Nat := 33) (sup : Nat := 0) (ifs : Array Nat := #[]) (fds : Array FieldInfo := #[]) : ClassFile where
  minorVersion := 0
  majorVersion := 65
  constantPool := pool
  accessFlags := fl
  thisClass := this
  superClass := sup
  interfaces := ifs
  fields := fds
  methods := ms
  attributes := attrs
def plain (name : String) (sup : Option ClassId) : Class where
  name := name
  kind := .ordinary
  loader := none
  accessFlags := 33
  super := sup
  interfaces := #[]
  cf := none
  fields := #[]
  methods := #[]
  instanceTypes := #[]
  staticTypes := #[]
  resolved := #[]
  callSites := []
  init := .initialized
  statics := none
  mirror := none

def pool0 : Array CpInfo := pool [(5, u "<init>"), (0, u "()V"), (1, .class_ 10), (1, u "java/lang/Object")] 113

def k0c0 : Code := { maxStack := 0, maxLocals := 1, code := object_method_1_code, exceptionTable := #[], attributes := #[] }
def k0m0 : Method := { name := "<init>", desc := "()V", sig := { parameters := [], returnType := none }, accessFlags := 1, code := some k0c0 }
/-- java/lang/Object -/
def k0 : Class := { plain "java/lang/Object" none with
  accessFlags := 33
  interfaces := #[]
  cf := some (fileOf pool0 8 #[] #[{ accessFlags := 1, nameIndex := 5, descriptorIndex := 6, attributes := #[] }] 33 0 #[] #[])
  fields := #[]
  methods := #[k0m0]
  instanceTypes := #[]
  staticTypes := #[]
  resolved := Array.replicate 124 none
  statics := none }

def pool1 : Array CpInfo := pool [(2, .class_ 4), (0, .nameAndType 5 6), (0, u "java/lang/Object"), (0, u "<init>"), (0, u "()V"), (0, .class_ 8), (0, u "com/example/wireshape/wireshape/model/ByteSum"), (0, .methodref 7 3), (0, .methodref 7 11), (0, .nameAndType 12 13), (0, u "getValue"), (0, u "()J"), (0, .methodref 7 15), (0, .nameAndType 16 17), (0, u "update"), (0, u "(I)V"), (0, .methodref 19 20), (0, .class_ 21), (0, .nameAndType 22 23), (0, u "com/example/wireshape/wireshape/model/ByteSumUpdatePinLaw"), (0, u "low"), (0, u "(I)J"), (3, u "law"), (0, u "(III)Z")] 2

def k1m0 : Method := { name := "<init>", desc := "()V", sig := { parameters := [], returnType := none }, accessFlags := 1, code := none }
def k1c1 : Code := { maxStack := 2, maxLocals := 2, code := method_2_code, exceptionTable := #[], attributes := #[] }
def k1m1 : Method := { name := "low", desc := "(I)J", sig := { parameters := [.int], returnType := some .long }, accessFlags := 10, code := some k1c1 }
def k1c2 : Code := { maxStack := 6, maxLocals := 12, code := code, exceptionTable := #[], attributes := #[] }
def k1m2 : Method := { name := "law", desc := "(III)Z", sig := { parameters := [.int, .int, .int], returnType := some .boolean }, accessFlags := 9, code := some k1c2 }
/-- com/example/wireshape/wireshape/model/ByteSumUpdatePinLaw -/
def k1 : Class := { plain "com/example/wireshape/wireshape/model/ByteSumUpdatePinLaw" (some 0) with
  accessFlags := 49
  interfaces := #[]
  cf := some (fileOf pool1 19 #[] #[{ accessFlags := 1, nameIndex := 5, descriptorIndex := 6, attributes := #[] }, { accessFlags := 10, nameIndex := 22, descriptorIndex := 23, attributes := #[] }, { accessFlags := 9, nameIndex := 27, descriptorIndex := 28, attributes := #[] }] 49 2 #[] #[])
  fields := #[]
  methods := #[k1m0, k1m1, k1m2]
  instanceTypes := #[]
  staticTypes := #[]
  resolved := Array.replicate 31 none
  statics := none }

def pool2 : Array CpInfo := pool [(2, .class_ 4), (1, u "java/util/zip/Checksum"), (12, .class_ 19), (1, u "java/util/zip/Checksum$1"), (38, .class_ 59), (0, u "java/lang/Object")] 26

/-- java/util/zip/Checksum -/
def k2 : Class := { plain "java/util/zip/Checksum" (some 0) with
  accessFlags := 1537
  interfaces := #[]
  cf := some (fileOf pool2 2 #[.nestMembers #[17]] #[] 1537 58 #[] #[])
  fields := #[]
  methods := #[]
  instanceTypes := #[]
  staticTypes := #[]
  resolved := Array.replicate 86 none
  statics := none }

def pool3 : Array CpInfo := pool [(1, .methodref 2 3), (0, .class_ 4), (0, .nameAndType 5 6), (0, u "java/lang/Object"), (0, u "<init>"), (0, u "()V"), (0, .fieldref 8 9), (0, .class_ 10), (0, .nameAndType 11 12), (0, u "com/example/wireshape/wireshape/model/ByteSum"), (0, u "sum"), (0, u "J"), (8, u "update"), (0, u "(I)V"), (0, .class_ 24), (0, u "java/util/zip/Checksum"), (4, u "getValue"), (0, u "()J")] 3

def k3c0 : Code := { maxStack := 1, maxLocals := 1, code := prog_26_method_1_code, exceptionTable := #[], attributes := #[] }
def k3m0 : Method := { name := "<init>", desc := "()V", sig := { parameters := [], returnType := none }, accessFlags := 0, code := some k3c0 }
def k3c1 : Code := { maxStack := 5, maxLocals := 2, code := prog_26_method_2_code, exceptionTable := #[], attributes := #[] }
def k3m1 : Method := { name := "update", desc := "(I)V", sig := { parameters := [.int], returnType := none }, accessFlags := 1, code := some k3c1 }
def k3c2 : Code := { maxStack := 2, maxLocals := 1, code := prog_26_method_4_code, exceptionTable := #[], attributes := #[] }
def k3m2 : Method := { name := "getValue", desc := "()J", sig := { parameters := [], returnType := some .long }, accessFlags := 1, code := some k3c2 }
/-- com/example/wireshape/wireshape/model/ByteSum -/
def k3 : Class := { plain "com/example/wireshape/wireshape/model/ByteSum" (some 0) with
  accessFlags := 48
  interfaces := #[2]
  cf := some (fileOf pool3 8 #[] #[{ accessFlags := 0, nameIndex := 5, descriptorIndex := 6, attributes := #[] }, { accessFlags := 1, nameIndex := 21, descriptorIndex := 22, attributes := #[] }, { accessFlags := 1, nameIndex := 29, descriptorIndex := 30, attributes := #[] }] 48 2 #[23] #[{ accessFlags := 2, nameIndex := 11, descriptorIndex := 12, attributes := #[] }])
  fields := #[{ name := "sum", type := .long, accessFlags := 2, slot := 0, constantValue := 0 }]
  methods := #[k3m0, k3m1, k3m2]
  instanceTypes := #[.long]
  staticTypes := #[]
  resolved := Array.replicate 34 none
  statics := none }

def pool4 : Array CpInfo := pool [(1, u "java/lang/Cloneable"), (0, .class_ 1), (0, u "java/lang/Object"), (0, .class_ 3)] 3

/-- java/lang/Cloneable -/
def k4 : Class := { plain "java/lang/Cloneable" (some 0) with
  accessFlags := 1537
  interfaces := #[]
  cf := some (fileOf pool4 2 #[] #[] 1537 4 #[] #[])
  fields := #[]
  methods := #[]
  instanceTypes := #[]
  staticTypes := #[]
  resolved := Array.replicate 8 none
  statics := none }

def pool5 : Array CpInfo := pool [(1, u "java/io/Serializable"), (0, .class_ 1), (0, u "java/lang/Object"), (0, .class_ 3)] 3

/-- java/io/Serializable -/
def k5 : Class := { plain "java/io/Serializable" (some 0) with
  accessFlags := 1537
  interfaces := #[]
  cf := some (fileOf pool5 2 #[] #[] 1537 4 #[] #[])
  fields := #[]
  methods := #[]
  instanceTypes := #[]
  staticTypes := #[]
  resolved := Array.replicate 8 none
  statics := none }

/-- the primitive byte -/
def k6 : Class := { plain "byte" none with kind := .primitive 'B', accessFlags := 0x411 }
/-- [B -/
def k7 : Class := { plain "[B" (some 0) with kind := .array 6 .byte, interfaces := #[4, 5], accessFlags := 1041 }

/-- the primitive int -/
def k8 : Class := { plain "int" none with kind := .primitive 'I', accessFlags := 0x411 }
/-- [I -/
def k9 : Class := { plain "[I" (some 0) with kind := .array 8 .int, interfaces := #[4, 5], accessFlags := 1041 }

def heap : Heap := #[]
def classes : Array Class := #[k0, k1, k2, k3, k4, k5, k6, k7, k8, k9]
def interned : List (Array UInt16 × Addr) := []
def slotsUsed : Nat := 0
def theMethod : MethodId := ⟨1, 2⟩
def args0 : Array Value := #[.int 5, .int 5, .int 5]
def aboutOver (below : List Frame) : State where
  vm := { classes := classes, interned := interned.toArray }
  heap := heap
  slotsUsed := slotsUsed
  threads := #[{ frames := .invoking theMethod args0 :: below }]
def below0 : List Frame := [.native { method := ⟨0, 0⟩, args := #[] }]
def about1 : State := aboutOver below0
def p0 : Program := .bare "" "" ""
def e0 : Env := launch0.env 0 0 0
theorem w_frames : about1.frames = Frame.invoking theMethod args0 :: below0 := rfl
set_option maxRecDepth 65536 in
theorem w_args : argsFit about1.vm theMethod args0 = true := by decide +kernel
set_option maxRecDepth 65536 in
theorem w_heap : heapFits about1 = true := by decide +kernel
set_option maxRecDepth 65536 in
theorem w_runnable : about1.curStatus? = some .runnable := by decide +kernel
set_option maxRecDepth 65536 in
theorem w_alone : about1.alone = true := by decide +kernel
set_option maxRecDepth 65536 in
theorem w_named : about1.methodNamed? x = some theMethod := by decide +kernel
set_option maxRecDepth 65536 in
theorem w_hears : about1.hears theMethod below0 = true := by decide +kernel
set_option maxRecDepth 65536 in
theorem w_ripe : about1.ripe theMethod args0 below0 = true := by decide +kernel
theorem w_running : about1.status = .running := rfl
set_option maxRecDepth 65536 in
theorem w_room : about1.hasRoom e0.platform room_1 = true :=
  launch0.hasRoom_least _ room_1 (by decide +kernel) (by decide +kernel) (by decide +kernel) (by decide +kernel) (by decide +kernel) (by decide +kernel)
theorem allAtoms_all (ts : List Jvm.Cond) (a : Array Jvm.Value) (st : Jvm.State) : (allAtoms ts).before a st = ts.all (fun c => c.before a st) := by
  induction ts with
  | nil => rfl
  | cons c t ih =>
    show (Jvm.Cond.and c (allAtoms t)).before a st = _
    rw [Jvm.Cond.before_and, ih, List.all_cons]
def words1 : List Jvm.Cond := Jvm.Cond.code x code maxLocals ret :: tables_1
/-- a 'code' word, met by the world's own term for the bytes: nothing is compared byte by byte -/
theorem code_word {y : MethodName} {bytes : ByteArray} {mx : Nat} {rt : Option FieldType} {a : Array Value} {s : State} {m : MethodId} {meth : Method} {c : Code} (h1 : s.methodNamed? y = some m) (h2 : s.vm.method? m = some meth) (h3 : meth.code = some c) (h4 : c.code = bytes)
    (h5 : (c.maxLocals == mx && c.exceptionTable.isEmpty && decide (c.maxStack ≤ mostOperands) && decide (meth.sig.returnType = rt) && !meth.locks && decide (parseMethodDescriptor y.desc = some meth.sig)) = true) : (Jvm.Cond.code y bytes mx rt).before a s = true := by
  simp only [Bool.and_eq_true, beq_iff_eq, Bool.not_eq_true', decide_eq_true_eq] at h5
  obtain ⟨⟨⟨⟨⟨g1, g2⟩, g3⟩, g4⟩, g5⟩, g6⟩ := h5
  simp [Cond.before, Cond.holds, Cond.value, h1, h2, h3, h4, g1, g2, g3, g4, g5, g6]
def isCode : Jvm.Cond → Bool
  | .code _ _ _ _ => true
  | _ => false
theorem all_split {L : List Jvm.Cond} {P : Jvm.Cond → Bool} (h1 : L.all (fun c => isCode c || P c) = true) (h2 : ∀ c ∈ L.filter isCode, P c = true) : L.all P = true := by
  refine List.all_eq_true.mpr fun c hc => ?_
  have h := List.all_eq_true.mp h1 c hc
  rcases Bool.eq_false_or_eq_true (isCode c) with hi | hi
  · exact h2 c (List.mem_filter.mpr ⟨hc, hi⟩)
  · simpa [hi] using h
set_option maxRecDepth 65536 in
theorem w_c0 : (Jvm.Cond.code x code maxLocals ret).before args0 about1 = true := code_word (m := ⟨1, 2⟩) (meth := k1m2) (c := k1c2) (by decide +kernel) rfl rfl rfl (by decide +kernel)
set_option maxRecDepth 65536 in
theorem w_c1 : (Jvm.Cond.code ({ cls := "com/example/wireshape/wireshape/model/ByteSum", name := "<init>", desc := "()V" } : Jvm.MethodName) prog_26_method_1_code (1 : Nat) (Option.none : Option Jvm.ClassFile.FieldType)).before args0 about1 = true := code_word (m := ⟨3, 0⟩) (meth := k3m0) (c := k3c0) (by decide +kernel) rfl rfl rfl (by decide +kernel)
set_option maxRecDepth 65536 in
theorem w_c2 : (Jvm.Cond.code ({ cls := "java/lang/Object", name := "<init>", desc := "()V" } : Jvm.MethodName) object_method_1_code (1 : Nat) (Option.none : Option Jvm.ClassFile.FieldType)).before args0 about1 = true := code_word (m := ⟨0, 0⟩) (meth := k0m0) (c := k0c0) (by decide +kernel) rfl rfl rfl (by decide +kernel)
set_option maxRecDepth 65536 in
theorem w_c3 : (Jvm.Cond.code ({ cls := "com/example/wireshape/wireshape/model/ByteSum", name := "getValue", desc := "()J" } : Jvm.MethodName) prog_26_method_4_code (1 : Nat) (Option.some Jvm.ClassFile.FieldType.long)).before args0 about1 = true := code_word (m := ⟨3, 2⟩) (meth := k3m2) (c := k3c2) (by decide +kernel) rfl rfl rfl (by decide +kernel)
set_option maxRecDepth 65536 in
theorem w_c4 : (Jvm.Cond.code ({ cls := "com/example/wireshape/wireshape/model/ByteSum", name := "update", desc := "(I)V" } : Jvm.MethodName) prog_26_method_2_code (2 : Nat) (Option.none : Option Jvm.ClassFile.FieldType)).before args0 about1 = true := code_word (m := ⟨3, 1⟩) (meth := k3m1) (c := k3c1) (by decide +kernel) rfl rfl rfl (by decide +kernel)
set_option maxRecDepth 65536 in
theorem w_c5 : (Jvm.Cond.code ({ cls := "com/example/wireshape/wireshape/model/ByteSumUpdatePinLaw", name := "low", desc := "(I)J" } : Jvm.MethodName) method_2_code (2 : Nat) (Option.some Jvm.ClassFile.FieldType.long)).before args0 about1 = true := code_word (m := ⟨1, 1⟩) (meth := k1m1) (c := k1c1) (by decide +kernel) rfl rfl rfl (by decide +kernel)
def codes1 : List Jvm.Cond := [Jvm.Cond.code x code maxLocals ret, Jvm.Cond.code ({ cls := "com/example/wireshape/wireshape/model/ByteSum", name := "<init>", desc := "()V" } : Jvm.MethodName) prog_26_method_1_code (1 : Nat) (Option.none : Option Jvm.ClassFile.FieldType), Jvm.Cond.code ({ cls := "java/lang/Object", name := "<init>", desc := "()V" } : Jvm.MethodName) object_method_1_code (1 : Nat) (Option.none : Option Jvm.ClassFile.FieldType), Jvm.Cond.code ({ cls := "com/example/wireshape/wireshape/model/ByteSum", name := "getValue", desc := "()J" } : Jvm.MethodName) prog_26_method_4_code (1 : Nat) (Option.some Jvm.ClassFile.FieldType.long), Jvm.Cond.code ({ cls := "com/example/wireshape/wireshape/model/ByteSum", name := "update", desc := "(I)V" } : Jvm.MethodName) prog_26_method_2_code (2 : Nat) (Option.none : Option Jvm.ClassFile.FieldType), Jvm.Cond.code ({ cls := "com/example/wireshape/wireshape/model/ByteSumUpdatePinLaw", name := "low", desc := "(I)J" } : Jvm.MethodName) method_2_code (2 : Nat) (Option.some Jvm.ClassFile.FieldType.long)]
set_option maxRecDepth 65536 in
theorem codes_eq : words1.filter isCode = codes1 := rfl
theorem w_codes : ∀ c ∈ words1.filter isCode, c.before args0 about1 = true := by
  rw [codes_eq]
  intro c hc
  simp only [codes1, List.mem_cons, List.not_mem_nil, or_false] at hc
  rcases hc with rfl | rfl | rfl | rfl | rfl | rfl
  · exact w_c0
  · exact w_c1
  · exact w_c2
  · exact w_c3
  · exact w_c4
  · exact w_c5
set_option maxRecDepth 65536 in
theorem w_t1 : (words1.take 24).all (fun c => isCode c || c.before args0 about1) = true := by decide +kernel
set_option maxRecDepth 65536 in
theorem w_t2 : (words1.drop 24).all (fun c => isCode c || c.before args0 about1) = true := by decide +kernel
theorem w_tables : (allAtoms (Jvm.Cond.code x code maxLocals ret :: tables_1)).before args0 about1 = true := by
  rw [allAtoms_all]
  show words1.all (fun c => c.before args0 about1) = true
  refine all_split ?_ w_codes
  rw [← List.take_append_drop 24 words1, List.all_append, w_t1, w_t2]
  rfl
set_option maxRecDepth 65536 in
theorem w_case : (Jvm.Cond.and given_1 narrow_1).before args0 about1 = true := by decide +kernel
theorem w_applies : (headSpec (Jvm.Cond.code x code maxLocals ret :: tables_1) room_1).applies x e0.platform about1 = true :=
  (Spec.applies_iff w_frames).mpr ⟨w_running, w_runnable, w_alone, w_named, w_hears, w_ripe, w_room, w_tables⟩
theorem atStart : AtStart classFile x code maxLocals ret World_1 tables_1 room_1 Calls_1 rest_1 Pre_1 launch0 p0 e0 about1 theMethod args0 below0 :=
  ⟨lists_1, trivial, launch0.admits_env _ _ _, launch0.least_env, fairChoices_fair.cas, fairChoices_fair.clock, w_frames, w_args, w_heap, w_applies, trivial, trivial, w_case⟩
end start1
theorem witness_1 : WitnessClaimed_1 := ⟨start1.p0, start1.e0, start1.about1, start1.theMethod, start1.args0, start1.below0, start1.atStart⟩
end Jvm.Pilot.@@N@@

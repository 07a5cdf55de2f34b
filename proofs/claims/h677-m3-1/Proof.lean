import JvmDerived
import JvmDerived.Pilot.@@N@@Statement
import JvmDerived.Pilot.@@N@@Code
set_option linter.unusedVariables false
set_option linter.unusedSimpArgs false
namespace Jvm.RoadKit
open Sem ClassFile Op Lib Jvm.Stand Jvm.Free Jvm.LawKit
section New
variable {p : Program} {l : Launch} {e : Env} {R : Room} {s : State} {m : MethodId} {args : Array Value} {below : List Frame} {meth : Method} {c : Code} {T : State} {locs : List Loc} {cells slots : Nat}
theorem retI (X : Stand p l e R s m args below meth c T locs cells slots) (hx : p.tables.exec = Jvm.exec) {pc : Nat} {Ls : Array Slot} {z : Int32} {rest : List Value} (hret : meth.sig.returnType = some .int) (hd : decode c.code pc = .ok (.ireturn, 1)) {fs : List Frame}
    (hl : ∀ (f : JFrame) (acts : List Action), f.method = m → f.locked = none → f.entered = [] → (doReturn e (T.setTop f) acts (some (.int z))).1 = T.setFrames fs) : Steps p.tables e below (T.setTop (mkF m pc Ls (.int z :: rest))) (T.setFrames fs) := by
  have hm' : T.vm.method? m = some meth := X.method'
  have hn : narrow .int (.int z) = .int z := rfl
  show Steps p.tables e below (T.setTop { method := m, pc := pc, locals := Ls, stack := _ :: rest, locked := none }) _
  jvm_step X.here [X.here.top, hx, hd, hm', hret, hn]
  first | (intro acts; rw [hl _ acts rfl rfl rfl]) | rw [hl _ _ rfl rfl rfl]
  exact Steps.refl _
end New
end Jvm.RoadKit
namespace Jvm.Pilot.@@N@@
open Jvm Jvm.ClassFile Sem Op Lib Jvm.Free Jvm.Stand Jvm.LawKit Jvm.RoadKit Bundle Jvm.Pilot.@@N@@.Jvm.D
theorem pn_0 : plainName "com/example/wireshape/wireshape/model/InternetChecksum" = true := by first | (simp [plainName, overriddenIn]; done) | decide +kernel
theorem d1_0 : decode prog_41_method_1_code 0 = .ok (.aload_n 0, 1) := by decide +kernel
theorem d1_1 : decode prog_41_method_1_code 1 = .ok (.invokespecial 1, 3) := by decide +kernel
theorem d1_4 : decode prog_41_method_1_code 4 = .ok (.return_, 1) := by decide +kernel
theorem ef_1 (m : MethodId) (x0 : Addr) : entryFrame m #[(.ref x0)] 1 = mkF m 0 #[.val (.ref x0)] [] := by first | (simp [entryFrame, mkF, argsToLocals, Value.category]; done) | rfl
def Q1 (Z : State) (a0t : Addr) (w_odd : Int32) (w_sum : Int64) (h0 : Heap) (n0 : Nat) (v : Option Value) (h : Heap) (L : List Loc) : Prop := v = none ∧ Fr n0 L ∧ h = h0
set_option maxRecDepth 65536 in
set_option maxHeartbeats 40000000 in
theorem rm1 (l : Launch) (Z : State) (a0 : Array Value) (hw : ∀ d ∈ tables_1, d.before a0 Z = true) (ws : List Jvm.Cond) (a0t : Addr) (w_odd : Int32) (w_sum : Int64) (h0 : Heap) (n0 : Nat) (Z0 : n0 ≤ h0.size) (E_this : Exa Z h0 a0t "com/example/wireshape/wireshape/model/InternetChecksum") (g_this : n0 ≤ a0t) (F_odd : Fld Z h0 a0t "com/example/wireshape/wireshape/model/InternetChecksum" "odd" "Z" (.int w_odd)) (F_sum : Fld Z h0 a0t "com/example/wireshape/wireshape/model/InternetChecksum" "sum" "J" (.long w_sum)) :
    MetFree l (⟨"com/example/wireshape/wireshape/model/InternetChecksum", "<init>", "()V"⟩ : MethodName) (head1 (Jvm.Cond.code (⟨"com/example/wireshape/wireshape/model/InternetChecksum", "<init>", "()V"⟩ : MethodName) prog_41_method_1_code 1 none :: ws) ({ frames := 1, cells := 0, slots := 0, locals := 12 } : Room)) (fun a U => a = #[(.ref a0t)] ∧ Z.Warmed39 U.vm ∧ U.heap = h0) (fun _ _ _ _ _ => True) (fun _ U o U' => ∃ v L, o = .returned v ∧ Q1 Z a0t w_odd w_sum h0 n0 v U'.heap L ∧ FrameEnd U o U' L ({ frames := 1, cells := 0, slots := 0, locals := 12 } : Room).cells ({ frames := 1, cells := 0, slots := 0, locals := 12 } : Room).slots) := by
  refine MetFree.of_bodySF (plainFor_of_name pn_0) hisR ?_
  intro p e s m args below meth c s₁ Bd hml0 hP hK
  obtain ⟨rfl, hZ, hh⟩ := hP
  have hx := Bd.exec
  have hby := Bd.bytes
  have hml : c.maxLocals = 1 := hml0
  have hown : s.vm.findClass "com/example/wireshape/wireshape/model/InternetChecksum" = some m.cls := findClass_of_methodNamed Bd.named
  have hnm := (name_of_methodNamed Bd.named Bd.method).1
  have X0 : Stand p l e ({ frames := 1, cells := 0, slots := 0, locals := 12 } : Room) s m #[(.ref a0t)] below meth c s₁ [] 0 0 := Stand.of_body Bd
  have e0 : s₁.heap = h0 := by rw [← hh, Bd.state]; rfl
  have hlk : meth.locks = false := by first | exact BodyLoose.notSynchronized Bd | exact Body.notSynchronized Bd
  have N0 := Fr.nil n0
  have K0 := Keep.refl h0 [a0t]
  have pre0 : ∀ t, Steps p.tables e below (s₁.setTop (mkF m 0 #[.val (.ref a0t)] [])) t → Steps p.tables e below (s₁.setTop (entryFrame m #[(.ref a0t)] 1)) t := fun t k => castTop (ef_1 m a0t) k
  obtain ⟨T1, X1, e1, st1⟩ := initO X0 hx hZ hown (hw _ (List.mem_of_getElem? (i := 7) rfl)) (hw _ (List.mem_of_getElem? (i := 8) rfl)) (hw _ (List.mem_of_getElem? (i := 9) rfl)) e0 (g := (mkF m 1 #[.val (.ref a0t)] [(.ref a0t)])) rfl (by rw [hml]; rfl) rfl (hb hby d1_1) (by decide) (W := 0) (by show 2 * 0 + _ ≤ _; exact Nat.le_of_eq rfl) (by decide)
  obtain ⟨fs, hr, hrun, hended, hW, hsame⟩ := X1.leave (v := none) (fun _ => rfl) hlk
  refine ⟨_, _, pre0 _ ?_, hrun, hended, _, _, rfl, ?_, ⟨_, rfl⟩, hW, hsame.mono (by decide) (by decide)⟩
  · show Steps p.tables e below (s₁.setTop (mkF m 0 #[.val (.ref a0t)] [])) _
    refine XS.aloadN X0.here hx rfl (hb hby d1_0) rfl rfl ?_
    show Steps p.tables e below (s₁.setTop (mkF m 1 #[.val (.ref a0t)] [(.ref a0t)])) _
    refine st1 _ ?_
    show Steps p.tables e below (T1.setTop (mkF m 4 #[.val (.ref a0t)] [])) _
    exact X1.returnOut hx Bd.returns (hb hby d1_4) hr
  · show Q1 Z a0t w_odd w_sum h0 n0 _ T1.heap _
    rw [e1]
    exact ⟨rfl, N0, rfl⟩
theorem pn_1 : plainName "com/example/wireshape/wireshape/model/InternetChecksumGetValuePinLaw" = true := by first | (simp [plainName, overriddenIn]; done) | decide +kernel
theorem d10_0 : decode method_2_code 0 = .ok (.lload_n 0, 1) := by decide +kernel
theorem d10_1 : decode method_2_code 1 = .ok (.bipush 8, 2) := by decide +kernel
theorem d10_3 : decode method_2_code 3 = .ok (.iload_n 2, 1) := by decide +kernel
theorem d10_4 : decode method_2_code 4 = .ok (.imul, 1) := by decide +kernel
theorem d10_5 : decode method_2_code 5 = .ok (.lushr, 1) := by decide +kernel
theorem d10_6 : decode method_2_code 6 = .ok (.ldc2_w 7, 3) := by decide +kernel
theorem d10_9 : decode method_2_code 9 = .ok (.land, 1) := by decide +kernel
theorem d10_10 : decode method_2_code 10 = .ok (.l2i, 1) := by decide +kernel
theorem d10_11 : decode method_2_code 11 = .ok (.ireturn, 1) := by decide +kernel
theorem ef_10 (m : MethodId) (x0 : Int64) (x1 : Int32) : entryFrame m #[(.long x0), (.int x1)] 3 = mkF m 0 #[.val (.long x0), .second, .val (.int x1)] [] := by first | (simp [entryFrame, mkF, argsToLocals, Value.category]; done) | rfl
def f10_e1 (q0 : Int64) (p1 : Int32) : Int64 := ((q0.toUInt64 >>> (((8 : Int32) * p1) &&& 0x3f).toInt64.toUInt64).toInt64)
def f10 (q0 : Int64) (p1 : Int32) : Int32 := (((f10_e1 q0 p1) &&& (255 : Int64)).toInt32)
def Q10 (Z : State) (q0 : Int64) (p1 : Int32) (h0 : Heap) (n0 : Nat) (v : Option Value) (h : Heap) (L : List Loc) : Prop := v = some (.int (f10 q0 p1)) ∧ Fr n0 L ∧ h = h0
set_option maxRecDepth 65536 in
set_option maxHeartbeats 40000000 in
theorem rm10 (l : Launch) (Z : State) (a0 : Array Value) (hw : ∀ d ∈ tables_1, d.before a0 Z = true) (ws : List Jvm.Cond) (q0 : Int64) (p1 : Int32) (h0 : Heap) (n0 : Nat) (Z0 : n0 ≤ h0.size)  :
    MetFree l (⟨"com/example/wireshape/wireshape/model/InternetChecksumGetValuePinLaw", "byteOf", "(JI)I"⟩ : MethodName) (head1 (Jvm.Cond.code (⟨"com/example/wireshape/wireshape/model/InternetChecksumGetValuePinLaw", "byteOf", "(JI)I"⟩ : MethodName) method_2_code 3 (some .int) :: ws) ({ frames := 0, cells := 0, slots := 0, locals := 0 } : Room)) (fun a U => a = #[(.long q0), (.int p1)] ∧ Z.Warmed39 U.vm ∧ U.heap = h0) (fun _ _ _ _ _ => True) (fun _ U o U' => ∃ v L, o = .returned v ∧ Q10 Z q0 p1 h0 n0 v U'.heap L ∧ FrameEnd U o U' L ({ frames := 0, cells := 0, slots := 0, locals := 0 } : Room).cells ({ frames := 0, cells := 0, slots := 0, locals := 0 } : Room).slots) := by
  refine MetFree.of_bodySF (plainFor_of_name pn_1) hisR ?_
  intro p e s m args below meth c s₁ Bd hml0 hP hK
  obtain ⟨rfl, hZ, hh⟩ := hP
  have hx := Bd.exec
  have hby := Bd.bytes
  have hml : c.maxLocals = 3 := hml0
  have hown : s.vm.findClass "com/example/wireshape/wireshape/model/InternetChecksumGetValuePinLaw" = some m.cls := findClass_of_methodNamed Bd.named
  have hnm := (name_of_methodNamed Bd.named Bd.method).1
  have X0 : Stand p l e ({ frames := 0, cells := 0, slots := 0, locals := 0 } : Room) s m #[(.long q0), (.int p1)] below meth c s₁ [] 0 0 := Stand.of_body Bd
  have e0 : s₁.heap = h0 := by rw [← hh, Bd.state]; rfl
  have hlk : meth.locks = false := by first | exact BodyLoose.notSynchronized Bd | exact Body.notSynchronized Bd
  have N0 := Fr.nil n0
  have K0 := Keep.refl h0 []
  have pre0 : ∀ t, Steps p.tables e below (s₁.setTop (mkF m 0 #[.val (.long q0), .second, .val (.int p1)] [])) t → Steps p.tables e below (s₁.setTop (entryFrame m #[(.long q0), (.int p1)] 3)) t := fun t k => castTop (ef_10 m q0 p1) k
  obtain ⟨fs, hr, hrun, hended, hW, hsame⟩ := X0.leave (v := some (.int (((f10_e1 q0 p1) &&& (255 : Int64)).toInt32))) (fun h => by rw [Bd.returns] at h; cases h) hlk
  refine ⟨_, _, pre0 _ ?_, hrun, hended, _, _, rfl, ?_, ⟨_, rfl⟩, hW, hsame.mono (by decide) (by decide)⟩
  · show Steps p.tables e below (s₁.setTop (mkF m 0 #[.val (.long q0), .second, .val (.int p1)] [])) _
    refine XS.lloadN X0.here hx rfl (hb hby d10_0) rfl ?_
    show Steps p.tables e below (s₁.setTop (mkF m 1 #[.val (.long q0), .second, .val (.int p1)] [(.long q0)])) _
    refine XS.bipush X0.here hx rfl (hb hby d10_1) ?_
    show Steps p.tables e below (s₁.setTop (mkF m 3 #[.val (.long q0), .second, .val (.int p1)] [(.int (8 : Int32)), (.long q0)])) _
    refine XS.iloadN X0.here hx rfl (hb hby d10_3) rfl ?_
    show Steps p.tables e below (s₁.setTop (mkF m 4 #[.val (.long q0), .second, .val (.int p1)] [(.int p1), (.int (8 : Int32)), (.long q0)])) _
    refine XS.imul X0.here hx rfl (hb hby d10_4) rfl ?_
    show Steps p.tables e below (s₁.setTop (mkF m 5 #[.val (.long q0), .second, .val (.int p1)] [(.int ((8 : Int32) * p1)), (.long q0)])) _
    refine XS.lushr X0.here hx rfl (hb hby d10_5) rfl ?_
    show Steps p.tables e below (s₁.setTop (mkF m 6 #[.val (.long q0), .second, .val (.int p1)] [(.long (f10_e1 q0 p1))])) _
    refine X0.ldc2Long hx hown (mvT hZ (hw _ (List.mem_of_getElem? (i := 49) rfl))) (g := (mkF m 6 #[.val (.long q0), .second, .val (.int p1)] [(.long (f10_e1 q0 p1))])) rfl (hb hby d10_6) _ ?_
    show Steps p.tables e below (s₁.setTop (mkF m 9 #[.val (.long q0), .second, .val (.int p1)] [(.long (255 : Int64)), (.long (f10_e1 q0 p1))])) _
    refine XS.land X0.here hx rfl (hb hby d10_9) rfl ?_
    show Steps p.tables e below (s₁.setTop (mkF m 10 #[.val (.long q0), .second, .val (.int p1)] [(.long ((f10_e1 q0 p1) &&& (255 : Int64)))])) _
    refine XS.l2i X0.here hx rfl (hb hby d10_10) rfl ?_
    show Steps p.tables e below (s₁.setTop (mkF m 11 #[.val (.long q0), .second, .val (.int p1)] [(.int (((f10_e1 q0 p1) &&& (255 : Int64)).toInt32))])) _
    exact retI X0 hx Bd.returns (hb hby d10_11) hr
  · show Q10 Z q0 p1 h0 n0 _ s₁.heap _
    rw [e0]
    exact ⟨by rw [show f10 q0 p1 = (((f10_e1 q0 p1) &&& (255 : Int64)).toInt32) from by unfold f10; rfl], N0, rfl⟩
theorem pd_0 : parseMethodDescriptor "(JI)I" = some ⟨[.long, .int], some .int⟩ := by decide +kernel
theorem d9_0 : decode method_3_code 0 = .ok (.iload 5, 2) := by decide +kernel
theorem d9_2 : decode method_3_code 2 = .ok (.ifCond .eq 7, 3) := by decide +kernel
theorem d9_5 : decode method_3_code 5 = .ok (.iconst 1, 1) := by decide +kernel
theorem d9_6 : decode method_3_code 6 = .ok (.goto 4, 3) := by decide +kernel
theorem d9_9 : decode method_3_code 9 = .ok (.iconst 0, 1) := by decide +kernel
theorem d9_10 : decode method_3_code 10 = .ok (.istore 7, 2) := by decide +kernel
theorem d9_12 : decode method_3_code 12 = .ok (.iload_n 0, 1) := by decide +kernel
theorem d9_13 : decode method_3_code 13 = .ok (.iload_n 3, 1) := by decide +kernel
theorem d9_14 : decode method_3_code 14 = .ok (.if_icmp .ge 9, 3) := by decide +kernel
theorem d9_17 : decode method_3_code 17 = .ok (.lload_n 1, 1) := by decide +kernel
theorem d9_18 : decode method_3_code 18 = .ok (.iload_n 0, 1) := by decide +kernel
theorem d9_19 : decode method_3_code 19 = .ok (.invokestatic 9, 3) := by decide +kernel
theorem d9_22 : decode method_3_code 22 = .ok (.ireturn, 1) := by decide +kernel
theorem d9_23 : decode method_3_code 23 = .ok (.iload 5, 2) := by decide +kernel
theorem d9_25 : decode method_3_code 25 = .ok (.ifCond .eq 15, 3) := by decide +kernel
theorem d9_28 : decode method_3_code 28 = .ok (.iload_n 0, 1) := by decide +kernel
theorem d9_29 : decode method_3_code 29 = .ok (.iload_n 3, 1) := by decide +kernel
theorem d9_30 : decode method_3_code 30 = .ok (.if_icmp .ne 10, 3) := by decide +kernel
theorem d9_33 : decode method_3_code 33 = .ok (.iload 6, 2) := by decide +kernel
theorem d9_35 : decode method_3_code 35 = .ok (.sipush 255, 3) := by decide +kernel
theorem d9_38 : decode method_3_code 38 = .ok (.iand, 1) := by decide +kernel
theorem d9_39 : decode method_3_code 39 = .ok (.ireturn, 1) := by decide +kernel
theorem d9_40 : decode method_3_code 40 = .ok (.iload_n 0, 1) := by decide +kernel
theorem d9_41 : decode method_3_code 41 = .ok (.iload 4, 2) := by decide +kernel
theorem d9_43 : decode method_3_code 43 = .ok (.iload 7, 2) := by decide +kernel
theorem d9_45 : decode method_3_code 45 = .ok (.iadd, 1) := by decide +kernel
theorem d9_46 : decode method_3_code 46 = .ok (.if_icmp .ge 12, 3) := by decide +kernel
theorem d9_49 : decode method_3_code 49 = .ok (.lload_n 1, 1) := by decide +kernel
theorem d9_50 : decode method_3_code 50 = .ok (.iload_n 0, 1) := by decide +kernel
theorem d9_51 : decode method_3_code 51 = .ok (.iload 7, 2) := by decide +kernel
theorem d9_53 : decode method_3_code 53 = .ok (.isub, 1) := by decide +kernel
theorem d9_54 : decode method_3_code 54 = .ok (.invokestatic 9, 3) := by decide +kernel
theorem d9_57 : decode method_3_code 57 = .ok (.ireturn, 1) := by decide +kernel
theorem d9_58 : decode method_3_code 58 = .ok (.iconst 0, 1) := by decide +kernel
theorem d9_59 : decode method_3_code 59 = .ok (.ireturn, 1) := by decide +kernel
theorem ef_9 (m : MethodId) (x0 : Int32) (x1 : Int64) (x2 : Int32) (x3 : Int32) (x4 : Int32) (x5 : Int32) : entryFrame m #[(.int x0), (.long x1), (.int x2), (.int x3), (.int x4), (.int x5)] 8 = mkF m 0 #[.val (.int x0), .val (.long x1), .second, .val (.int x2), .val (.int x3), .val (.int x4), .val (.int x5), .unset] [] := by first | (simp [entryFrame, mkF, argsToLocals, Value.category]; done) | rfl
def f9_s0_10001 (p4 : Int32) : Int32 := (if p4 = (0 : Int32) then (0 : Int32) else (1 : Int32))
def f9 (p0 : Int32) (q1 : Int64) (p2 : Int32) (p3 : Int32) (p4 : Int32) (p5 : Int32) : Int32 := (if p0 < p2 then (f10 q1 p0) else (if p4 = (0 : Int32) then (if p0 < (p3 + (f9_s0_10001 p4)) then (f10 q1 (p0 - (f9_s0_10001 p4))) else (0 : Int32)) else (if p0 = p2 then (p5 &&& (255 : Int32)) else (if p0 < (p3 + (f9_s0_10001 p4)) then (f10 q1 (p0 - (f9_s0_10001 p4))) else (0 : Int32)))))
def Q9 (Z : State) (p0 : Int32) (q1 : Int64) (p2 : Int32) (p3 : Int32) (p4 : Int32) (p5 : Int32) (h0 : Heap) (n0 : Nat) (v : Option Value) (h : Heap) (L : List Loc) : Prop := v = some (.int (f9 p0 q1 p2 p3 p4 p5)) ∧ Fr n0 L ∧ h = h0
set_option maxRecDepth 65536 in
set_option maxHeartbeats 40000000 in
theorem rm9 (l : Launch) (Z : State) (a0 : Array Value) (hw : ∀ d ∈ tables_1, d.before a0 Z = true) (ws : List Jvm.Cond) (p0 : Int32) (q1 : Int64) (p2 : Int32) (p3 : Int32) (p4 : Int32) (p5 : Int32) (h0 : Heap) (n0 : Nat) (Z0 : n0 ≤ h0.size)  :
    MetFree l (⟨"com/example/wireshape/wireshape/model/InternetChecksumGetValuePinLaw", "at", "(IJIIZI)I"⟩ : MethodName) (head1 (Jvm.Cond.code (⟨"com/example/wireshape/wireshape/model/InternetChecksumGetValuePinLaw", "at", "(IJIIZI)I"⟩ : MethodName) method_3_code 8 (some .int) :: ws) ({ frames := 1, cells := 0, slots := 0, locals := 14 } : Room)) (fun a U => a = #[(.int p0), (.long q1), (.int p2), (.int p3), (.int p4), (.int p5)] ∧ Z.Warmed39 U.vm ∧ U.heap = h0) (fun _ _ _ _ _ => True) (fun _ U o U' => ∃ v L, o = .returned v ∧ Q9 Z p0 q1 p2 p3 p4 p5 h0 n0 v U'.heap L ∧ FrameEnd U o U' L ({ frames := 1, cells := 0, slots := 0, locals := 14 } : Room).cells ({ frames := 1, cells := 0, slots := 0, locals := 14 } : Room).slots) := by
  refine MetFree.of_bodySF (plainFor_of_name pn_1) hisR ?_
  intro p e s m args below meth c s₁ Bd hml0 hP hK
  obtain ⟨rfl, hZ, hh⟩ := hP
  have hx := Bd.exec
  have hby := Bd.bytes
  have hml : c.maxLocals = 8 := hml0
  have hown : s.vm.findClass "com/example/wireshape/wireshape/model/InternetChecksumGetValuePinLaw" = some m.cls := findClass_of_methodNamed Bd.named
  have hnm := (name_of_methodNamed Bd.named Bd.method).1
  have X0 : Stand p l e ({ frames := 1, cells := 0, slots := 0, locals := 14 } : Room) s m #[(.int p0), (.long q1), (.int p2), (.int p3), (.int p4), (.int p5)] below meth c s₁ [] 0 0 := Stand.of_body Bd
  have e0 : s₁.heap = h0 := by rw [← hh, Bd.state]; rfl
  have hlk : meth.locks = false := by first | exact BodyLoose.notSynchronized Bd | exact Body.notSynchronized Bd
  have N0 := Fr.nil n0
  have K0 := Keep.refl h0 []
  have pre0 : ∀ t, Steps p.tables e below (s₁.setTop (mkF m 0 #[.val (.int p0), .val (.long q1), .second, .val (.int p2), .val (.int p3), .val (.int p4), .val (.int p5), .unset] [])) t → Steps p.tables e below (s₁.setTop (entryFrame m #[(.int p0), (.long q1), (.int p2), (.int p3), (.int p4), (.int p5)] 8)) t := fun t k => castTop (ef_9 m p0 q1 p2 p3 p4 p5) k
  have pre1 : ∀ t, Steps p.tables e below (s₁.setTop (mkF m 2 #[.val (.int p0), .val (.long q1), .second, .val (.int p2), .val (.int p3), .val (.int p4), .val (.int p5), .unset] [(.int p4)])) t → Steps p.tables e below (s₁.setTop (entryFrame m #[(.int p0), (.long q1), (.int p2), (.int p3), (.int p4), (.int p5)] 8)) t := fun t kt => pre0 t (by
    show Steps p.tables e below (s₁.setTop (mkF m 0 #[.val (.int p0), .val (.long q1), .second, .val (.int p2), .val (.int p3), .val (.int p4), .val (.int p5), .unset] [])) _
    refine XS.iload X0.here hx rfl (hb hby d9_0) rfl ?_
    exact kt)
  have pre3 : ∀ t, Steps p.tables e below (s₁.setTop (mkF m 10 #[.val (.int p0), .val (.long q1), .second, .val (.int p2), .val (.int p3), .val (.int p4), .val (.int p5), .unset] [(.int (f9_s0_10001 p4))])) t → Steps p.tables e below (s₁.setTop (entryFrame m #[(.int p0), (.long q1), (.int p2), (.int p3), (.int p4), (.int p5)] 8)) t := by
    intro t kt
    by_cases hc2 : p4 = (0 : Int32)
    · have hj : (f9_s0_10001 p4) = (0 : Int32) := by unfold f9_s0_10001; rw [if_pos hc2]
      rw [hj] at kt
      refine pre1 t ?_
      show Steps p.tables e below (s₁.setTop (mkF m 2 #[.val (.int p0), .val (.long q1), .second, .val (.int p2), .val (.int p3), .val (.int p4), .val (.int p5), .unset] [(.int p4)])) _
      refine XS.ifYes X0.here hx rfl (pc0 := 2) (pc' := 9) rfl (hb hby d9_2) rfl ((if0 _ _).trans (teq hc2).1) (by decide) (by decide) ?_
      show Steps p.tables e below (s₁.setTop (mkF m 9 #[.val (.int p0), .val (.long q1), .second, .val (.int p2), .val (.int p3), .val (.int p4), .val (.int p5), .unset] [])) _
      refine XS.iconst X0.here hx rfl (hb hby d9_9) ?_
      exact kt
    · have hj : (f9_s0_10001 p4) = (1 : Int32) := by unfold f9_s0_10001; rw [if_neg hc2]
      rw [hj] at kt
      refine pre1 t ?_
      show Steps p.tables e below (s₁.setTop (mkF m 2 #[.val (.int p0), .val (.long q1), .second, .val (.int p2), .val (.int p3), .val (.int p4), .val (.int p5), .unset] [(.int p4)])) _
      refine XS.ifNo X0.here hx rfl (hb hby d9_2) rfl ((if0 _ _).trans (feq hc2).1) ?_
      show Steps p.tables e below (s₁.setTop (mkF m 5 #[.val (.int p0), .val (.long q1), .second, .val (.int p2), .val (.int p3), .val (.int p4), .val (.int p5), .unset] [])) _
      refine XS.iconst X0.here hx rfl (hb hby d9_5) ?_
      show Steps p.tables e below (s₁.setTop (mkF m 6 #[.val (.int p0), .val (.long q1), .second, .val (.int p2), .val (.int p3), .val (.int p4), .val (.int p5), .unset] [(.int (1 : Int32))])) _
      refine XS.goto X0.here hx rfl (pc0 := 6) (pc' := 10) rfl (hb hby d9_6) (by decide) (by decide) ?_
      exact kt
  have pre4 : ∀ t, Steps p.tables e below (s₁.setTop (mkF m 14 #[.val (.int p0), .val (.long q1), .second, .val (.int p2), .val (.int p3), .val (.int p4), .val (.int p5), .val (.int (f9_s0_10001 p4))] [(.int p2), (.int p0)])) t → Steps p.tables e below (s₁.setTop (entryFrame m #[(.int p0), (.long q1), (.int p2), (.int p3), (.int p4), (.int p5)] 8)) t := fun t kt => pre3 t (by
    show Steps p.tables e below (s₁.setTop (mkF m 10 #[.val (.int p0), .val (.long q1), .second, .val (.int p2), .val (.int p3), .val (.int p4), .val (.int p5), .unset] [(.int (f9_s0_10001 p4))])) _
    refine XS.istore X0.here hx rfl (hb hby d9_10) rfl (l' := #[.val (.int p0), .val (.long q1), .second, .val (.int p2), .val (.int p3), .val (.int p4), .val (.int p5), .val (.int (f9_s0_10001 p4))]) rfl ?_
    show Steps p.tables e below (s₁.setTop (mkF m 12 #[.val (.int p0), .val (.long q1), .second, .val (.int p2), .val (.int p3), .val (.int p4), .val (.int p5), .val (.int (f9_s0_10001 p4))] [])) _
    refine XS.iloadN X0.here hx rfl (hb hby d9_12) rfl ?_
    show Steps p.tables e below (s₁.setTop (mkF m 13 #[.val (.int p0), .val (.long q1), .second, .val (.int p2), .val (.int p3), .val (.int p4), .val (.int p5), .val (.int (f9_s0_10001 p4))] [(.int p0)])) _
    refine XS.iloadN X0.here hx rfl (hb hby d9_13) rfl ?_
    exact kt)
  by_cases hc5 : p0 < p2
  · obtain ⟨_, _, ⟨T6, L6, k6, n6⟩, -, X6, ⟨Lc6, hQ6, l6, y6, z6⟩, st6⟩ := Jvm.LawKit.callS X0 hx (y := (⟨"com/example/wireshape/wireshape/model/InternetChecksumGetValuePinLaw", "byteOf", "(JI)I"⟩ : MethodName)) hown (mvT hZ (hw _ (List.mem_of_getElem? (i := 46) rfl))) (mvT hZ (hw _ (List.mem_of_getElem? (i := 47) rfl))) (mvT hZ (hw _ (List.mem_of_getElem? (i := 44) rfl))) (mvT hZ (hw _ (List.mem_of_getElem? (i := 48) rfl))) (by decide) (backOf (W := 0) (rm10 l Z a0 hw [] q1 p0 h0 n0 Z0) hZ (hw _ (List.mem_of_getElem? (i := 48) rfl)) (hw _ (List.mem_of_getElem? (i := 44) rfl)) (by decide) (by decide)) (g := (mkF m 19 #[.val (.int p0), .val (.long q1), .second, .val (.int p2), .val (.int p3), .val (.int p4), .val (.int p5), .val (.int (f9_s0_10001 p4))] [(.int p0), (.long q1)])) rfl (by rw [hml]; rfl) (argsL := [(.long q1), (.int p0)]) (rest := []) (lenOf pd_0 rfl) rfl (by show 2 * 0 + _ ≤ _; exact Nat.le_of_eq rfl) (hb hby d9_19) (fun _ _ => ⟨rfl, e0, (by decide : 0 + 0 ≤ _), (by decide : 0 + 0 ≤ _)⟩)
    dsimp only [Pt.U, Pt.locs, Pt.cells, Pt.slots] at X6 l6 y6 z6 st6 hQ6
    obtain rfl : k6 = 0 := y6
    obtain rfl : n6 = 0 := z6
    obtain ⟨rfl, N6q, e6⟩ := hQ6
    have N6 : Fr n0 L6 := by rw [l6]; exact Fr.app N0 N6q
    obtain ⟨fs, hr, hrun, hended, hW, hsame⟩ := X6.leave (v := some (.int (f10 q1 p0))) (fun h => by rw [Bd.returns] at h; cases h) hlk
    refine ⟨_, _, pre4 _ ?_, hrun, hended, _, _, rfl, ?_, ⟨_, rfl⟩, hW, hsame.mono (by decide) (by decide)⟩
    · show Steps p.tables e below (s₁.setTop (mkF m 14 #[.val (.int p0), .val (.long q1), .second, .val (.int p2), .val (.int p3), .val (.int p4), .val (.int p5), .val (.int (f9_s0_10001 p4))] [(.int p2), (.int p0)])) _
      refine XS.icmpNo X0.here hx rfl (hb hby d9_14) rfl (tlt hc5).2.1 ?_
      show Steps p.tables e below (s₁.setTop (mkF m 17 #[.val (.int p0), .val (.long q1), .second, .val (.int p2), .val (.int p3), .val (.int p4), .val (.int p5), .val (.int (f9_s0_10001 p4))] [])) _
      refine XS.lloadN X0.here hx rfl (hb hby d9_17) rfl ?_
      show Steps p.tables e below (s₁.setTop (mkF m 18 #[.val (.int p0), .val (.long q1), .second, .val (.int p2), .val (.int p3), .val (.int p4), .val (.int p5), .val (.int (f9_s0_10001 p4))] [(.long q1)])) _
      refine XS.iloadN X0.here hx rfl (hb hby d9_18) rfl ?_
      show Steps p.tables e below (s₁.setTop (mkF m 19 #[.val (.int p0), .val (.long q1), .second, .val (.int p2), .val (.int p3), .val (.int p4), .val (.int p5), .val (.int (f9_s0_10001 p4))] [(.int p0), (.long q1)])) _
      refine st6 _ ?_
      show Steps p.tables e below (T6.setTop (mkF m 22 #[.val (.int p0), .val (.long q1), .second, .val (.int p2), .val (.int p3), .val (.int p4), .val (.int p5), .val (.int (f9_s0_10001 p4))] [(.int (f10 q1 p0))])) _
      exact retI X6 hx Bd.returns (hb hby d9_22) hr
    · show Q9 Z p0 q1 p2 p3 p4 p5 h0 n0 _ T6.heap _
      rw [e6]
      exact ⟨by rw [show f9 p0 q1 p2 p3 p4 p5 = (f10 q1 p0) from by unfold f9; rw [if_pos hc5]], N6, rfl⟩
  · have pre7 : ∀ t, Steps p.tables e below (s₁.setTop (mkF m 25 #[.val (.int p0), .val (.long q1), .second, .val (.int p2), .val (.int p3), .val (.int p4), .val (.int p5), .val (.int (f9_s0_10001 p4))] [(.int p4)])) t → Steps p.tables e below (s₁.setTop (entryFrame m #[(.int p0), (.long q1), (.int p2), (.int p3), (.int p4), (.int p5)] 8)) t := fun t kt => pre4 t (by
      show Steps p.tables e below (s₁.setTop (mkF m 14 #[.val (.int p0), .val (.long q1), .second, .val (.int p2), .val (.int p3), .val (.int p4), .val (.int p5), .val (.int (f9_s0_10001 p4))] [(.int p2), (.int p0)])) _
      refine XS.icmpYes X0.here hx rfl (pc0 := 14) (pc' := 23) rfl (hb hby d9_14) rfl (flt hc5).2.1 (by decide) (by decide) ?_
      show Steps p.tables e below (s₁.setTop (mkF m 23 #[.val (.int p0), .val (.long q1), .second, .val (.int p2), .val (.int p3), .val (.int p4), .val (.int p5), .val (.int (f9_s0_10001 p4))] [])) _
      refine XS.iload X0.here hx rfl (hb hby d9_23) rfl ?_
      exact kt)
    by_cases hc8 : p4 = (0 : Int32)
    · have pre9 : ∀ t, Steps p.tables e below (s₁.setTop (mkF m 46 #[.val (.int p0), .val (.long q1), .second, .val (.int p2), .val (.int p3), .val (.int p4), .val (.int p5), .val (.int (f9_s0_10001 p4))] [(.int (p3 + (f9_s0_10001 p4))), (.int p0)])) t → Steps p.tables e below (s₁.setTop (entryFrame m #[(.int p0), (.long q1), (.int p2), (.int p3), (.int p4), (.int p5)] 8)) t := fun t kt => pre7 t (by
        show Steps p.tables e below (s₁.setTop (mkF m 25 #[.val (.int p0), .val (.long q1), .second, .val (.int p2), .val (.int p3), .val (.int p4), .val (.int p5), .val (.int (f9_s0_10001 p4))] [(.int p4)])) _
        refine XS.ifYes X0.here hx rfl (pc0 := 25) (pc' := 40) rfl (hb hby d9_25) rfl ((if0 _ _).trans (teq hc8).1) (by decide) (by decide) ?_
        show Steps p.tables e below (s₁.setTop (mkF m 40 #[.val (.int p0), .val (.long q1), .second, .val (.int p2), .val (.int p3), .val (.int p4), .val (.int p5), .val (.int (f9_s0_10001 p4))] [])) _
        refine XS.iloadN X0.here hx rfl (hb hby d9_40) rfl ?_
        show Steps p.tables e below (s₁.setTop (mkF m 41 #[.val (.int p0), .val (.long q1), .second, .val (.int p2), .val (.int p3), .val (.int p4), .val (.int p5), .val (.int (f9_s0_10001 p4))] [(.int p0)])) _
        refine XS.iload X0.here hx rfl (hb hby d9_41) rfl ?_
        show Steps p.tables e below (s₁.setTop (mkF m 43 #[.val (.int p0), .val (.long q1), .second, .val (.int p2), .val (.int p3), .val (.int p4), .val (.int p5), .val (.int (f9_s0_10001 p4))] [(.int p3), (.int p0)])) _
        refine XS.iload X0.here hx rfl (hb hby d9_43) rfl ?_
        show Steps p.tables e below (s₁.setTop (mkF m 45 #[.val (.int p0), .val (.long q1), .second, .val (.int p2), .val (.int p3), .val (.int p4), .val (.int p5), .val (.int (f9_s0_10001 p4))] [(.int (f9_s0_10001 p4)), (.int p3), (.int p0)])) _
        refine XS.iadd X0.here hx rfl (hb hby d9_45) rfl ?_
        exact kt)
      by_cases hc10 : p0 < (p3 + (f9_s0_10001 p4))
      · obtain ⟨_, _, ⟨T11, L11, k11, n11⟩, -, X11, ⟨Lc11, hQ11, l11, y11, z11⟩, st11⟩ := Jvm.LawKit.callS X0 hx (y := (⟨"com/example/wireshape/wireshape/model/InternetChecksumGetValuePinLaw", "byteOf", "(JI)I"⟩ : MethodName)) hown (mvT hZ (hw _ (List.mem_of_getElem? (i := 46) rfl))) (mvT hZ (hw _ (List.mem_of_getElem? (i := 47) rfl))) (mvT hZ (hw _ (List.mem_of_getElem? (i := 44) rfl))) (mvT hZ (hw _ (List.mem_of_getElem? (i := 48) rfl))) (by decide) (backOf (W := 0) (rm10 l Z a0 hw [] q1 (p0 - (f9_s0_10001 p4)) h0 n0 Z0) hZ (hw _ (List.mem_of_getElem? (i := 48) rfl)) (hw _ (List.mem_of_getElem? (i := 44) rfl)) (by decide) (by decide)) (g := (mkF m 54 #[.val (.int p0), .val (.long q1), .second, .val (.int p2), .val (.int p3), .val (.int p4), .val (.int p5), .val (.int (f9_s0_10001 p4))] [(.int (p0 - (f9_s0_10001 p4))), (.long q1)])) rfl (by rw [hml]; rfl) (argsL := [(.long q1), (.int (p0 - (f9_s0_10001 p4)))]) (rest := []) (lenOf pd_0 rfl) rfl (by show 2 * 0 + _ ≤ _; exact Nat.le_of_eq rfl) (hb hby d9_54) (fun _ _ => ⟨rfl, e0, (by decide : 0 + 0 ≤ _), (by decide : 0 + 0 ≤ _)⟩)
        dsimp only [Pt.U, Pt.locs, Pt.cells, Pt.slots] at X11 l11 y11 z11 st11 hQ11
        obtain rfl : k11 = 0 := y11
        obtain rfl : n11 = 0 := z11
        obtain ⟨rfl, N11q, e11⟩ := hQ11
        have N11 : Fr n0 L11 := by rw [l11]; exact Fr.app N0 N11q
        obtain ⟨fs, hr, hrun, hended, hW, hsame⟩ := X11.leave (v := some (.int (f10 q1 (p0 - (f9_s0_10001 p4))))) (fun h => by rw [Bd.returns] at h; cases h) hlk
        refine ⟨_, _, pre9 _ ?_, hrun, hended, _, _, rfl, ?_, ⟨_, rfl⟩, hW, hsame.mono (by decide) (by decide)⟩
        · show Steps p.tables e below (s₁.setTop (mkF m 46 #[.val (.int p0), .val (.long q1), .second, .val (.int p2), .val (.int p3), .val (.int p4), .val (.int p5), .val (.int (f9_s0_10001 p4))] [(.int (p3 + (f9_s0_10001 p4))), (.int p0)])) _
          refine XS.icmpNo X0.here hx rfl (hb hby d9_46) rfl (tlt hc10).2.1 ?_
          show Steps p.tables e below (s₁.setTop (mkF m 49 #[.val (.int p0), .val (.long q1), .second, .val (.int p2), .val (.int p3), .val (.int p4), .val (.int p5), .val (.int (f9_s0_10001 p4))] [])) _
          refine XS.lloadN X0.here hx rfl (hb hby d9_49) rfl ?_
          show Steps p.tables e below (s₁.setTop (mkF m 50 #[.val (.int p0), .val (.long q1), .second, .val (.int p2), .val (.int p3), .val (.int p4), .val (.int p5), .val (.int (f9_s0_10001 p4))] [(.long q1)])) _
          refine XS.iloadN X0.here hx rfl (hb hby d9_50) rfl ?_
          show Steps p.tables e below (s₁.setTop (mkF m 51 #[.val (.int p0), .val (.long q1), .second, .val (.int p2), .val (.int p3), .val (.int p4), .val (.int p5), .val (.int (f9_s0_10001 p4))] [(.int p0), (.long q1)])) _
          refine XS.iload X0.here hx rfl (hb hby d9_51) rfl ?_
          show Steps p.tables e below (s₁.setTop (mkF m 53 #[.val (.int p0), .val (.long q1), .second, .val (.int p2), .val (.int p3), .val (.int p4), .val (.int p5), .val (.int (f9_s0_10001 p4))] [(.int (f9_s0_10001 p4)), (.int p0), (.long q1)])) _
          refine XS.isub X0.here hx rfl (hb hby d9_53) rfl ?_
          show Steps p.tables e below (s₁.setTop (mkF m 54 #[.val (.int p0), .val (.long q1), .second, .val (.int p2), .val (.int p3), .val (.int p4), .val (.int p5), .val (.int (f9_s0_10001 p4))] [(.int (p0 - (f9_s0_10001 p4))), (.long q1)])) _
          refine st11 _ ?_
          show Steps p.tables e below (T11.setTop (mkF m 57 #[.val (.int p0), .val (.long q1), .second, .val (.int p2), .val (.int p3), .val (.int p4), .val (.int p5), .val (.int (f9_s0_10001 p4))] [(.int (f10 q1 (p0 - (f9_s0_10001 p4))))])) _
          exact retI X11 hx Bd.returns (hb hby d9_57) hr
        · show Q9 Z p0 q1 p2 p3 p4 p5 h0 n0 _ T11.heap _
          rw [e11]
          exact ⟨by rw [show f9 p0 q1 p2 p3 p4 p5 = (f10 q1 (p0 - (f9_s0_10001 p4))) from by unfold f9; rw [if_neg hc5, if_pos hc8, if_pos hc10]], N11, rfl⟩
      · obtain ⟨fs, hr, hrun, hended, hW, hsame⟩ := X0.leave (v := some (.int (0 : Int32))) (fun h => by rw [Bd.returns] at h; cases h) hlk
        refine ⟨_, _, pre9 _ ?_, hrun, hended, _, _, rfl, ?_, ⟨_, rfl⟩, hW, hsame.mono (by decide) (by decide)⟩
        · show Steps p.tables e below (s₁.setTop (mkF m 46 #[.val (.int p0), .val (.long q1), .second, .val (.int p2), .val (.int p3), .val (.int p4), .val (.int p5), .val (.int (f9_s0_10001 p4))] [(.int (p3 + (f9_s0_10001 p4))), (.int p0)])) _
          refine XS.icmpYes X0.here hx rfl (pc0 := 46) (pc' := 58) rfl (hb hby d9_46) rfl (flt hc10).2.1 (by decide) (by decide) ?_
          show Steps p.tables e below (s₁.setTop (mkF m 58 #[.val (.int p0), .val (.long q1), .second, .val (.int p2), .val (.int p3), .val (.int p4), .val (.int p5), .val (.int (f9_s0_10001 p4))] [])) _
          refine XS.iconst X0.here hx rfl (hb hby d9_58) ?_
          show Steps p.tables e below (s₁.setTop (mkF m 59 #[.val (.int p0), .val (.long q1), .second, .val (.int p2), .val (.int p3), .val (.int p4), .val (.int p5), .val (.int (f9_s0_10001 p4))] [(.int (0 : Int32))])) _
          exact retI X0 hx Bd.returns (hb hby d9_59) hr
        · show Q9 Z p0 q1 p2 p3 p4 p5 h0 n0 _ s₁.heap _
          rw [e0]
          exact ⟨by rw [show f9 p0 q1 p2 p3 p4 p5 = (0 : Int32) from by unfold f9; rw [if_neg hc5, if_pos hc8, if_neg hc10]], N0, rfl⟩
    · have pre12 : ∀ t, Steps p.tables e below (s₁.setTop (mkF m 30 #[.val (.int p0), .val (.long q1), .second, .val (.int p2), .val (.int p3), .val (.int p4), .val (.int p5), .val (.int (f9_s0_10001 p4))] [(.int p2), (.int p0)])) t → Steps p.tables e below (s₁.setTop (entryFrame m #[(.int p0), (.long q1), (.int p2), (.int p3), (.int p4), (.int p5)] 8)) t := fun t kt => pre7 t (by
        show Steps p.tables e below (s₁.setTop (mkF m 25 #[.val (.int p0), .val (.long q1), .second, .val (.int p2), .val (.int p3), .val (.int p4), .val (.int p5), .val (.int (f9_s0_10001 p4))] [(.int p4)])) _
        refine XS.ifNo X0.here hx rfl (hb hby d9_25) rfl ((if0 _ _).trans (feq hc8).1) ?_
        show Steps p.tables e below (s₁.setTop (mkF m 28 #[.val (.int p0), .val (.long q1), .second, .val (.int p2), .val (.int p3), .val (.int p4), .val (.int p5), .val (.int (f9_s0_10001 p4))] [])) _
        refine XS.iloadN X0.here hx rfl (hb hby d9_28) rfl ?_
        show Steps p.tables e below (s₁.setTop (mkF m 29 #[.val (.int p0), .val (.long q1), .second, .val (.int p2), .val (.int p3), .val (.int p4), .val (.int p5), .val (.int (f9_s0_10001 p4))] [(.int p0)])) _
        refine XS.iloadN X0.here hx rfl (hb hby d9_29) rfl ?_
        exact kt)
      by_cases hc13 : p0 = p2
      · obtain ⟨fs, hr, hrun, hended, hW, hsame⟩ := X0.leave (v := some (.int (p5 &&& (255 : Int32)))) (fun h => by rw [Bd.returns] at h; cases h) hlk
        refine ⟨_, _, pre12 _ ?_, hrun, hended, _, _, rfl, ?_, ⟨_, rfl⟩, hW, hsame.mono (by decide) (by decide)⟩
        · show Steps p.tables e below (s₁.setTop (mkF m 30 #[.val (.int p0), .val (.long q1), .second, .val (.int p2), .val (.int p3), .val (.int p4), .val (.int p5), .val (.int (f9_s0_10001 p4))] [(.int p2), (.int p0)])) _
          refine XS.icmpNo X0.here hx rfl (hb hby d9_30) rfl (teq hc13).2 ?_
          show Steps p.tables e below (s₁.setTop (mkF m 33 #[.val (.int p0), .val (.long q1), .second, .val (.int p2), .val (.int p3), .val (.int p4), .val (.int p5), .val (.int (f9_s0_10001 p4))] [])) _
          refine XS.iload X0.here hx rfl (hb hby d9_33) rfl ?_
          show Steps p.tables e below (s₁.setTop (mkF m 35 #[.val (.int p0), .val (.long q1), .second, .val (.int p2), .val (.int p3), .val (.int p4), .val (.int p5), .val (.int (f9_s0_10001 p4))] [(.int p5)])) _
          refine XS.sipush X0.here hx rfl (hb hby d9_35) ?_
          show Steps p.tables e below (s₁.setTop (mkF m 38 #[.val (.int p0), .val (.long q1), .second, .val (.int p2), .val (.int p3), .val (.int p4), .val (.int p5), .val (.int (f9_s0_10001 p4))] [(.int (255 : Int32)), (.int p5)])) _
          refine XS.iand X0.here hx rfl (hb hby d9_38) rfl ?_
          show Steps p.tables e below (s₁.setTop (mkF m 39 #[.val (.int p0), .val (.long q1), .second, .val (.int p2), .val (.int p3), .val (.int p4), .val (.int p5), .val (.int (f9_s0_10001 p4))] [(.int (p5 &&& (255 : Int32)))])) _
          exact retI X0 hx Bd.returns (hb hby d9_39) hr
        · show Q9 Z p0 q1 p2 p3 p4 p5 h0 n0 _ s₁.heap _
          rw [e0]
          exact ⟨by rw [show f9 p0 q1 p2 p3 p4 p5 = (p5 &&& (255 : Int32)) from by unfold f9; rw [if_neg hc5, if_neg hc8, if_pos hc13]], N0, rfl⟩
      · have pre14 : ∀ t, Steps p.tables e below (s₁.setTop (mkF m 46 #[.val (.int p0), .val (.long q1), .second, .val (.int p2), .val (.int p3), .val (.int p4), .val (.int p5), .val (.int (f9_s0_10001 p4))] [(.int (p3 + (f9_s0_10001 p4))), (.int p0)])) t → Steps p.tables e below (s₁.setTop (entryFrame m #[(.int p0), (.long q1), (.int p2), (.int p3), (.int p4), (.int p5)] 8)) t := fun t kt => pre12 t (by
          show Steps p.tables e below (s₁.setTop (mkF m 30 #[.val (.int p0), .val (.long q1), .second, .val (.int p2), .val (.int p3), .val (.int p4), .val (.int p5), .val (.int (f9_s0_10001 p4))] [(.int p2), (.int p0)])) _
          refine XS.icmpYes X0.here hx rfl (pc0 := 30) (pc' := 40) rfl (hb hby d9_30) rfl (feq hc13).2 (by decide) (by decide) ?_
          show Steps p.tables e below (s₁.setTop (mkF m 40 #[.val (.int p0), .val (.long q1), .second, .val (.int p2), .val (.int p3), .val (.int p4), .val (.int p5), .val (.int (f9_s0_10001 p4))] [])) _
          refine XS.iloadN X0.here hx rfl (hb hby d9_40) rfl ?_
          show Steps p.tables e below (s₁.setTop (mkF m 41 #[.val (.int p0), .val (.long q1), .second, .val (.int p2), .val (.int p3), .val (.int p4), .val (.int p5), .val (.int (f9_s0_10001 p4))] [(.int p0)])) _
          refine XS.iload X0.here hx rfl (hb hby d9_41) rfl ?_
          show Steps p.tables e below (s₁.setTop (mkF m 43 #[.val (.int p0), .val (.long q1), .second, .val (.int p2), .val (.int p3), .val (.int p4), .val (.int p5), .val (.int (f9_s0_10001 p4))] [(.int p3), (.int p0)])) _
          refine XS.iload X0.here hx rfl (hb hby d9_43) rfl ?_
          show Steps p.tables e below (s₁.setTop (mkF m 45 #[.val (.int p0), .val (.long q1), .second, .val (.int p2), .val (.int p3), .val (.int p4), .val (.int p5), .val (.int (f9_s0_10001 p4))] [(.int (f9_s0_10001 p4)), (.int p3), (.int p0)])) _
          refine XS.iadd X0.here hx rfl (hb hby d9_45) rfl ?_
          exact kt)
        by_cases hc15 : p0 < (p3 + (f9_s0_10001 p4))
        · obtain ⟨_, _, ⟨T16, L16, k16, n16⟩, -, X16, ⟨Lc16, hQ16, l16, y16, z16⟩, st16⟩ := Jvm.LawKit.callS X0 hx (y := (⟨"com/example/wireshape/wireshape/model/InternetChecksumGetValuePinLaw", "byteOf", "(JI)I"⟩ : MethodName)) hown (mvT hZ (hw _ (List.mem_of_getElem? (i := 46) rfl))) (mvT hZ (hw _ (List.mem_of_getElem? (i := 47) rfl))) (mvT hZ (hw _ (List.mem_of_getElem? (i := 44) rfl))) (mvT hZ (hw _ (List.mem_of_getElem? (i := 48) rfl))) (by decide) (backOf (W := 0) (rm10 l Z a0 hw [] q1 (p0 - (f9_s0_10001 p4)) h0 n0 Z0) hZ (hw _ (List.mem_of_getElem? (i := 48) rfl)) (hw _ (List.mem_of_getElem? (i := 44) rfl)) (by decide) (by decide)) (g := (mkF m 54 #[.val (.int p0), .val (.long q1), .second, .val (.int p2), .val (.int p3), .val (.int p4), .val (.int p5), .val (.int (f9_s0_10001 p4))] [(.int (p0 - (f9_s0_10001 p4))), (.long q1)])) rfl (by rw [hml]; rfl) (argsL := [(.long q1), (.int (p0 - (f9_s0_10001 p4)))]) (rest := []) (lenOf pd_0 rfl) rfl (by show 2 * 0 + _ ≤ _; exact Nat.le_of_eq rfl) (hb hby d9_54) (fun _ _ => ⟨rfl, e0, (by decide : 0 + 0 ≤ _), (by decide : 0 + 0 ≤ _)⟩)
          dsimp only [Pt.U, Pt.locs, Pt.cells, Pt.slots] at X16 l16 y16 z16 st16 hQ16
          obtain rfl : k16 = 0 := y16
          obtain rfl : n16 = 0 := z16
          obtain ⟨rfl, N16q, e16⟩ := hQ16
          have N16 : Fr n0 L16 := by rw [l16]; exact Fr.app N0 N16q
          obtain ⟨fs, hr, hrun, hended, hW, hsame⟩ := X16.leave (v := some (.int (f10 q1 (p0 - (f9_s0_10001 p4))))) (fun h => by rw [Bd.returns] at h; cases h) hlk
          refine ⟨_, _, pre14 _ ?_, hrun, hended, _, _, rfl, ?_, ⟨_, rfl⟩, hW, hsame.mono (by decide) (by decide)⟩
          · show Steps p.tables e below (s₁.setTop (mkF m 46 #[.val (.int p0), .val (.long q1), .second, .val (.int p2), .val (.int p3), .val (.int p4), .val (.int p5), .val (.int (f9_s0_10001 p4))] [(.int (p3 + (f9_s0_10001 p4))), (.int p0)])) _
            refine XS.icmpNo X0.here hx rfl (hb hby d9_46) rfl (tlt hc15).2.1 ?_
            show Steps p.tables e below (s₁.setTop (mkF m 49 #[.val (.int p0), .val (.long q1), .second, .val (.int p2), .val (.int p3), .val (.int p4), .val (.int p5), .val (.int (f9_s0_10001 p4))] [])) _
            refine XS.lloadN X0.here hx rfl (hb hby d9_49) rfl ?_
            show Steps p.tables e below (s₁.setTop (mkF m 50 #[.val (.int p0), .val (.long q1), .second, .val (.int p2), .val (.int p3), .val (.int p4), .val (.int p5), .val (.int (f9_s0_10001 p4))] [(.long q1)])) _
            refine XS.iloadN X0.here hx rfl (hb hby d9_50) rfl ?_
            show Steps p.tables e below (s₁.setTop (mkF m 51 #[.val (.int p0), .val (.long q1), .second, .val (.int p2), .val (.int p3), .val (.int p4), .val (.int p5), .val (.int (f9_s0_10001 p4))] [(.int p0), (.long q1)])) _
            refine XS.iload X0.here hx rfl (hb hby d9_51) rfl ?_
            show Steps p.tables e below (s₁.setTop (mkF m 53 #[.val (.int p0), .val (.long q1), .second, .val (.int p2), .val (.int p3), .val (.int p4), .val (.int p5), .val (.int (f9_s0_10001 p4))] [(.int (f9_s0_10001 p4)), (.int p0), (.long q1)])) _
            refine XS.isub X0.here hx rfl (hb hby d9_53) rfl ?_
            show Steps p.tables e below (s₁.setTop (mkF m 54 #[.val (.int p0), .val (.long q1), .second, .val (.int p2), .val (.int p3), .val (.int p4), .val (.int p5), .val (.int (f9_s0_10001 p4))] [(.int (p0 - (f9_s0_10001 p4))), (.long q1)])) _
            refine st16 _ ?_
            show Steps p.tables e below (T16.setTop (mkF m 57 #[.val (.int p0), .val (.long q1), .second, .val (.int p2), .val (.int p3), .val (.int p4), .val (.int p5), .val (.int (f9_s0_10001 p4))] [(.int (f10 q1 (p0 - (f9_s0_10001 p4))))])) _
            exact retI X16 hx Bd.returns (hb hby d9_57) hr
          · show Q9 Z p0 q1 p2 p3 p4 p5 h0 n0 _ T16.heap _
            rw [e16]
            exact ⟨by rw [show f9 p0 q1 p2 p3 p4 p5 = (f10 q1 (p0 - (f9_s0_10001 p4))) from by unfold f9; rw [if_neg hc5, if_neg hc8, if_neg hc13, if_pos hc15]], N16, rfl⟩
        · obtain ⟨fs, hr, hrun, hended, hW, hsame⟩ := X0.leave (v := some (.int (0 : Int32))) (fun h => by rw [Bd.returns] at h; cases h) hlk
          refine ⟨_, _, pre14 _ ?_, hrun, hended, _, _, rfl, ?_, ⟨_, rfl⟩, hW, hsame.mono (by decide) (by decide)⟩
          · show Steps p.tables e below (s₁.setTop (mkF m 46 #[.val (.int p0), .val (.long q1), .second, .val (.int p2), .val (.int p3), .val (.int p4), .val (.int p5), .val (.int (f9_s0_10001 p4))] [(.int (p3 + (f9_s0_10001 p4))), (.int p0)])) _
            refine XS.icmpYes X0.here hx rfl (pc0 := 46) (pc' := 58) rfl (hb hby d9_46) rfl (flt hc15).2.1 (by decide) (by decide) ?_
            show Steps p.tables e below (s₁.setTop (mkF m 58 #[.val (.int p0), .val (.long q1), .second, .val (.int p2), .val (.int p3), .val (.int p4), .val (.int p5), .val (.int (f9_s0_10001 p4))] [])) _
            refine XS.iconst X0.here hx rfl (hb hby d9_58) ?_
            show Steps p.tables e below (s₁.setTop (mkF m 59 #[.val (.int p0), .val (.long q1), .second, .val (.int p2), .val (.int p3), .val (.int p4), .val (.int p5), .val (.int (f9_s0_10001 p4))] [(.int (0 : Int32))])) _
            exact retI X0 hx Bd.returns (hb hby d9_59) hr
          · show Q9 Z p0 q1 p2 p3 p4 p5 h0 n0 _ s₁.heap _
            rw [e0]
            exact ⟨by rw [show f9 p0 q1 p2 p3 p4 p5 = (0 : Int32) from by unfold f9; rw [if_neg hc5, if_neg hc8, if_neg hc13, if_neg hc15]], N0, rfl⟩
theorem d8_0 : decode prog_41_method_4_code 0 = .ok (.aload_n 0, 1) := by decide +kernel
theorem d8_1 : decode prog_41_method_4_code 1 = .ok (.getfield 7, 3) := by decide +kernel
theorem d8_4 : decode prog_41_method_4_code 4 = .ok (.ldc2_w 31, 3) := by decide +kernel
theorem d8_7 : decode prog_41_method_4_code 7 = .ok (.lxor, 1) := by decide +kernel
theorem d8_8 : decode prog_41_method_4_code 8 = .ok (.ldc2_w 33, 3) := by decide +kernel
theorem d8_11 : decode prog_41_method_4_code 11 = .ok (.land, 1) := by decide +kernel
theorem d8_12 : decode prog_41_method_4_code 12 = .ok (.lreturn, 1) := by decide +kernel
theorem ef_8 (m : MethodId) (x0 : Addr) : entryFrame m #[(.ref x0)] 1 = mkF m 0 #[.val (.ref x0)] [] := by first | (simp [entryFrame, mkF, argsToLocals, Value.category]; done) | rfl
def f8 (w_odd : Int32) (w_sum : Int64) : Int64 := ((w_sum ^^^ (-1 : Int64)) &&& (65535 : Int64))
def Q8 (Z : State) (a0t : Addr) (w_odd : Int32) (w_sum : Int64) (h0 : Heap) (n0 : Nat) (v : Option Value) (h : Heap) (L : List Loc) : Prop := v = some (.long (f8 w_odd w_sum)) ∧ Fr n0 L ∧ h = h0
set_option maxRecDepth 65536 in
set_option maxHeartbeats 40000000 in
theorem rm8 (l : Launch) (Z : State) (a0 : Array Value) (hw : ∀ d ∈ tables_1, d.before a0 Z = true) (ws : List Jvm.Cond) (a0t : Addr) (w_odd : Int32) (w_sum : Int64) (h0 : Heap) (n0 : Nat) (Z0 : n0 ≤ h0.size) (E_this : Exa Z h0 a0t "com/example/wireshape/wireshape/model/InternetChecksum") (g_this : n0 ≤ a0t) (F_odd : Fld Z h0 a0t "com/example/wireshape/wireshape/model/InternetChecksum" "odd" "Z" (.int w_odd)) (F_sum : Fld Z h0 a0t "com/example/wireshape/wireshape/model/InternetChecksum" "sum" "J" (.long w_sum)) :
    MetFree l (⟨"com/example/wireshape/wireshape/model/InternetChecksum", "getValue", "()J"⟩ : MethodName) (head1 (Jvm.Cond.code (⟨"com/example/wireshape/wireshape/model/InternetChecksum", "getValue", "()J"⟩ : MethodName) prog_41_method_4_code 1 (some .long) :: ws) ({ frames := 0, cells := 0, slots := 0, locals := 0 } : Room)) (fun a U => a = #[(.ref a0t)] ∧ Z.Warmed39 U.vm ∧ U.heap = h0) (fun _ _ _ _ _ => True) (fun _ U o U' => ∃ v L, o = .returned v ∧ Q8 Z a0t w_odd w_sum h0 n0 v U'.heap L ∧ FrameEnd U o U' L ({ frames := 0, cells := 0, slots := 0, locals := 0 } : Room).cells ({ frames := 0, cells := 0, slots := 0, locals := 0 } : Room).slots) := by
  refine MetFree.of_bodySF (plainFor_of_name pn_0) hisR ?_
  intro p e s m args below meth c s₁ Bd hml0 hP hK
  obtain ⟨rfl, hZ, hh⟩ := hP
  have hx := Bd.exec
  have hby := Bd.bytes
  have hml : c.maxLocals = 1 := hml0
  have hown : s.vm.findClass "com/example/wireshape/wireshape/model/InternetChecksum" = some m.cls := findClass_of_methodNamed Bd.named
  have hnm := (name_of_methodNamed Bd.named Bd.method).1
  have X0 : Stand p l e ({ frames := 0, cells := 0, slots := 0, locals := 0 } : Room) s m #[(.ref a0t)] below meth c s₁ [] 0 0 := Stand.of_body Bd
  have e0 : s₁.heap = h0 := by rw [← hh, Bd.state]; rfl
  have hlk : meth.locks = false := by first | exact BodyLoose.notSynchronized Bd | exact Body.notSynchronized Bd
  have N0 := Fr.nil n0
  have K0 := Keep.refl h0 [a0t]
  have pre0 : ∀ t, Steps p.tables e below (s₁.setTop (mkF m 0 #[.val (.ref a0t)] [])) t → Steps p.tables e below (s₁.setTop (entryFrame m #[(.ref a0t)] 1)) t := fun t k => castTop (ef_8 m a0t) k
  obtain ⟨T1, X1, e1, st1⟩ := getF X0 hx hZ hown (host := "") (Or.inl (hw _ (List.mem_of_getElem? (i := 25) rfl))) Via.refl e0 F_sum (g := (mkF m 1 #[.val (.ref a0t)] [(.ref a0t)])) rfl rfl (hb hby d8_1)
  obtain ⟨fs, hr, hrun, hended, hW, hsame⟩ := X1.leave (v := some (.long ((w_sum ^^^ (-1 : Int64)) &&& (65535 : Int64)))) (fun h => by rw [Bd.returns] at h; cases h) hlk
  refine ⟨_, _, pre0 _ ?_, hrun, hended, _, _, rfl, ?_, ⟨_, rfl⟩, hW, hsame.mono (by decide) (by decide)⟩
  · show Steps p.tables e below (s₁.setTop (mkF m 0 #[.val (.ref a0t)] [])) _
    refine XS.aloadN X0.here hx rfl (hb hby d8_0) rfl rfl ?_
    show Steps p.tables e below (s₁.setTop (mkF m 1 #[.val (.ref a0t)] [(.ref a0t)])) _
    refine st1 _ ?_
    show Steps p.tables e below (T1.setTop (mkF m 4 #[.val (.ref a0t)] [(.long w_sum)])) _
    refine X1.ldc2Long hx hown (mvT hZ (hw _ (List.mem_of_getElem? (i := 40) rfl))) (g := (mkF m 4 #[.val (.ref a0t)] [(.long w_sum)])) rfl (hb hby d8_4) _ ?_
    show Steps p.tables e below (T1.setTop (mkF m 7 #[.val (.ref a0t)] [(.long (-1 : Int64)), (.long w_sum)])) _
    refine XS.lxor X1.here hx rfl (hb hby d8_7) rfl ?_
    show Steps p.tables e below (T1.setTop (mkF m 8 #[.val (.ref a0t)] [(.long (w_sum ^^^ (-1 : Int64)))])) _
    refine X1.ldc2Long hx hown (mvT hZ (hw _ (List.mem_of_getElem? (i := 41) rfl))) (g := (mkF m 8 #[.val (.ref a0t)] [(.long (w_sum ^^^ (-1 : Int64)))])) rfl (hb hby d8_8) _ ?_
    show Steps p.tables e below (T1.setTop (mkF m 11 #[.val (.ref a0t)] [(.long (65535 : Int64)), (.long (w_sum ^^^ (-1 : Int64)))])) _
    refine XS.land X1.here hx rfl (hb hby d8_11) rfl ?_
    show Steps p.tables e below (T1.setTop (mkF m 12 #[.val (.ref a0t)] [(.long ((w_sum ^^^ (-1 : Int64)) &&& (65535 : Int64)))])) _
    exact X1.lreturnOut hx Bd.returns (hb hby d8_12) hr
  · show Q8 Z a0t w_odd w_sum h0 n0 _ T1.heap _
    rw [e1]
    exact ⟨by rw [show f8 w_odd w_sum = ((w_sum ^^^ (-1 : Int64)) &&& (65535 : Int64)) from by unfold f8; rfl], N0, rfl⟩
theorem pn_2 : plainName "jdk/internal/util/Preconditions" = true := by first | (simp [plainName, overriddenIn]; done) | decide +kernel
theorem d5_0 : decode jdk_41_method_13_code 0 = .ok (.iload_n 2, 1) := by decide +kernel
theorem d5_1 : decode jdk_41_method_13_code 1 = .ok (.iload_n 0, 1) := by decide +kernel
theorem d5_2 : decode jdk_41_method_13_code 2 = .ok (.ior, 1) := by decide +kernel
theorem d5_3 : decode jdk_41_method_13_code 3 = .ok (.iload_n 1, 1) := by decide +kernel
theorem d5_4 : decode jdk_41_method_13_code 4 = .ok (.ior, 1) := by decide +kernel
theorem d5_5 : decode jdk_41_method_13_code 5 = .ok (.ifCond .lt 10, 3) := by decide +kernel
theorem d5_8 : decode jdk_41_method_13_code 8 = .ok (.iload_n 1, 1) := by decide +kernel
theorem d5_9 : decode jdk_41_method_13_code 9 = .ok (.iload_n 2, 1) := by decide +kernel
theorem d5_10 : decode jdk_41_method_13_code 10 = .ok (.iload_n 0, 1) := by decide +kernel
theorem d5_11 : decode jdk_41_method_13_code 11 = .ok (.isub, 1) := by decide +kernel
theorem d5_12 : decode jdk_41_method_13_code 12 = .ok (.if_icmp .le 11, 3) := by decide +kernel
theorem d5_23 : decode jdk_41_method_13_code 23 = .ok (.iload_n 0, 1) := by decide +kernel
theorem d5_24 : decode jdk_41_method_13_code 24 = .ok (.ireturn, 1) := by decide +kernel
theorem ef_5 (m : MethodId) (x0 : Int32) (x1 : Int32) (x2 : Int32) : entryFrame m #[(.int x0), (.int x1), (.int x2), .null] 4 = mkF m 0 #[.val (.int x0), .val (.int x1), .val (.int x2), .val .null] [] := by first | (simp [entryFrame, mkF, argsToLocals, Value.category]; done) | rfl
def f5 (p0 : Int32) (p1 : Int32) (p2 : Int32) : Int32 := p0
def Q5 (Z : State) (p0 : Int32) (p1 : Int32) (p2 : Int32) (h0 : Heap) (n0 : Nat) (v : Option Value) (h : Heap) (L : List Loc) : Prop := v = some (.int (f5 p0 p1 p2)) ∧ Fr n0 L ∧ h = h0
set_option maxRecDepth 65536 in
set_option maxHeartbeats 40000000 in
theorem rm5 (l : Launch) (Z : State) (a0 : Array Value) (hw : ∀ d ∈ tables_1, d.before a0 Z = true) (ws : List Jvm.Cond) (p0 : Int32) (p1 : Int32) (p2 : Int32) (h0 : Heap) (n0 : Nat) (Z0 : n0 ≤ h0.size) (hf5 : ¬ (((p2 ||| p0) ||| p1) < (0 : Int32))) (hf12 : ¬ ((p2 - p0) < p1)) :
    MetFree l (⟨"jdk/internal/util/Preconditions", "checkFromIndexSize", "(IIILjava/util/function/BiFunction;)I"⟩ : MethodName) (head1 (Jvm.Cond.code (⟨"jdk/internal/util/Preconditions", "checkFromIndexSize", "(IIILjava/util/function/BiFunction;)I"⟩ : MethodName) jdk_41_method_13_code 4 (some .int) :: ws) ({ frames := 0, cells := 0, slots := 0, locals := 0 } : Room)) (fun a U => a = #[(.int p0), (.int p1), (.int p2), .null] ∧ Z.Warmed39 U.vm ∧ U.heap = h0) (fun _ _ _ _ _ => True) (fun _ U o U' => ∃ v L, o = .returned v ∧ Q5 Z p0 p1 p2 h0 n0 v U'.heap L ∧ FrameEnd U o U' L ({ frames := 0, cells := 0, slots := 0, locals := 0 } : Room).cells ({ frames := 0, cells := 0, slots := 0, locals := 0 } : Room).slots) := by
  refine MetFree.of_bodySF (plainFor_of_name pn_2) hisR ?_
  intro p e s m args below meth c s₁ Bd hml0 hP hK
  obtain ⟨rfl, hZ, hh⟩ := hP
  have hx := Bd.exec
  have hby := Bd.bytes
  have hml : c.maxLocals = 4 := hml0
  have hown : s.vm.findClass "jdk/internal/util/Preconditions" = some m.cls := findClass_of_methodNamed Bd.named
  have hnm := (name_of_methodNamed Bd.named Bd.method).1
  have X0 : Stand p l e ({ frames := 0, cells := 0, slots := 0, locals := 0 } : Room) s m #[(.int p0), (.int p1), (.int p2), .null] below meth c s₁ [] 0 0 := Stand.of_body Bd
  have e0 : s₁.heap = h0 := by rw [← hh, Bd.state]; rfl
  have hlk : meth.locks = false := by first | exact BodyLoose.notSynchronized Bd | exact Body.notSynchronized Bd
  have N0 := Fr.nil n0
  have K0 := Keep.refl h0 []
  have pre0 : ∀ t, Steps p.tables e below (s₁.setTop (mkF m 0 #[.val (.int p0), .val (.int p1), .val (.int p2), .val .null] [])) t → Steps p.tables e below (s₁.setTop (entryFrame m #[(.int p0), (.int p1), (.int p2), .null] 4)) t := fun t k => castTop (ef_5 m p0 p1 p2) k
  obtain ⟨fs, hr, hrun, hended, hW, hsame⟩ := X0.leave (v := some (.int p0)) (fun h => by rw [Bd.returns] at h; cases h) hlk
  refine ⟨_, _, pre0 _ ?_, hrun, hended, _, _, rfl, ?_, ⟨_, rfl⟩, hW, hsame.mono (by decide) (by decide)⟩
  · show Steps p.tables e below (s₁.setTop (mkF m 0 #[.val (.int p0), .val (.int p1), .val (.int p2), .val .null] [])) _
    refine XS.iloadN X0.here hx rfl (hb hby d5_0) rfl ?_
    show Steps p.tables e below (s₁.setTop (mkF m 1 #[.val (.int p0), .val (.int p1), .val (.int p2), .val .null] [(.int p2)])) _
    refine XS.iloadN X0.here hx rfl (hb hby d5_1) rfl ?_
    show Steps p.tables e below (s₁.setTop (mkF m 2 #[.val (.int p0), .val (.int p1), .val (.int p2), .val .null] [(.int p0), (.int p2)])) _
    refine XS.ior X0.here hx rfl (hb hby d5_2) rfl ?_
    show Steps p.tables e below (s₁.setTop (mkF m 3 #[.val (.int p0), .val (.int p1), .val (.int p2), .val .null] [(.int (p2 ||| p0))])) _
    refine XS.iloadN X0.here hx rfl (hb hby d5_3) rfl ?_
    show Steps p.tables e below (s₁.setTop (mkF m 4 #[.val (.int p0), .val (.int p1), .val (.int p2), .val .null] [(.int p1), (.int (p2 ||| p0))])) _
    refine XS.ior X0.here hx rfl (hb hby d5_4) rfl ?_
    show Steps p.tables e below (s₁.setTop (mkF m 5 #[.val (.int p0), .val (.int p1), .val (.int p2), .val .null] [(.int ((p2 ||| p0) ||| p1))])) _
    refine XS.ifNo X0.here hx rfl (hb hby d5_5) rfl ((if0 _ _).trans (flt hf5).1) ?_
    show Steps p.tables e below (s₁.setTop (mkF m 8 #[.val (.int p0), .val (.int p1), .val (.int p2), .val .null] [])) _
    refine XS.iloadN X0.here hx rfl (hb hby d5_8) rfl ?_
    show Steps p.tables e below (s₁.setTop (mkF m 9 #[.val (.int p0), .val (.int p1), .val (.int p2), .val .null] [(.int p1)])) _
    refine XS.iloadN X0.here hx rfl (hb hby d5_9) rfl ?_
    show Steps p.tables e below (s₁.setTop (mkF m 10 #[.val (.int p0), .val (.int p1), .val (.int p2), .val .null] [(.int p2), (.int p1)])) _
    refine XS.iloadN X0.here hx rfl (hb hby d5_10) rfl ?_
    show Steps p.tables e below (s₁.setTop (mkF m 11 #[.val (.int p0), .val (.int p1), .val (.int p2), .val .null] [(.int p0), (.int p2), (.int p1)])) _
    refine XS.isub X0.here hx rfl (hb hby d5_11) rfl ?_
    show Steps p.tables e below (s₁.setTop (mkF m 12 #[.val (.int p0), .val (.int p1), .val (.int p2), .val .null] [(.int (p2 - p0)), (.int p1)])) _
    refine XS.icmpYes X0.here hx rfl (pc0 := 12) (pc' := 23) rfl (hb hby d5_12) rfl (flt hf12).2.2.2 (by decide) (by decide) ?_
    show Steps p.tables e below (s₁.setTop (mkF m 23 #[.val (.int p0), .val (.int p1), .val (.int p2), .val .null] [])) _
    refine XS.iloadN X0.here hx rfl (hb hby d5_23) rfl ?_
    show Steps p.tables e below (s₁.setTop (mkF m 24 #[.val (.int p0), .val (.int p1), .val (.int p2), .val .null] [(.int p0)])) _
    exact retI X0 hx Bd.returns (hb hby d5_24) hr
  · show Q5 Z p0 p1 p2 h0 n0 _ s₁.heap _
    rw [e0]
    exact ⟨by rw [show f5 p0 p1 p2 = p0 from by unfold f5; rfl], N0, rfl⟩
theorem pd_1 : parseMethodDescriptor "(IIILjava/util/function/BiFunction;)I" = some ⟨[.int, .int, .int, (.object "java/util/function/BiFunction")], some .int⟩ := by decide +kernel
theorem pn_3 : plainName "java/util/Objects" = true := by first | (simp [plainName, overriddenIn]; done) | decide +kernel
theorem d4_0 : decode jdk_31_method_19_code 0 = .ok (.iload_n 0, 1) := by decide +kernel
theorem d4_1 : decode jdk_31_method_19_code 1 = .ok (.iload_n 1, 1) := by decide +kernel
theorem d4_2 : decode jdk_31_method_19_code 2 = .ok (.iload_n 2, 1) := by decide +kernel
theorem d4_3 : decode jdk_31_method_19_code 3 = .ok (.aconst_null, 1) := by decide +kernel
theorem d4_4 : decode jdk_31_method_19_code 4 = .ok (.invokestatic 115, 3) := by decide +kernel
theorem d4_7 : decode jdk_31_method_19_code 7 = .ok (.ireturn, 1) := by decide +kernel
theorem ef_4 (m : MethodId) (x0 : Int32) (x1 : Int32) (x2 : Int32) : entryFrame m #[(.int x0), (.int x1), (.int x2)] 3 = mkF m 0 #[.val (.int x0), .val (.int x1), .val (.int x2)] [] := by first | (simp [entryFrame, mkF, argsToLocals, Value.category]; done) | rfl
def f4 (p0 : Int32) (p1 : Int32) (p2 : Int32) : Int32 := (f5 p0 p1 p2)
def Q4 (Z : State) (p0 : Int32) (p1 : Int32) (p2 : Int32) (h0 : Heap) (n0 : Nat) (v : Option Value) (h : Heap) (L : List Loc) : Prop := v = some (.int (f4 p0 p1 p2)) ∧ Fr n0 L ∧ h = h0
set_option maxRecDepth 65536 in
set_option maxHeartbeats 40000000 in
theorem rm4 (l : Launch) (Z : State) (a0 : Array Value) (hw : ∀ d ∈ tables_1, d.before a0 Z = true) (ws : List Jvm.Cond) (p0 : Int32) (p1 : Int32) (p2 : Int32) (h0 : Heap) (n0 : Nat) (Z0 : n0 ≤ h0.size) (hA : ¬ (((p2 ||| p0) ||| p1) < (0 : Int32))) (hB : ¬ ((p2 - p0) < p1)) :
    MetFree l (⟨"java/util/Objects", "checkFromIndexSize", "(III)I"⟩ : MethodName) (head1 (Jvm.Cond.code (⟨"java/util/Objects", "checkFromIndexSize", "(III)I"⟩ : MethodName) jdk_31_method_19_code 3 (some .int) :: ws) ({ frames := 1, cells := 0, slots := 0, locals := 15 } : Room)) (fun a U => a = #[(.int p0), (.int p1), (.int p2)] ∧ Z.Warmed39 U.vm ∧ U.heap = h0) (fun _ _ _ _ _ => True) (fun _ U o U' => ∃ v L, o = .returned v ∧ Q4 Z p0 p1 p2 h0 n0 v U'.heap L ∧ FrameEnd U o U' L ({ frames := 1, cells := 0, slots := 0, locals := 15 } : Room).cells ({ frames := 1, cells := 0, slots := 0, locals := 15 } : Room).slots) := by
  refine MetFree.of_bodySF (plainFor_of_name pn_3) hisR ?_
  intro p e s m args below meth c s₁ Bd hml0 hP hK
  obtain ⟨rfl, hZ, hh⟩ := hP
  have hx := Bd.exec
  have hby := Bd.bytes
  have hml : c.maxLocals = 3 := hml0
  have hown : s.vm.findClass "java/util/Objects" = some m.cls := findClass_of_methodNamed Bd.named
  have hnm := (name_of_methodNamed Bd.named Bd.method).1
  have X0 : Stand p l e ({ frames := 1, cells := 0, slots := 0, locals := 15 } : Room) s m #[(.int p0), (.int p1), (.int p2)] below meth c s₁ [] 0 0 := Stand.of_body Bd
  have e0 : s₁.heap = h0 := by rw [← hh, Bd.state]; rfl
  have hlk : meth.locks = false := by first | exact BodyLoose.notSynchronized Bd | exact Body.notSynchronized Bd
  have N0 := Fr.nil n0
  have K0 := Keep.refl h0 []
  have pre0 : ∀ t, Steps p.tables e below (s₁.setTop (mkF m 0 #[.val (.int p0), .val (.int p1), .val (.int p2)] [])) t → Steps p.tables e below (s₁.setTop (entryFrame m #[(.int p0), (.int p1), (.int p2)] 3)) t := fun t k => castTop (ef_4 m p0 p1 p2) k
  obtain ⟨_, _, ⟨T1, L1, k1, n1⟩, -, X1, ⟨Lc1, hQ1, l1, y1, z1⟩, st1⟩ := Jvm.LawKit.callS X0 hx (y := (⟨"jdk/internal/util/Preconditions", "checkFromIndexSize", "(IIILjava/util/function/BiFunction;)I"⟩ : MethodName)) hown (mvT hZ (hw _ (List.mem_of_getElem? (i := 19) rfl))) (mvT hZ (hw _ (List.mem_of_getElem? (i := 20) rfl))) (mvT hZ (hw _ (List.mem_of_getElem? (i := 21) rfl))) (mvT hZ (hw _ (List.mem_of_getElem? (i := 22) rfl))) (by decide) (backOf (W := 0) (rm5 l Z a0 hw [] p0 p1 p2 h0 n0 Z0 hA hB) hZ (hw _ (List.mem_of_getElem? (i := 22) rfl)) (hw _ (List.mem_of_getElem? (i := 21) rfl)) (by decide) (by decide)) (g := (mkF m 4 #[.val (.int p0), .val (.int p1), .val (.int p2)] [.null, (.int p2), (.int p1), (.int p0)])) rfl (by rw [hml]; rfl) (argsL := [(.int p0), (.int p1), (.int p2), .null]) (rest := []) (lenOf pd_1 rfl) rfl (by show 2 * 0 + _ ≤ _; exact Nat.le_of_eq rfl) (hb hby d4_4) (fun _ _ => ⟨rfl, e0, (by decide : 0 + 0 ≤ _), (by decide : 0 + 0 ≤ _)⟩)
  dsimp only [Pt.U, Pt.locs, Pt.cells, Pt.slots] at X1 l1 y1 z1 st1 hQ1
  obtain rfl : k1 = 0 := y1
  obtain rfl : n1 = 0 := z1
  obtain ⟨rfl, N1q, e1⟩ := hQ1
  have N1 : Fr n0 L1 := by rw [l1]; exact Fr.app N0 N1q
  obtain ⟨fs, hr, hrun, hended, hW, hsame⟩ := X1.leave (v := some (.int (f5 p0 p1 p2))) (fun h => by rw [Bd.returns] at h; cases h) hlk
  refine ⟨_, _, pre0 _ ?_, hrun, hended, _, _, rfl, ?_, ⟨_, rfl⟩, hW, hsame.mono (by decide) (by decide)⟩
  · show Steps p.tables e below (s₁.setTop (mkF m 0 #[.val (.int p0), .val (.int p1), .val (.int p2)] [])) _
    refine XS.iloadN X0.here hx rfl (hb hby d4_0) rfl ?_
    show Steps p.tables e below (s₁.setTop (mkF m 1 #[.val (.int p0), .val (.int p1), .val (.int p2)] [(.int p0)])) _
    refine XS.iloadN X0.here hx rfl (hb hby d4_1) rfl ?_
    show Steps p.tables e below (s₁.setTop (mkF m 2 #[.val (.int p0), .val (.int p1), .val (.int p2)] [(.int p1), (.int p0)])) _
    refine XS.iloadN X0.here hx rfl (hb hby d4_2) rfl ?_
    show Steps p.tables e below (s₁.setTop (mkF m 3 #[.val (.int p0), .val (.int p1), .val (.int p2)] [(.int p2), (.int p1), (.int p0)])) _
    refine XS.aconstNull X0.here hx rfl (hb hby d4_3) ?_
    show Steps p.tables e below (s₁.setTop (mkF m 4 #[.val (.int p0), .val (.int p1), .val (.int p2)] [.null, (.int p2), (.int p1), (.int p0)])) _
    refine st1 _ ?_
    show Steps p.tables e below (T1.setTop (mkF m 7 #[.val (.int p0), .val (.int p1), .val (.int p2)] [(.int (f5 p0 p1 p2))])) _
    exact retI X1 hx Bd.returns (hb hby d4_7) hr
  · show Q4 Z p0 p1 p2 h0 n0 _ T1.heap _
    rw [e1]
    exact ⟨by rw [show f4 p0 p1 p2 = (f5 p0 p1 p2) from by unfold f4; rfl], N1, rfl⟩
def own_canon (n : Int) : Int := if n = 0 then 0 else (n - 1) % 65535 + 1
theorem own_cr (n : Int) : 0 ≤ own_canon n ∧ own_canon n ≤ 65535 := by unfold own_canon; split <;> omega
theorem own_ci (n : Int) (h0 : 0 ≤ n) (h1 : n < 65536) : own_canon n = n := by unfold own_canon; split <;> omega
theorem own_cc (a b : Int) (ha : 0 ≤ a) (hb : 0 ≤ b) : own_canon (own_canon a + b) = own_canon (a + b) := by
  unfold own_canon
  by_cases h : a = 0
  · rw [if_pos h, h]
  · rw [if_neg h]
    rw [if_neg (show ¬ (a - 1) % 65535 + 1 + b = 0 by omega), if_neg (show ¬ a + b = 0 by omega)]
    omega
def own_fold (y : Int64) : Int64 := Int64.ofInt (own_canon y.toInt)
theorem own_foldv (y : Int64) : (own_fold y).toInt = own_canon y.toInt := by
  have h := own_cr y.toInt
  unfold own_fold
  exact Int64.toInt_ofInt_of_le (by omega) (by omega)
theorem own_sh16 (y : Int64) (h0 : 0 ≤ y.toInt) : ((y.toUInt64 >>> ((16 : Int32) &&& 0x3f).toInt64.toUInt64).toInt64).toInt = y.toInt / 65536 := by
  have e := c_lushr y 16 16 rfl (by decide)
  have r := rng64 y
  have e2 : ((2 ^ 16 : Nat) : Int) = 65536 := by decide
  rw [e2] at e
  omega
theorem own_fold_id (y : Int64) (h0 : 0 ≤ y.toInt) (hc : (lcmpW ((y.toUInt64 >>> ((16 : Int32) &&& 0x3f).toInt64.toUInt64).toInt64) (0 : Int64)) = (0 : Int32)) : own_fold y = y := by
  rw [lw_eq] at hc
  have e := own_sh16 y h0
  rw [hc] at e
  have l0 : (0 : Int64).toInt = 0 := rfl
  apply Int64.toInt_inj.mp
  rw [own_foldv]
  exact own_ci _ h0 (by omega)
theorem own_fold_step (y : Int64) (h0 : 0 ≤ y.toInt) (hc : ¬ (lcmpW ((y.toUInt64 >>> ((16 : Int32) &&& 0x3f).toInt64.toUInt64).toInt64) (0 : Int64)) = (0 : Int32)) :
    0 ≤ ((y &&& (65535 : Int64)) + ((y.toUInt64 >>> ((16 : Int32) &&& 0x3f).toInt64.toUInt64).toInt64)).toInt ∧ ((y &&& (65535 : Int64)) + ((y.toUInt64 >>> ((16 : Int32) &&& 0x3f).toInt64.toUInt64).toInt64)).toInt < y.toInt ∧ own_fold ((y &&& (65535 : Int64)) + ((y.toUInt64 >>> ((16 : Int32) &&& 0x3f).toInt64.toUInt64).toInt64)) = own_fold y := by
  rw [lw_eq] at hc
  have e := own_sh16 y h0
  have m := c_maskL y 65535 16 (by decide) (by decide)
  have e2 : ((2 ^ 16 : Nat) : Int) = 65536 := by decide
  rw [e2] at m
  have hn : ¬ y.toInt / 65536 = 0 := fun q => hc (Int64.toInt_inj.mp (by rw [e, q]; rfl))
  generalize (y.toUInt64 >>> ((16 : Int32) &&& 0x3f).toInt64.toUInt64).toInt64 = u at *
  have a := c_ladd (y &&& 65535) u
  have r := rng64 ((y &&& 65535) + u)
  have r2 := rng64 y
  have v : ((y &&& 65535) + u).toInt = y.toInt % 65536 + y.toInt / 65536 := by omega
  refine ⟨by omega, by omega, ?_⟩
  apply Int64.toInt_inj.mp
  rw [own_foldv, own_foldv, v]
  unfold own_canon
  rw [if_neg (by omega), if_neg (by omega)]
  omega
theorem d6_0 : decode prog_41_method_6_code 0 = .ok (.lload_n 0, 1) := by decide +kernel
theorem d6_1 : decode prog_41_method_6_code 1 = .ok (.lstore_n 2, 1) := by decide +kernel
theorem d6_2 : decode prog_41_method_6_code 2 = .ok (.lload_n 2, 1) := by decide +kernel
theorem d6_3 : decode prog_41_method_6_code 3 = .ok (.bipush 16, 2) := by decide +kernel
theorem d6_5 : decode prog_41_method_6_code 5 = .ok (.lushr, 1) := by decide +kernel
theorem d6_6 : decode prog_41_method_6_code 6 = .ok (.lconst 0, 1) := by decide +kernel
theorem d6_7 : decode prog_41_method_6_code 7 = .ok (.lcmp, 1) := by decide +kernel
theorem d6_8 : decode prog_41_method_6_code 8 = .ok (.ifCond .eq 17, 3) := by decide +kernel
theorem d6_11 : decode prog_41_method_6_code 11 = .ok (.lload_n 2, 1) := by decide +kernel
theorem d6_12 : decode prog_41_method_6_code 12 = .ok (.ldc2_w 33, 3) := by decide +kernel
theorem d6_15 : decode prog_41_method_6_code 15 = .ok (.land, 1) := by decide +kernel
theorem d6_16 : decode prog_41_method_6_code 16 = .ok (.lload_n 2, 1) := by decide +kernel
theorem d6_17 : decode prog_41_method_6_code 17 = .ok (.bipush 16, 2) := by decide +kernel
theorem d6_19 : decode prog_41_method_6_code 19 = .ok (.lushr, 1) := by decide +kernel
theorem d6_20 : decode prog_41_method_6_code 20 = .ok (.ladd, 1) := by decide +kernel
theorem d6_21 : decode prog_41_method_6_code 21 = .ok (.lstore_n 2, 1) := by decide +kernel
theorem d6_22 : decode prog_41_method_6_code 22 = .ok (.goto (-20), 3) := by decide +kernel
theorem d6_25 : decode prog_41_method_6_code 25 = .ok (.lload_n 2, 1) := by decide +kernel
theorem d6_26 : decode prog_41_method_6_code 26 = .ok (.lreturn, 1) := by decide +kernel
theorem ef_6 (m : MethodId) (x0 : Int64) : entryFrame m #[(.long x0)] 4 = mkF m 0 #[.val (.long x0), .second, .unset, .unset] [] := by first | (simp [entryFrame, mkF, argsToLocals, Value.category]; done) | rfl
def f6 (q0 : Int64) : Int64 := (own_fold q0)
def Q6 (Z : State) (q0 : Int64) (h0 : Heap) (n0 : Nat) (v : Option Value) (h : Heap) (L : List Loc) : Prop := v = some (.long (f6 q0)) ∧ Fr n0 L ∧ h = h0
set_option maxRecDepth 65536 in
set_option maxHeartbeats 40000000 in
theorem rm6 (l : Launch) (Z : State) (a0 : Array Value) (hw : ∀ d ∈ tables_1, d.before a0 Z = true) (ws : List Jvm.Cond) (q0 : Int64) (h0 : Heap) (n0 : Nat) (Z0 : n0 ≤ h0.size) (hq0 : 0 ≤ q0.toInt) :
    MetFree l (⟨"com/example/wireshape/wireshape/model/InternetChecksum", "fold", "(J)J"⟩ : MethodName) (head1 (Jvm.Cond.code (⟨"com/example/wireshape/wireshape/model/InternetChecksum", "fold", "(J)J"⟩ : MethodName) prog_41_method_6_code 4 (some .long) :: ws) ({ frames := 0, cells := 0, slots := 0, locals := 0 } : Room)) (fun a U => a = #[(.long q0)] ∧ Z.Warmed39 U.vm ∧ U.heap = h0) (fun _ _ _ _ _ => True) (fun _ U o U' => ∃ v L, o = .returned v ∧ Q6 Z q0 h0 n0 v U'.heap L ∧ FrameEnd U o U' L ({ frames := 0, cells := 0, slots := 0, locals := 0 } : Room).cells ({ frames := 0, cells := 0, slots := 0, locals := 0 } : Room).slots) := by
  refine MetFree.of_bodySF (plainFor_of_name pn_0) hisR ?_
  intro p e s m args below meth c s₁ Bd hml0 hP hK
  obtain ⟨rfl, hZ, hh⟩ := hP
  have hx := Bd.exec
  have hby := Bd.bytes
  have hml : c.maxLocals = 4 := hml0
  have hown : s.vm.findClass "com/example/wireshape/wireshape/model/InternetChecksum" = some m.cls := findClass_of_methodNamed Bd.named
  have hnm := (name_of_methodNamed Bd.named Bd.method).1
  have X0 : Stand p l e ({ frames := 0, cells := 0, slots := 0, locals := 0 } : Room) s m #[(.long q0)] below meth c s₁ [] 0 0 := Stand.of_body Bd
  have e0 : s₁.heap = h0 := by rw [← hh, Bd.state]; rfl
  have hlk : meth.locks = false := by first | exact BodyLoose.notSynchronized Bd | exact Body.notSynchronized Bd
  have N0 := Fr.nil n0
  have K0 := Keep.refl h0 []
  have pre0 : ∀ t, Steps p.tables e below (s₁.setTop (mkF m 0 #[.val (.long q0), .second, .unset, .unset] [])) t → Steps p.tables e below (s₁.setTop (entryFrame m #[(.long q0)] 4)) t := fun t k => castTop (ef_6 m q0) k
  have loop2 : ∀ (n : Nat) (y : Int64), 0 ≤ y.toInt → y.toInt < (n : Int) → ∀ t, Steps p.tables e below (s₁.setTop (mkF m 25 #[.val (.long q0), .second, .val (.long (own_fold y)), .second] [])) t → Steps p.tables e below (s₁.setTop (mkF m 2 #[.val (.long q0), .second, .val (.long y), .second] [])) t := by
    intro n
    induction n with
    | zero => intro y h0 h1; exfalso; omega
    | succ n ih =>
      intro y h0 h1 t kt
      by_cases hc : (lcmpW ((y.toUInt64 >>> ((16 : Int32) &&& 0x3f).toInt64.toUInt64).toInt64) (0 : Int64)) = (0 : Int32)
      · rw [own_fold_id y h0 hc] at kt
        show Steps p.tables e below (s₁.setTop (mkF m 2 #[.val (.long q0), .second, .val (.long y), .second] [])) _
        refine XS.lloadN X0.here hx rfl (hb hby d6_2) rfl ?_
        show Steps p.tables e below (s₁.setTop (mkF m 3 #[.val (.long q0), .second, .val (.long y), .second] [(.long y)])) _
        refine XS.bipush X0.here hx rfl (hb hby d6_3) ?_
        show Steps p.tables e below (s₁.setTop (mkF m 5 #[.val (.long q0), .second, .val (.long y), .second] [(.int (16 : Int32)), (.long y)])) _
        refine XS.lushr X0.here hx rfl (hb hby d6_5) rfl ?_
        show Steps p.tables e below (s₁.setTop (mkF m 6 #[.val (.long q0), .second, .val (.long y), .second] [(.long ((y.toUInt64 >>> ((16 : Int32) &&& 0x3f).toInt64.toUInt64).toInt64))])) _
        refine XS.lconst X0.here hx rfl (hb hby d6_6) ?_
        show Steps p.tables e below (s₁.setTop (mkF m 7 #[.val (.long q0), .second, .val (.long y), .second] [(.long (0 : Int64)), (.long ((y.toUInt64 >>> ((16 : Int32) &&& 0x3f).toInt64.toUInt64).toInt64))])) _
        refine XS.lcmp X0.here hx rfl (hb hby d6_7) rfl ?_
        show Steps p.tables e below (s₁.setTop (mkF m 8 #[.val (.long q0), .second, .val (.long y), .second] [(.int (lcmpW ((y.toUInt64 >>> ((16 : Int32) &&& 0x3f).toInt64.toUInt64).toInt64) (0 : Int64)))])) _
        refine XS.ifYes X0.here hx rfl (pc0 := 8) (pc' := 25) rfl (hb hby d6_8) rfl ((if0 _ _).trans (teq hc).1) (by decide) (by decide) ?_
        exact kt
      · have hq := own_fold_step y h0 hc
        show Steps p.tables e below (s₁.setTop (mkF m 2 #[.val (.long q0), .second, .val (.long y), .second] [])) _
        refine XS.lloadN X0.here hx rfl (hb hby d6_2) rfl ?_
        show Steps p.tables e below (s₁.setTop (mkF m 3 #[.val (.long q0), .second, .val (.long y), .second] [(.long y)])) _
        refine XS.bipush X0.here hx rfl (hb hby d6_3) ?_
        show Steps p.tables e below (s₁.setTop (mkF m 5 #[.val (.long q0), .second, .val (.long y), .second] [(.int (16 : Int32)), (.long y)])) _
        refine XS.lushr X0.here hx rfl (hb hby d6_5) rfl ?_
        show Steps p.tables e below (s₁.setTop (mkF m 6 #[.val (.long q0), .second, .val (.long y), .second] [(.long ((y.toUInt64 >>> ((16 : Int32) &&& 0x3f).toInt64.toUInt64).toInt64))])) _
        refine XS.lconst X0.here hx rfl (hb hby d6_6) ?_
        show Steps p.tables e below (s₁.setTop (mkF m 7 #[.val (.long q0), .second, .val (.long y), .second] [(.long (0 : Int64)), (.long ((y.toUInt64 >>> ((16 : Int32) &&& 0x3f).toInt64.toUInt64).toInt64))])) _
        refine XS.lcmp X0.here hx rfl (hb hby d6_7) rfl ?_
        show Steps p.tables e below (s₁.setTop (mkF m 8 #[.val (.long q0), .second, .val (.long y), .second] [(.int (lcmpW ((y.toUInt64 >>> ((16 : Int32) &&& 0x3f).toInt64.toUInt64).toInt64) (0 : Int64)))])) _
        refine XS.ifNo X0.here hx rfl (hb hby d6_8) rfl ((if0 _ _).trans (feq hc).1) ?_
        show Steps p.tables e below (s₁.setTop (mkF m 11 #[.val (.long q0), .second, .val (.long y), .second] [])) _
        refine XS.lloadN X0.here hx rfl (hb hby d6_11) rfl ?_
        show Steps p.tables e below (s₁.setTop (mkF m 12 #[.val (.long q0), .second, .val (.long y), .second] [(.long y)])) _
        refine X0.ldc2Long hx hown (mvT hZ (hw _ (List.mem_of_getElem? (i := 41) rfl))) (g := (mkF m 12 #[.val (.long q0), .second, .val (.long y), .second] [(.long y)])) rfl (hb hby d6_12) _ ?_
        show Steps p.tables e below (s₁.setTop (mkF m 15 #[.val (.long q0), .second, .val (.long y), .second] [(.long (65535 : Int64)), (.long y)])) _
        refine XS.land X0.here hx rfl (hb hby d6_15) rfl ?_
        show Steps p.tables e below (s₁.setTop (mkF m 16 #[.val (.long q0), .second, .val (.long y), .second] [(.long (y &&& (65535 : Int64)))])) _
        refine XS.lloadN X0.here hx rfl (hb hby d6_16) rfl ?_
        show Steps p.tables e below (s₁.setTop (mkF m 17 #[.val (.long q0), .second, .val (.long y), .second] [(.long y), (.long (y &&& (65535 : Int64)))])) _
        refine XS.bipush X0.here hx rfl (hb hby d6_17) ?_
        show Steps p.tables e below (s₁.setTop (mkF m 19 #[.val (.long q0), .second, .val (.long y), .second] [(.int (16 : Int32)), (.long y), (.long (y &&& (65535 : Int64)))])) _
        refine XS.lushr X0.here hx rfl (hb hby d6_19) rfl ?_
        show Steps p.tables e below (s₁.setTop (mkF m 20 #[.val (.long q0), .second, .val (.long y), .second] [(.long ((y.toUInt64 >>> ((16 : Int32) &&& 0x3f).toInt64.toUInt64).toInt64)), (.long (y &&& (65535 : Int64)))])) _
        refine XS.ladd X0.here hx rfl (hb hby d6_20) rfl ?_
        show Steps p.tables e below (s₁.setTop (mkF m 21 #[.val (.long q0), .second, .val (.long y), .second] [(.long ((y &&& (65535 : Int64)) + ((y.toUInt64 >>> ((16 : Int32) &&& 0x3f).toInt64.toUInt64).toInt64)))])) _
        refine XS.lstoreN X0.here hx rfl (hb hby d6_21) rfl (l' := #[.val (.long q0), .second, .val (.long ((y &&& (65535 : Int64)) + ((y.toUInt64 >>> ((16 : Int32) &&& 0x3f).toInt64.toUInt64).toInt64))), .second]) rfl ?_
        show Steps p.tables e below (s₁.setTop (mkF m 22 #[.val (.long q0), .second, .val (.long ((y &&& (65535 : Int64)) + ((y.toUInt64 >>> ((16 : Int32) &&& 0x3f).toInt64.toUInt64).toInt64))), .second] [])) _
        refine XS.goto X0.here hx rfl (pc0 := 22) (pc' := 2) rfl (hb hby d6_22) (by decide) (by decide) ?_
        exact ih _ hq.1 (by omega) t (by rw [hq.2.2]; exact kt)
  obtain ⟨fs, hr, hrun, hended, hW, hsame⟩ := X0.leave (v := some (.long (own_fold q0))) (fun h => by rw [Bd.returns] at h; cases h) hlk
  refine ⟨_, _, pre0 _ ?_, hrun, hended, _, _, rfl, ?_, ⟨_, rfl⟩, hW, hsame.mono (by decide) (by decide)⟩
  · show Steps p.tables e below (s₁.setTop (mkF m 0 #[.val (.long q0), .second, .unset, .unset] [])) _
    refine XS.lloadN X0.here hx rfl (hb hby d6_0) rfl ?_
    show Steps p.tables e below (s₁.setTop (mkF m 1 #[.val (.long q0), .second, .unset, .unset] [(.long q0)])) _
    refine XS.lstoreN X0.here hx rfl (hb hby d6_1) rfl (l' := #[.val (.long q0), .second, .val (.long q0), .second]) rfl ?_
    show Steps p.tables e below (s₁.setTop (mkF m 2 #[.val (.long q0), .second, .val (.long q0), .second] [])) _
    refine loop2 (q0.toInt.toNat + 1) q0 hq0 (by omega) _ ?_
    show Steps p.tables e below (s₁.setTop (mkF m 25 #[.val (.long q0), .second, .val (.long (own_fold q0)), .second] [])) _
    refine XS.lloadN X0.here hx rfl (hb hby d6_25) rfl ?_
    show Steps p.tables e below (s₁.setTop (mkF m 26 #[.val (.long q0), .second, .val (.long (own_fold q0)), .second] [(.long (own_fold q0))])) _
    exact X0.lreturnOut hx Bd.returns (hb hby d6_26) hr
  · show Q6 Z q0 h0 n0 _ s₁.heap _
    rw [e0]
    exact ⟨by rw [show f6 q0 = (own_fold q0) from by unfold f6; rfl], N0, rfl⟩
theorem own_b8 (x : Int32) : 0 ≤ (x &&& 255).toInt ∧ (x &&& 255).toInt ≤ 255 := by
  have e := c_mask x 255 8 (by decide) (by decide)
  have e2 : ((2 ^ 8 : Nat) : Int) = 256 := by decide
  rw [e2] at e
  omega
theorem own_s8 (x : Int32) (h0 : 0 ≤ x.toInt) (h1 : x.toInt ≤ 255) : (x <<< ((8 : Int32) &&& 31)).toInt = 256 * x.toInt := by
  have e := c_ishl x 8 8 rfl
  have r := rng32 (x <<< ((8 : Int32) &&& 31))
  have e2 : ((2 ^ 8 : Nat) : Int) = 256 := by decide
  rw [e2] at e
  omega
theorem own_add (S : Int64) (x : Int32) (hs0 : 0 ≤ S.toInt) (hs1 : S.toInt ≤ 1000000000000) (h0 : 0 ≤ x.toInt) : (S + x.toInt64).toInt = S.toInt + x.toInt := by
  have c := c_i2l x
  have a := c_ladd S x.toInt64
  have r := rng64 (S + x.toInt64)
  have q := rng32 x
  omega
theorem own_x7 (p0 o : Int32) : ((if o = (0 : Int32) then ((p0 &&& (255 : Int32)) <<< ((8 : Int32) &&& 31)) else (p0 &&& (255 : Int32)))).toInt = (if o = 0 then 256 * (p0 &&& 255).toInt else (p0 &&& 255).toInt) := by
  have h := own_b8 p0
  split
  · exact own_s8 _ h.1 h.2
  · rfl
theorem own_x7b (p0 o : Int32) : 0 ≤ (if o = 0 then 256 * (p0 &&& 255).toInt else (p0 &&& 255).toInt) := by
  have h := own_b8 p0
  split <;> omega
theorem own_v7 (p0 : Int32) (w_sum : Int64) (w_odd : Int32) (hs0 : 0 ≤ w_sum.toInt) (hs1 : w_sum.toInt ≤ 65535) : (w_sum + ((if w_odd = (0 : Int32) then ((p0 &&& (255 : Int32)) <<< ((8 : Int32) &&& 31)) else (p0 &&& (255 : Int32))).toInt64)).toInt = w_sum.toInt + (if w_odd = 0 then 256 * (p0 &&& 255).toInt else (p0 &&& 255).toInt) := by
  have e := own_x7 p0 w_odd
  have b := own_x7b p0 w_odd
  rw [own_add _ _ hs0 (by omega) (by rw [e]; exact b), e]
theorem own_u7 (p0 : Int32) (w_sum : Int64) (w_odd : Int32) (hs0 : 0 ≤ w_sum.toInt) (hs1 : w_sum.toInt ≤ 65535) : 0 ≤ (w_sum + ((if w_odd = (0 : Int32) then ((p0 &&& (255 : Int32)) <<< ((8 : Int32) &&& 31)) else (p0 &&& (255 : Int32))).toInt64)).toInt := by
  rw [own_v7 p0 w_sum w_odd hs0 hs1]
  have b := own_x7b p0 w_odd
  omega
theorem pd_2 : parseMethodDescriptor "(J)J" = some ⟨[.long], some .long⟩ := by decide +kernel
theorem d7_0 : decode prog_41_method_2_code 0 = .ok (.aload_n 0, 1) := by decide +kernel
theorem d7_1 : decode prog_41_method_2_code 1 = .ok (.aload_n 0, 1) := by decide +kernel
theorem d7_2 : decode prog_41_method_2_code 2 = .ok (.getfield 7, 3) := by decide +kernel
theorem d7_5 : decode prog_41_method_2_code 5 = .ok (.aload_n 0, 1) := by decide +kernel
theorem d7_6 : decode prog_41_method_2_code 6 = .ok (.getfield 13, 3) := by decide +kernel
theorem d7_9 : decode prog_41_method_2_code 9 = .ok (.ifCond .eq 11, 3) := by decide +kernel
theorem d7_12 : decode prog_41_method_2_code 12 = .ok (.iload_n 1, 1) := by decide +kernel
theorem d7_13 : decode prog_41_method_2_code 13 = .ok (.sipush 255, 3) := by decide +kernel
theorem d7_16 : decode prog_41_method_2_code 16 = .ok (.iand, 1) := by decide +kernel
theorem d7_17 : decode prog_41_method_2_code 17 = .ok (.goto 11, 3) := by decide +kernel
theorem d7_20 : decode prog_41_method_2_code 20 = .ok (.iload_n 1, 1) := by decide +kernel
theorem d7_21 : decode prog_41_method_2_code 21 = .ok (.sipush 255, 3) := by decide +kernel
theorem d7_24 : decode prog_41_method_2_code 24 = .ok (.iand, 1) := by decide +kernel
theorem d7_25 : decode prog_41_method_2_code 25 = .ok (.bipush 8, 2) := by decide +kernel
theorem d7_27 : decode prog_41_method_2_code 27 = .ok (.ishl, 1) := by decide +kernel
theorem d7_28 : decode prog_41_method_2_code 28 = .ok (.i2l, 1) := by decide +kernel
theorem d7_29 : decode prog_41_method_2_code 29 = .ok (.ladd, 1) := by decide +kernel
theorem d7_30 : decode prog_41_method_2_code 30 = .ok (.invokestatic 17, 3) := by decide +kernel
theorem d7_33 : decode prog_41_method_2_code 33 = .ok (.putfield 7, 3) := by decide +kernel
theorem d7_36 : decode prog_41_method_2_code 36 = .ok (.aload_n 0, 1) := by decide +kernel
theorem d7_37 : decode prog_41_method_2_code 37 = .ok (.aload_n 0, 1) := by decide +kernel
theorem d7_38 : decode prog_41_method_2_code 38 = .ok (.getfield 13, 3) := by decide +kernel
theorem d7_41 : decode prog_41_method_2_code 41 = .ok (.ifCond .ne 7, 3) := by decide +kernel
theorem d7_44 : decode prog_41_method_2_code 44 = .ok (.iconst 1, 1) := by decide +kernel
theorem d7_45 : decode prog_41_method_2_code 45 = .ok (.goto 4, 3) := by decide +kernel
theorem d7_48 : decode prog_41_method_2_code 48 = .ok (.iconst 0, 1) := by decide +kernel
theorem d7_49 : decode prog_41_method_2_code 49 = .ok (.putfield 13, 3) := by decide +kernel
theorem d7_52 : decode prog_41_method_2_code 52 = .ok (.return_, 1) := by decide +kernel
theorem ef_7 (m : MethodId) (x0 : Addr) (x1 : Int32) : entryFrame m #[(.ref x0), (.int x1)] 2 = mkF m 0 #[.val (.ref x0), .val (.int x1)] [] := by first | (simp [entryFrame, mkF, argsToLocals, Value.category]; done) | rfl
def f7_s0_28001 (p0 : Int32) (w_odd : Int32) : Int32 := (if w_odd = (0 : Int32) then ((p0 &&& (255 : Int32)) <<< ((8 : Int32) &&& 31)) else (p0 &&& (255 : Int32)))
def f7_s0_49002 (w_odd : Int32) : Int32 := (if w_odd = (0 : Int32) then (1 : Int32) else (0 : Int32))
def f7_odd (p0 : Int32) (w_odd : Int32) (w_sum : Int64) : Int32 := ((f7_s0_49002 w_odd) &&& 1)
def f7_sum (p0 : Int32) (w_odd : Int32) (w_sum : Int64) : Int64 := (f6 (w_sum + ((f7_s0_28001 p0 w_odd).toInt64)))
def Q7 (Z : State) (a0t : Addr) (p0 : Int32) (w_odd : Int32) (w_sum : Int64) (h0 : Heap) (n0 : Nat) (v : Option Value) (h : Heap) (L : List Loc) : Prop := v = none ∧ Fr n0 L ∧ Keep h0 h [a0t] ∧ Exa Z h a0t "com/example/wireshape/wireshape/model/InternetChecksum" ∧ Fld Z h a0t "com/example/wireshape/wireshape/model/InternetChecksum" "odd" "Z" (.int (f7_odd p0 w_odd w_sum)) ∧ Fld Z h a0t "com/example/wireshape/wireshape/model/InternetChecksum" "sum" "J" (.long (f7_sum p0 w_odd w_sum))
set_option maxRecDepth 65536 in
set_option maxHeartbeats 40000000 in
theorem rm7 (l : Launch) (Z : State) (a0 : Array Value) (hw : ∀ d ∈ tables_1, d.before a0 Z = true) (ws : List Jvm.Cond) (a0t : Addr) (p0 : Int32) (w_odd : Int32) (w_sum : Int64) (h0 : Heap) (n0 : Nat) (Z0 : n0 ≤ h0.size) (E_this : Exa Z h0 a0t "com/example/wireshape/wireshape/model/InternetChecksum") (g_this : n0 ≤ a0t) (F_odd : Fld Z h0 a0t "com/example/wireshape/wireshape/model/InternetChecksum" "odd" "Z" (.int w_odd)) (F_sum : Fld Z h0 a0t "com/example/wireshape/wireshape/model/InternetChecksum" "sum" "J" (.long w_sum)) (hs0 : 0 ≤ w_sum.toInt) (hs1 : w_sum.toInt ≤ 65535) :
    MetFree l (⟨"com/example/wireshape/wireshape/model/InternetChecksum", "update", "(I)V"⟩ : MethodName) (head1 (Jvm.Cond.code (⟨"com/example/wireshape/wireshape/model/InternetChecksum", "update", "(I)V"⟩ : MethodName) prog_41_method_2_code 2 none :: ws) ({ frames := 1, cells := 0, slots := 0, locals := 16 } : Room)) (fun a U => a = #[(.ref a0t), (.int p0)] ∧ Z.Warmed39 U.vm ∧ U.heap = h0) (fun _ _ _ _ _ => True) (fun _ U o U' => ∃ v L, o = .returned v ∧ Q7 Z a0t p0 w_odd w_sum h0 n0 v U'.heap L ∧ FrameEnd U o U' L ({ frames := 1, cells := 0, slots := 0, locals := 16 } : Room).cells ({ frames := 1, cells := 0, slots := 0, locals := 16 } : Room).slots) := by
  refine MetFree.of_bodySF (plainFor_of_name pn_0) hisR ?_
  intro p e s m args below meth c s₁ Bd hml0 hP hK
  obtain ⟨rfl, hZ, hh⟩ := hP
  have hx := Bd.exec
  have hby := Bd.bytes
  have hml : c.maxLocals = 2 := hml0
  have hown : s.vm.findClass "com/example/wireshape/wireshape/model/InternetChecksum" = some m.cls := findClass_of_methodNamed Bd.named
  have hnm := (name_of_methodNamed Bd.named Bd.method).1
  have X0 : Stand p l e ({ frames := 1, cells := 0, slots := 0, locals := 16 } : Room) s m #[(.ref a0t), (.int p0)] below meth c s₁ [] 0 0 := Stand.of_body Bd
  have e0 : s₁.heap = h0 := by rw [← hh, Bd.state]; rfl
  have hlk : meth.locks = false := by first | exact BodyLoose.notSynchronized Bd | exact Body.notSynchronized Bd
  have N0 := Fr.nil n0
  have K0 := Keep.refl h0 [a0t]
  have pre0 : ∀ t, Steps p.tables e below (s₁.setTop (mkF m 0 #[.val (.ref a0t), .val (.int p0)] [])) t → Steps p.tables e below (s₁.setTop (entryFrame m #[(.ref a0t), (.int p0)] 2)) t := fun t k => castTop (ef_7 m a0t p0) k
  obtain ⟨T1, X1, e1, st1⟩ := getF X0 hx hZ hown (host := "") (Or.inl (hw _ (List.mem_of_getElem? (i := 25) rfl))) Via.refl e0 F_sum (g := (mkF m 2 #[.val (.ref a0t), .val (.int p0)] [(.ref a0t), (.ref a0t)])) rfl rfl (hb hby d7_2)
  obtain ⟨T2, X2, e2, st2⟩ := getF X1 hx hZ hown (host := "") (Or.inl (hw _ (List.mem_of_getElem? (i := 23) rfl))) Via.refl e1 F_odd (g := (mkF m 6 #[.val (.ref a0t), .val (.int p0)] [(.ref a0t), (.long w_sum), (.ref a0t)])) rfl rfl (hb hby d7_6)
  have pre3 : ∀ t, Steps p.tables e below (T2.setTop (mkF m 9 #[.val (.ref a0t), .val (.int p0)] [(.int w_odd), (.long w_sum), (.ref a0t)])) t → Steps p.tables e below (s₁.setTop (entryFrame m #[(.ref a0t), (.int p0)] 2)) t := fun t kt => pre0 t (by
    show Steps p.tables e below (s₁.setTop (mkF m 0 #[.val (.ref a0t), .val (.int p0)] [])) _
    refine XS.aloadN X0.here hx rfl (hb hby d7_0) rfl rfl ?_
    show Steps p.tables e below (s₁.setTop (mkF m 1 #[.val (.ref a0t), .val (.int p0)] [(.ref a0t)])) _
    refine XS.aloadN X0.here hx rfl (hb hby d7_1) rfl rfl ?_
    show Steps p.tables e below (s₁.setTop (mkF m 2 #[.val (.ref a0t), .val (.int p0)] [(.ref a0t), (.ref a0t)])) _
    refine st1 _ ?_
    show Steps p.tables e below (T1.setTop (mkF m 5 #[.val (.ref a0t), .val (.int p0)] [(.long w_sum), (.ref a0t)])) _
    refine XS.aloadN X1.here hx rfl (hb hby d7_5) rfl rfl ?_
    show Steps p.tables e below (T1.setTop (mkF m 6 #[.val (.ref a0t), .val (.int p0)] [(.ref a0t), (.long w_sum), (.ref a0t)])) _
    refine st2 _ ?_
    exact kt)
  have pre5 : ∀ t, Steps p.tables e below (T2.setTop (mkF m 28 #[.val (.ref a0t), .val (.int p0)] [(.int (f7_s0_28001 p0 w_odd)), (.long w_sum), (.ref a0t)])) t → Steps p.tables e below (s₁.setTop (entryFrame m #[(.ref a0t), (.int p0)] 2)) t := by
    intro t kt
    by_cases hc4 : w_odd = (0 : Int32)
    · have hj : (f7_s0_28001 p0 w_odd) = ((p0 &&& (255 : Int32)) <<< ((8 : Int32) &&& 31)) := by unfold f7_s0_28001; rw [if_pos hc4]
      rw [hj] at kt
      refine pre3 t ?_
      show Steps p.tables e below (T2.setTop (mkF m 9 #[.val (.ref a0t), .val (.int p0)] [(.int w_odd), (.long w_sum), (.ref a0t)])) _
      refine XS.ifYes X2.here hx rfl (pc0 := 9) (pc' := 20) rfl (hb hby d7_9) rfl ((if0 _ _).trans (teq hc4).1) (by decide) (by decide) ?_
      show Steps p.tables e below (T2.setTop (mkF m 20 #[.val (.ref a0t), .val (.int p0)] [(.long w_sum), (.ref a0t)])) _
      refine XS.iloadN X2.here hx rfl (hb hby d7_20) rfl ?_
      show Steps p.tables e below (T2.setTop (mkF m 21 #[.val (.ref a0t), .val (.int p0)] [(.int p0), (.long w_sum), (.ref a0t)])) _
      refine XS.sipush X2.here hx rfl (hb hby d7_21) ?_
      show Steps p.tables e below (T2.setTop (mkF m 24 #[.val (.ref a0t), .val (.int p0)] [(.int (255 : Int32)), (.int p0), (.long w_sum), (.ref a0t)])) _
      refine XS.iand X2.here hx rfl (hb hby d7_24) rfl ?_
      show Steps p.tables e below (T2.setTop (mkF m 25 #[.val (.ref a0t), .val (.int p0)] [(.int (p0 &&& (255 : Int32))), (.long w_sum), (.ref a0t)])) _
      refine XS.bipush X2.here hx rfl (hb hby d7_25) ?_
      show Steps p.tables e below (T2.setTop (mkF m 27 #[.val (.ref a0t), .val (.int p0)] [(.int (8 : Int32)), (.int (p0 &&& (255 : Int32))), (.long w_sum), (.ref a0t)])) _
      refine XS.ishl X2.here hx rfl (hb hby d7_27) rfl ?_
      exact kt
    · have hj : (f7_s0_28001 p0 w_odd) = (p0 &&& (255 : Int32)) := by unfold f7_s0_28001; rw [if_neg hc4]
      rw [hj] at kt
      refine pre3 t ?_
      show Steps p.tables e below (T2.setTop (mkF m 9 #[.val (.ref a0t), .val (.int p0)] [(.int w_odd), (.long w_sum), (.ref a0t)])) _
      refine XS.ifNo X2.here hx rfl (hb hby d7_9) rfl ((if0 _ _).trans (feq hc4).1) ?_
      show Steps p.tables e below (T2.setTop (mkF m 12 #[.val (.ref a0t), .val (.int p0)] [(.long w_sum), (.ref a0t)])) _
      refine XS.iloadN X2.here hx rfl (hb hby d7_12) rfl ?_
      show Steps p.tables e below (T2.setTop (mkF m 13 #[.val (.ref a0t), .val (.int p0)] [(.int p0), (.long w_sum), (.ref a0t)])) _
      refine XS.sipush X2.here hx rfl (hb hby d7_13) ?_
      show Steps p.tables e below (T2.setTop (mkF m 16 #[.val (.ref a0t), .val (.int p0)] [(.int (255 : Int32)), (.int p0), (.long w_sum), (.ref a0t)])) _
      refine XS.iand X2.here hx rfl (hb hby d7_16) rfl ?_
      show Steps p.tables e below (T2.setTop (mkF m 17 #[.val (.ref a0t), .val (.int p0)] [(.int (p0 &&& (255 : Int32))), (.long w_sum), (.ref a0t)])) _
      refine XS.goto X2.here hx rfl (pc0 := 17) (pc' := 28) rfl (hb hby d7_17) (by decide) (by decide) ?_
      exact kt
  obtain ⟨_, _, ⟨T6, L6, k6, n6⟩, -, X6, ⟨Lc6, hQ6, l6, y6, z6⟩, st6⟩ := Jvm.LawKit.callS X2 hx (y := (⟨"com/example/wireshape/wireshape/model/InternetChecksum", "fold", "(J)J"⟩ : MethodName)) hown (mvT hZ (hw _ (List.mem_of_getElem? (i := 27) rfl))) (mvT hZ (hw _ (List.mem_of_getElem? (i := 28) rfl))) (mvT hZ (hw _ (List.mem_of_getElem? (i := 3) rfl))) (mvT hZ (hw _ (List.mem_of_getElem? (i := 29) rfl))) (by decide) (backOf (W := 1) (rm6 l Z a0 hw [] (w_sum + ((f7_s0_28001 p0 w_odd).toInt64)) h0 n0 Z0 (own_u7 p0 w_sum w_odd hs0 hs1)) hZ (hw _ (List.mem_of_getElem? (i := 29) rfl)) (hw _ (List.mem_of_getElem? (i := 3) rfl)) (by decide) (by decide)) (g := (mkF m 30 #[.val (.ref a0t), .val (.int p0)] [(.long (w_sum + ((f7_s0_28001 p0 w_odd).toInt64))), (.ref a0t)])) rfl (by rw [hml]; rfl) (argsL := [(.long (w_sum + ((f7_s0_28001 p0 w_odd).toInt64)))]) (rest := [(.ref a0t)]) (lenOf pd_2 rfl) rfl (by show 2 * 0 + _ ≤ _; exact Nat.le_of_eq rfl) (hb hby d7_30) (fun _ _ => ⟨rfl, e2, (by decide : 0 + 0 ≤ _), (by decide : 0 + 0 ≤ _)⟩)
  dsimp only [Pt.U, Pt.locs, Pt.cells, Pt.slots] at X6 l6 y6 z6 st6 hQ6
  obtain rfl : k6 = 0 := y6
  obtain rfl : n6 = 0 := z6
  obtain ⟨rfl, N6q, e6⟩ := hQ6
  have N6 : Fr n0 L6 := by rw [l6]; exact Fr.app N0 N6q
  obtain ⟨T7, h7, X7, e7, W7, st7⟩ := putF X6 hx hZ hown (host := "") (Or.inl (hw _ (List.mem_of_getElem? (i := 25) rfl))) Via.refl e6 F_sum E_this (Or.inl (hw _ (List.mem_of_getElem? (i := 26) rfl))) (hw _ (List.mem_of_getElem? (i := 2) rfl)) (ty := .long) (by decide) rfl rfl (g := (mkF m 33 #[.val (.ref a0t), .val (.int p0)] [(.long (f6 (w_sum + ((f7_s0_28001 p0 w_odd).toInt64)))), (.ref a0t)])) rfl rfl (hb hby d7_33)
  have F_odd_a0t_7 := F_odd.other W7 (Or.inr (slot_ne (Or.inl (hw _ (List.mem_of_getElem? (i := 24) rfl))) (Or.inl (hw _ (List.mem_of_getElem? (i := 26) rfl))) (by decide) (t := .boolean) (t' := .long) (by decide) (by decide)))
  have F_sum_a0t_7 := F_sum.same W7
  have E_a0t_7 := E_this.wr W7
  have N7 := Fr.snoc X7 N6 g_this
  have Zz7 := Nat.le_trans Z0 (Keep.of_wr W7).1
  have K7 : Keep h0 h7 [a0t] := K0.wr W7 (Or.inl (by simp))
  obtain ⟨T8, X8, e8, st8⟩ := getF X7 hx hZ hown (host := "") (Or.inl (hw _ (List.mem_of_getElem? (i := 23) rfl))) Via.refl e7 F_odd_a0t_7 (g := (mkF m 38 #[.val (.ref a0t), .val (.int p0)] [(.ref a0t), (.ref a0t)])) rfl rfl (hb hby d7_38)
  have pre9 : ∀ t, Steps p.tables e below (T8.setTop (mkF m 41 #[.val (.ref a0t), .val (.int p0)] [(.int w_odd), (.ref a0t)])) t → Steps p.tables e below (s₁.setTop (entryFrame m #[(.ref a0t), (.int p0)] 2)) t := fun t kt => pre5 t (by
    show Steps p.tables e below (T2.setTop (mkF m 28 #[.val (.ref a0t), .val (.int p0)] [(.int (f7_s0_28001 p0 w_odd)), (.long w_sum), (.ref a0t)])) _
    refine XS.i2l X2.here hx rfl (hb hby d7_28) rfl ?_
    show Steps p.tables e below (T2.setTop (mkF m 29 #[.val (.ref a0t), .val (.int p0)] [(.long ((f7_s0_28001 p0 w_odd).toInt64)), (.long w_sum), (.ref a0t)])) _
    refine XS.ladd X2.here hx rfl (hb hby d7_29) rfl ?_
    show Steps p.tables e below (T2.setTop (mkF m 30 #[.val (.ref a0t), .val (.int p0)] [(.long (w_sum + ((f7_s0_28001 p0 w_odd).toInt64))), (.ref a0t)])) _
    refine st6 _ ?_
    show Steps p.tables e below (T6.setTop (mkF m 33 #[.val (.ref a0t), .val (.int p0)] [(.long (f6 (w_sum + ((f7_s0_28001 p0 w_odd).toInt64)))), (.ref a0t)])) _
    refine st7 _ ?_
    show Steps p.tables e below (T7.setTop (mkF m 36 #[.val (.ref a0t), .val (.int p0)] [])) _
    refine XS.aloadN X7.here hx rfl (hb hby d7_36) rfl rfl ?_
    show Steps p.tables e below (T7.setTop (mkF m 37 #[.val (.ref a0t), .val (.int p0)] [(.ref a0t)])) _
    refine XS.aloadN X7.here hx rfl (hb hby d7_37) rfl rfl ?_
    show Steps p.tables e below (T7.setTop (mkF m 38 #[.val (.ref a0t), .val (.int p0)] [(.ref a0t), (.ref a0t)])) _
    refine st8 _ ?_
    exact kt)
  have pre11 : ∀ t, Steps p.tables e below (T8.setTop (mkF m 49 #[.val (.ref a0t), .val (.int p0)] [(.int (f7_s0_49002 w_odd)), (.ref a0t)])) t → Steps p.tables e below (s₁.setTop (entryFrame m #[(.ref a0t), (.int p0)] 2)) t := by
    intro t kt
    by_cases hc10 : w_odd = (0 : Int32)
    · have hj : (f7_s0_49002 w_odd) = (1 : Int32) := by unfold f7_s0_49002; rw [if_pos hc10]
      rw [hj] at kt
      refine pre9 t ?_
      show Steps p.tables e below (T8.setTop (mkF m 41 #[.val (.ref a0t), .val (.int p0)] [(.int w_odd), (.ref a0t)])) _
      refine XS.ifNo X8.here hx rfl (hb hby d7_41) rfl ((if0 _ _).trans (teq hc10).2) ?_
      show Steps p.tables e below (T8.setTop (mkF m 44 #[.val (.ref a0t), .val (.int p0)] [(.ref a0t)])) _
      refine XS.iconst X8.here hx rfl (hb hby d7_44) ?_
      show Steps p.tables e below (T8.setTop (mkF m 45 #[.val (.ref a0t), .val (.int p0)] [(.int (1 : Int32)), (.ref a0t)])) _
      refine XS.goto X8.here hx rfl (pc0 := 45) (pc' := 49) rfl (hb hby d7_45) (by decide) (by decide) ?_
      exact kt
    · have hj : (f7_s0_49002 w_odd) = (0 : Int32) := by unfold f7_s0_49002; rw [if_neg hc10]
      rw [hj] at kt
      refine pre9 t ?_
      show Steps p.tables e below (T8.setTop (mkF m 41 #[.val (.ref a0t), .val (.int p0)] [(.int w_odd), (.ref a0t)])) _
      refine XS.ifYes X8.here hx rfl (pc0 := 41) (pc' := 48) rfl (hb hby d7_41) rfl ((if0 _ _).trans (feq hc10).2) (by decide) (by decide) ?_
      show Steps p.tables e below (T8.setTop (mkF m 48 #[.val (.ref a0t), .val (.int p0)] [(.ref a0t)])) _
      refine XS.iconst X8.here hx rfl (hb hby d7_48) ?_
      exact kt
  obtain ⟨T12, h12, X12, e12, W12, st12⟩ := putFN X8 hx hZ hown (hw _ (List.mem_of_getElem? (i := 23) rfl)) Via.refl e8 F_odd_a0t_7 E_a0t_7 (Or.inl (hw _ (List.mem_of_getElem? (i := 24) rfl))) (hw _ (List.mem_of_getElem? (i := 2) rfl)) (ty := .boolean) (v' := (.int ((f7_s0_49002 w_odd) &&& 1))) (by decide) rfl (fits_nar_bool _) (g := (mkF m 49 #[.val (.ref a0t), .val (.int p0)] [(.int (f7_s0_49002 w_odd)), (.ref a0t)])) rfl rfl (hb hby d7_49)
  have F_odd_a0t_12 := F_odd_a0t_7.same W12
  have F_sum_a0t_12 := F_sum_a0t_7.other W12 (Or.inr (slot_ne (Or.inl (hw _ (List.mem_of_getElem? (i := 26) rfl))) (Or.inl (hw _ (List.mem_of_getElem? (i := 24) rfl))) (by decide) (t := .long) (t' := .boolean) (by decide) (by decide)))
  have E_a0t_12 := E_a0t_7.wr W12
  have N12 := Fr.snoc X12 N7 g_this
  have Zz12 := Nat.le_trans Zz7 (Keep.of_wr W12).1
  have K12 : Keep h0 h12 [a0t] := K7.wr W12 (Or.inl (by simp))
  obtain ⟨fs, hr, hrun, hended, hW, hsame⟩ := X12.leave (v := none) (fun _ => rfl) hlk
  refine ⟨_, _, pre11 _ ?_, hrun, hended, _, _, rfl, ?_, ⟨_, rfl⟩, hW, hsame.mono (by decide) (by decide)⟩
  · show Steps p.tables e below (T8.setTop (mkF m 49 #[.val (.ref a0t), .val (.int p0)] [(.int (f7_s0_49002 w_odd)), (.ref a0t)])) _
    refine st12 _ ?_
    show Steps p.tables e below (T12.setTop (mkF m 52 #[.val (.ref a0t), .val (.int p0)] [])) _
    exact X12.returnOut hx Bd.returns (hb hby d7_52) hr
  · show Q7 Z a0t p0 w_odd w_sum h0 n0 _ T12.heap _
    rw [e12]
    exact ⟨rfl, N12, K12, E_a0t_12, by rw [show f7_odd p0 w_odd w_sum = ((f7_s0_49002 w_odd) &&& 1) from by unfold f7_odd; rfl]; exact F_odd_a0t_12, by rw [show f7_sum p0 w_odd w_sum = (f6 (w_sum + ((f7_s0_28001 p0 w_odd).toInt64))) from by unfold f7_sum; rfl]; exact F_sum_a0t_12⟩
def own_wi : Nat → Int32 → Int32
  | 0, i => i
  | k + 1, i => own_wi k (i + 2)
def own_ww (vv : Int32 → Int32) : Nat → Int32 → Int64 → Int64
  | 0, _, W => W
  | k + 1, i, W => own_ww vv k (i + 2) (W + ((((vv i &&& (255 : Int32)) <<< ((8 : Int32) &&& 31)) ||| (vv (i + (1 : Int32)) &&& (255 : Int32))).toInt64))
def own_k (i E : Int32) : Nat := ((E.toInt - i.toInt) / 2).toNat
theorem own_add1 (i : Int32) (h0 : 0 ≤ i.toInt) (h1 : i.toInt ≤ 1000) : (i + 1).toInt = i.toInt + 1 := by
  have a := c_iadd i 1
  have r := rng32 (i + 1)
  have l : (1 : Int32).toInt = 1 := rfl
  omega
theorem own_add2 (i : Int32) (h0 : 0 ≤ i.toInt) (h1 : i.toInt ≤ 1000) : (i + 2).toInt = i.toInt + 2 := by
  have a := c_iadd i 2
  have r := rng32 (i + 2)
  have l : (2 : Int32).toInt = 2 := rfl
  omega
theorem own_lo0 (i E : Int32) (h0 : 0 ≤ i.toInt) (hE : E.toInt ≤ 6) (h1 : E.toInt = i.toInt + 2 * ((0 : Nat) : Int) ∨ E.toInt = i.toInt + 2 * ((0 : Nat) : Int) + 1) : ¬ (i + (1 : Int32)) < E := by
  have a := own_add1 i h0 (by omega)
  rw [Int32.lt_iff_toInt_lt]
  omega
theorem own_lo1 (i E : Int32) (k : Nat) (h0 : 0 ≤ i.toInt) (hE : E.toInt ≤ 6) (h1 : E.toInt = i.toInt + 2 * ((k + 1 : Nat) : Int) ∨ E.toInt = i.toInt + 2 * ((k + 1 : Nat) : Int) + 1) :
    (i + (1 : Int32)) < E ∧ 0 ≤ (i + (2 : Int32)).toInt ∧ (E.toInt = (i + (2 : Int32)).toInt + 2 * (k : Int) ∨ E.toInt = (i + (2 : Int32)).toInt + 2 * (k : Int) + 1) ∧ ((0 ≤ i.toInt ∧ i.toInt < 6) ∧ (0 ≤ (i + (1 : Int32)).toInt ∧ (i + (1 : Int32)).toInt < 6)) := by
  have a := own_add1 i h0 (by omega)
  have b := own_add2 i h0 (by omega)
  rw [Int32.lt_iff_toInt_lt]
  omega
theorem own_kk (i E : Int32) (h : i.toInt ≤ E.toInt) : E.toInt = i.toInt + 2 * (own_k i E : Int) ∨ E.toInt = i.toInt + 2 * (own_k i E : Int) + 1 := by
  unfold own_k
  omega
theorem own_Ev (p1 p2 : Int32) (hp1 : 0 ≤ p1.toInt) (hp2 : 0 ≤ p2.toInt) (hp3 : p1.toInt + p2.toInt ≤ 6) : (p1 + p2).toInt = p1.toInt + p2.toInt := by
  have a := c_iadd p1 p2
  have r := rng32 (p1 + p2)
  omega
theorem own_E6 (p1 p2 : Int32) (hp1 : 0 ≤ p1.toInt) (hp2 : 0 ≤ p2.toInt) (hp3 : p1.toInt + p2.toInt ≤ 6) : (p1 + p2).toInt ≤ 6 := by
  rw [own_Ev p1 p2 hp1 hp2 hp3]; exact hp3
theorem own_i0 (p1 p2 : Int32) (hp1 : 0 ≤ p1.toInt) (hp2 : 0 ≤ p2.toInt) (hp3 : p1.toInt + p2.toInt ≤ 6) : 0 ≤ p1.toInt ∧ p1.toInt ≤ (p1 + p2).toInt := by
  rw [own_Ev p1 p2 hp1 hp2 hp3]; omega
theorem own_i1 (p1 p2 : Int32) (hp1 : 0 ≤ p1.toInt) (hp2 : 0 ≤ p2.toInt) (hp3 : p1.toInt + p2.toInt ≤ 6) (hc : p1 < (p1 + p2)) : 0 ≤ (p1 + (1 : Int32)).toInt ∧ (p1 + (1 : Int32)).toInt ≤ (p1 + p2).toInt := by
  rw [Int32.lt_iff_toInt_lt] at hc
  rw [own_add1 p1 hp1 (by omega)]
  omega
theorem own_in6 {cl : Cell} (S : cl.slots.size = (6 : Int32).toNatClampNeg) {i : Int32} (h0 : 0 ≤ i.toInt) (h1 : i.toInt < 6) : ¬ (i < 0 ∨ cl.slots.size ≤ i.toNatClampNeg) := by
  have l0 : (0 : Int32).toInt = 0 := rfl
  have l7 : (6 : Int32).toNatClampNeg = 6 := rfl
  rw [S, l7, Int32.lt_iff_toInt_lt]
  simp only [Int32.toNatClampNeg]
  omega
theorem own_of {c : Int32} {k : Nat} (h0 : 0 ≤ c.toInt) (h1 : c.toInt < k) : ∃ n : Fin k, c = Int32.ofInt ((n.val : Nat) : Int) :=
  ⟨⟨c.toInt.toNat, by omega⟩, by show c = Int32.ofInt ((c.toInt.toNat : Nat) : Int); rw [Int.toNat_of_nonneg h0, Int32.ofInt_toInt]⟩
theorem own_hat6 {c : Cell} {dv : Value} {vv : Int32 → Int32} (H : Has c [.int (vv (0 : Int32)), .int (vv (1 : Int32)), .int (vv (2 : Int32)), .int (vv (3 : Int32)), .int (vv (4 : Int32)), .int (vv (5 : Int32))] dv) (S : c.slots.size = (6 : Int32).toNatClampNeg) (i : Int32) (h0 : 0 ≤ i.toInt) (h1 : i.toInt < 6) : c.slots[i.toNatClampNeg]? = some (.int (vv i)) := by
  obtain ⟨n, rfl⟩ := own_of (k := 6) h0 h1
  have hs := H n.val (by rw [S]; have := n.isLt; show n.val < 6; omega)
  have e : ∀ n : Fin 6, (Int32.ofInt ((n.val : Nat) : Int)).toNatClampNeg = n.val := by decide +kernel
  rw [e n, hs]
  match n with
  | ⟨0, _⟩ => rfl
  | ⟨1, _⟩ => rfl
  | ⟨2, _⟩ => rfl
  | ⟨3, _⟩ => rfl
  | ⟨4, _⟩ => rfl
  | ⟨5, _⟩ => rfl
theorem own_j0 (p1 p2 : Int32) (hp1 : 0 ≤ p1.toInt) (hp2 : 0 ≤ p2.toInt) (hp3 : p1.toInt + p2.toInt ≤ 6) (hc : p1 < (p1 + p2)) : 0 ≤ p1.toInt ∧ p1.toInt < 6 := by
  rw [Int32.lt_iff_toInt_lt, own_Ev p1 p2 hp1 hp2 hp3] at hc
  omega
theorem own_wiv : ∀ (k : Nat) (i : Int32), 0 ≤ i.toInt → i.toInt + 2 * (k : Int) ≤ 900 → (own_wi k i).toInt = i.toInt + 2 * (k : Int) := by
  intro k
  induction k with
  | zero => intro i h0 h1; show i.toInt = _; omega
  | succ k ih =>
    intro i h0 h1
    have b := own_add2 i h0 (by omega)
    show (own_wi k (i + 2)).toInt = _
    rw [ih (i + 2) (by omega) (by omega)]
    omega
theorem own_j1 (i E : Int32) (h0 : 0 ≤ i.toInt) (hle : i.toInt ≤ E.toInt) (hE : E.toInt ≤ 6) (hc : (own_wi (own_k i E) i) < E) : 0 ≤ (own_wi (own_k i E) i).toInt ∧ (own_wi (own_k i E) i).toInt < 6 := by
  have k := own_kk i E hle
  have v := own_wiv (own_k i E) i h0 (by omega)
  rw [Int32.lt_iff_toInt_lt] at hc
  omega
theorem own_chk1 (p1 p2 : Int32) (hp1 : 0 ≤ p1.toInt) (hp2 : 0 ≤ p2.toInt) : ¬ ((((6 : Int32) ||| p1) ||| p2) < (0 : Int32)) := by
  have a := c_or0 6 p1 (by decide) hp1
  have l6 : (6 : Int32).toInt = 6 := rfl
  have b := c_or0 ((6 : Int32) ||| p1) p2 (by omega) hp2
  have l0 : (0 : Int32).toInt = 0 := rfl
  rw [Int32.lt_iff_toInt_lt]
  omega
theorem own_chk2 (p1 p2 : Int32) (hp1 : 0 ≤ p1.toInt) (hp2 : 0 ≤ p2.toInt) (hp3 : p1.toInt + p2.toInt ≤ 6) : ¬ (((6 : Int32) - p1) < p2) := by
  have s := c_isub 6 p1
  have r := rng32 ((6 : Int32) - p1)
  have l6 : (6 : Int32).toInt = 6 := rfl
  rw [Int32.lt_iff_toInt_lt]
  omega
theorem own_word (x y : Int32) : (((x &&& (255 : Int32)) <<< ((8 : Int32) &&& 31)) ||| (y &&& (255 : Int32))).toInt = 256 * (x &&& 255).toInt + (y &&& 255).toInt := by
  have hx := own_b8 x
  have hy := own_b8 y
  have s := own_s8 (x &&& 255) hx.1 hx.2
  have o := c_or ((x &&& (255 : Int32)) <<< ((8 : Int32) &&& 31)) (y &&& 255) 8 (by decide) 256 (by decide) (by omega) hy.1 (by omega)
  have r := rng32 (((x &&& (255 : Int32)) <<< ((8 : Int32) &&& 31)) ||| (y &&& (255 : Int32)))
  omega
theorem own_wwv (vv : Int32 → Int32) : ∀ (k : Nat) (i : Int32) (W : Int64), 0 ≤ W.toInt → W.toInt + 65535 * (k : Int) ≤ 100000000 → 0 ≤ (own_ww vv k i W).toInt ∧ (own_ww vv k i W).toInt ≤ W.toInt + 65535 * (k : Int) := by
  intro k
  induction k with
  | zero => intro i W h0 h1; show 0 ≤ W.toInt ∧ W.toInt ≤ _; omega
  | succ k ih =>
    intro i W h0 h1
    have w := own_word (vv i) (vv (i + 1))
    have hx := own_b8 (vv i)
    have hy := own_b8 (vv (i + 1))
    have a := own_add W (((vv i &&& (255 : Int32)) <<< ((8 : Int32) &&& 31)) ||| (vv (i + (1 : Int32)) &&& (255 : Int32))) h0 (by omega) (by omega)
    have q := ih (i + 2) (W + ((((vv i &&& (255 : Int32)) <<< ((8 : Int32) &&& 31)) ||| (vv (i + (1 : Int32)) &&& (255 : Int32))).toInt64)) (by omega) (by omega)
    show 0 ≤ (own_ww vv k (i + 2) (W + ((((vv i &&& (255 : Int32)) <<< ((8 : Int32) &&& 31)) ||| (vv (i + (1 : Int32)) &&& (255 : Int32))).toInt64))).toInt ∧ (own_ww vv k (i + 2) (W + ((((vv i &&& (255 : Int32)) <<< ((8 : Int32) &&& 31)) ||| (vv (i + (1 : Int32)) &&& (255 : Int32))).toInt64))).toInt ≤ _
    omega
theorem own_wwb (vv : Int32 → Int32) (i E : Int32) (W : Int64) (h0 : 0 ≤ W.toInt) (h1 : W.toInt ≤ 65535) (hi0 : 0 ≤ i.toInt) (hi1 : i.toInt ≤ E.toInt) (hE : E.toInt ≤ 6) : 0 ≤ (own_ww vv (own_k i E) i W).toInt ∧ (own_ww vv (own_k i E) i W).toInt ≤ 1000000 := by
  have k := own_kk i E hi1
  have q := own_wwv vv (own_k i E) i W h0 (by omega)
  omega
theorem own_b6 (x : Int64) (h : 0 ≤ x.toInt) : 0 ≤ (f6 x).toInt ∧ (f6 x).toInt ≤ 65535 := by
  unfold f6
  rw [own_foldv]
  exact own_cr _
theorem own_b7 (x : Int32) (S : Int64) (o : Int32) (hs0 : 0 ≤ S.toInt) (hs1 : S.toInt ≤ 65535) : 0 ≤ (f7_sum x o S).toInt ∧ (f7_sum x o S).toInt ≤ 65535 := by
  unfold f7_sum
  exact own_b6 _ (own_u7 x S o hs0 hs1)
theorem pd_3 : parseMethodDescriptor "(III)I" = some ⟨[.int, .int, .int], some .int⟩ := by decide +kernel
theorem pd_4 : parseMethodDescriptor "(I)V" = some ⟨[.int], none⟩ := by decide +kernel
theorem d3_0 : decode prog_41_method_3_code 0 = .ok (.iload_n 2, 1) := by decide +kernel
theorem d3_1 : decode prog_41_method_3_code 1 = .ok (.iload_n 3, 1) := by decide +kernel
theorem d3_2 : decode prog_41_method_3_code 2 = .ok (.aload_n 1, 1) := by decide +kernel
theorem d3_3 : decode prog_41_method_3_code 3 = .ok (.arraylength, 1) := by decide +kernel
theorem d3_4 : decode prog_41_method_3_code 4 = .ok (.invokestatic 21, 3) := by decide +kernel
theorem d3_7 : decode prog_41_method_3_code 7 = .ok (.pop, 1) := by decide +kernel
theorem d3_8 : decode prog_41_method_3_code 8 = .ok (.iload_n 2, 1) := by decide +kernel
theorem d3_9 : decode prog_41_method_3_code 9 = .ok (.istore 4, 2) := by decide +kernel
theorem d3_11 : decode prog_41_method_3_code 11 = .ok (.iload_n 2, 1) := by decide +kernel
theorem d3_12 : decode prog_41_method_3_code 12 = .ok (.iload_n 3, 1) := by decide +kernel
theorem d3_13 : decode prog_41_method_3_code 13 = .ok (.iadd, 1) := by decide +kernel
theorem d3_14 : decode prog_41_method_3_code 14 = .ok (.istore 5, 2) := by decide +kernel
theorem d3_16 : decode prog_41_method_3_code 16 = .ok (.aload_n 0, 1) := by decide +kernel
theorem d3_17 : decode prog_41_method_3_code 17 = .ok (.getfield 13, 3) := by decide +kernel
theorem d3_20 : decode prog_41_method_3_code 20 = .ok (.ifCond .eq 21, 3) := by decide +kernel
theorem d3_23 : decode prog_41_method_3_code 23 = .ok (.iload 4, 2) := by decide +kernel
theorem d3_25 : decode prog_41_method_3_code 25 = .ok (.iload 5, 2) := by decide +kernel
theorem d3_27 : decode prog_41_method_3_code 27 = .ok (.if_icmp .ge 14, 3) := by decide +kernel
theorem d3_30 : decode prog_41_method_3_code 30 = .ok (.aload_n 0, 1) := by decide +kernel
theorem d3_31 : decode prog_41_method_3_code 31 = .ok (.aload_n 1, 1) := by decide +kernel
theorem d3_32 : decode prog_41_method_3_code 32 = .ok (.iload 4, 2) := by decide +kernel
theorem d3_34 : decode prog_41_method_3_code 34 = .ok (.iinc 4 1, 3) := by decide +kernel
theorem d3_37 : decode prog_41_method_3_code 37 = .ok (.baload, 1) := by decide +kernel
theorem d3_38 : decode prog_41_method_3_code 38 = .ok (.invokevirtual 27, 3) := by decide +kernel
theorem d3_41 : decode prog_41_method_3_code 41 = .ok (.aload_n 0, 1) := by decide +kernel
theorem d3_42 : decode prog_41_method_3_code 42 = .ok (.getfield 7, 3) := by decide +kernel
theorem d3_45 : decode prog_41_method_3_code 45 = .ok (.lstore 6, 2) := by decide +kernel
theorem d3_47 : decode prog_41_method_3_code 47 = .ok (.iload 4, 2) := by decide +kernel
theorem d3_49 : decode prog_41_method_3_code 49 = .ok (.iconst 1, 1) := by decide +kernel
theorem d3_50 : decode prog_41_method_3_code 50 = .ok (.iadd, 1) := by decide +kernel
theorem d3_51 : decode prog_41_method_3_code 51 = .ok (.iload 5, 2) := by decide +kernel
theorem d3_53 : decode prog_41_method_3_code 53 = .ok (.if_icmp .ge 37, 3) := by decide +kernel
theorem d3_56 : decode prog_41_method_3_code 56 = .ok (.lload 6, 2) := by decide +kernel
theorem d3_58 : decode prog_41_method_3_code 58 = .ok (.aload_n 1, 1) := by decide +kernel
theorem d3_59 : decode prog_41_method_3_code 59 = .ok (.iload 4, 2) := by decide +kernel
theorem d3_61 : decode prog_41_method_3_code 61 = .ok (.baload, 1) := by decide +kernel
theorem d3_62 : decode prog_41_method_3_code 62 = .ok (.sipush 255, 3) := by decide +kernel
theorem d3_65 : decode prog_41_method_3_code 65 = .ok (.iand, 1) := by decide +kernel
theorem d3_66 : decode prog_41_method_3_code 66 = .ok (.bipush 8, 2) := by decide +kernel
theorem d3_68 : decode prog_41_method_3_code 68 = .ok (.ishl, 1) := by decide +kernel
theorem d3_69 : decode prog_41_method_3_code 69 = .ok (.aload_n 1, 1) := by decide +kernel
theorem d3_70 : decode prog_41_method_3_code 70 = .ok (.iload 4, 2) := by decide +kernel
theorem d3_72 : decode prog_41_method_3_code 72 = .ok (.iconst 1, 1) := by decide +kernel
theorem d3_73 : decode prog_41_method_3_code 73 = .ok (.iadd, 1) := by decide +kernel
theorem d3_74 : decode prog_41_method_3_code 74 = .ok (.baload, 1) := by decide +kernel
theorem d3_75 : decode prog_41_method_3_code 75 = .ok (.sipush 255, 3) := by decide +kernel
theorem d3_78 : decode prog_41_method_3_code 78 = .ok (.iand, 1) := by decide +kernel
theorem d3_79 : decode prog_41_method_3_code 79 = .ok (.ior, 1) := by decide +kernel
theorem d3_80 : decode prog_41_method_3_code 80 = .ok (.i2l, 1) := by decide +kernel
theorem d3_81 : decode prog_41_method_3_code 81 = .ok (.ladd, 1) := by decide +kernel
theorem d3_82 : decode prog_41_method_3_code 82 = .ok (.lstore 6, 2) := by decide +kernel
theorem d3_84 : decode prog_41_method_3_code 84 = .ok (.iinc 4 2, 3) := by decide +kernel
theorem d3_87 : decode prog_41_method_3_code 87 = .ok (.goto (-40), 3) := by decide +kernel
theorem d3_90 : decode prog_41_method_3_code 90 = .ok (.aload_n 0, 1) := by decide +kernel
theorem d3_91 : decode prog_41_method_3_code 91 = .ok (.lload 6, 2) := by decide +kernel
theorem d3_93 : decode prog_41_method_3_code 93 = .ok (.invokestatic 17, 3) := by decide +kernel
theorem d3_96 : decode prog_41_method_3_code 96 = .ok (.putfield 7, 3) := by decide +kernel
theorem d3_99 : decode prog_41_method_3_code 99 = .ok (.iload 4, 2) := by decide +kernel
theorem d3_101 : decode prog_41_method_3_code 101 = .ok (.iload 5, 2) := by decide +kernel
theorem d3_103 : decode prog_41_method_3_code 103 = .ok (.if_icmp .ge 11, 3) := by decide +kernel
theorem d3_106 : decode prog_41_method_3_code 106 = .ok (.aload_n 0, 1) := by decide +kernel
theorem d3_107 : decode prog_41_method_3_code 107 = .ok (.aload_n 1, 1) := by decide +kernel
theorem d3_108 : decode prog_41_method_3_code 108 = .ok (.iload 4, 2) := by decide +kernel
theorem d3_110 : decode prog_41_method_3_code 110 = .ok (.baload, 1) := by decide +kernel
theorem d3_111 : decode prog_41_method_3_code 111 = .ok (.invokevirtual 27, 3) := by decide +kernel
theorem d3_114 : decode prog_41_method_3_code 114 = .ok (.return_, 1) := by decide +kernel
theorem ef_3 (m : MethodId) (x0 : Addr) (x1 : Addr) (x2 : Int32) (x3 : Int32) : entryFrame m #[(.ref x0), (.ref x1), (.int x2), (.int x3)] 8 = mkF m 0 #[.val (.ref x0), .val (.ref x1), .val (.int x2), .val (.int x3), .unset, .unset, .unset, .unset] [] := by first | (simp [entryFrame, mkF, argsToLocals, Value.category]; done) | rfl
def f3_odd (p1 : Int32) (p2 : Int32) (w_odd : Int32) (w_sum : Int64) (vv : Int32 → Int32) : Int32 := (if w_odd = (0 : Int32) then (if (own_wi (own_k p1 (p1 + p2)) p1) < (p1 + p2) then (f7_odd (vv (own_wi (own_k p1 (p1 + p2)) p1)) w_odd (f6 (own_ww vv (own_k p1 (p1 + p2)) p1 w_sum))) else w_odd) else (if p1 < (p1 + p2) then (if (own_wi (own_k (p1 + (1 : Int32)) (p1 + p2)) (p1 + (1 : Int32))) < (p1 + p2) then (f7_odd (vv (own_wi (own_k (p1 + (1 : Int32)) (p1 + p2)) (p1 + (1 : Int32)))) (f7_odd (vv p1) w_odd w_sum) (f6 (own_ww vv (own_k (p1 + (1 : Int32)) (p1 + p2)) (p1 + (1 : Int32)) (f7_sum (vv p1) w_odd w_sum)))) else (f7_odd (vv p1) w_odd w_sum)) else (if (own_wi (own_k p1 (p1 + p2)) p1) < (p1 + p2) then (f7_odd (vv (own_wi (own_k p1 (p1 + p2)) p1)) w_odd (f6 (own_ww vv (own_k p1 (p1 + p2)) p1 w_sum))) else w_odd)))
def f3_sum (p1 : Int32) (p2 : Int32) (w_odd : Int32) (w_sum : Int64) (vv : Int32 → Int32) : Int64 := (if w_odd = (0 : Int32) then (if (own_wi (own_k p1 (p1 + p2)) p1) < (p1 + p2) then (f7_sum (vv (own_wi (own_k p1 (p1 + p2)) p1)) w_odd (f6 (own_ww vv (own_k p1 (p1 + p2)) p1 w_sum))) else (f6 (own_ww vv (own_k p1 (p1 + p2)) p1 w_sum))) else (if p1 < (p1 + p2) then (if (own_wi (own_k (p1 + (1 : Int32)) (p1 + p2)) (p1 + (1 : Int32))) < (p1 + p2) then (f7_sum (vv (own_wi (own_k (p1 + (1 : Int32)) (p1 + p2)) (p1 + (1 : Int32)))) (f7_odd (vv p1) w_odd w_sum) (f6 (own_ww vv (own_k (p1 + (1 : Int32)) (p1 + p2)) (p1 + (1 : Int32)) (f7_sum (vv p1) w_odd w_sum)))) else (f6 (own_ww vv (own_k (p1 + (1 : Int32)) (p1 + p2)) (p1 + (1 : Int32)) (f7_sum (vv p1) w_odd w_sum)))) else (if (own_wi (own_k p1 (p1 + p2)) p1) < (p1 + p2) then (f7_sum (vv (own_wi (own_k p1 (p1 + p2)) p1)) w_odd (f6 (own_ww vv (own_k p1 (p1 + p2)) p1 w_sum))) else (f6 (own_ww vv (own_k p1 (p1 + p2)) p1 w_sum)))))
def Q3 (Z : State) (a0t : Addr) (r0 : Addr) (p1 : Int32) (p2 : Int32) (w_odd : Int32) (w_sum : Int64) (kA : ClassId) (vv : Int32 → Int32) (h0 : Heap) (n0 : Nat) (v : Option Value) (h : Heap) (L : List Loc) : Prop := v = none ∧ Fr n0 L ∧ Keep h0 h [a0t] ∧ Exa Z h a0t "com/example/wireshape/wireshape/model/InternetChecksum" ∧ Fld Z h a0t "com/example/wireshape/wireshape/model/InternetChecksum" "odd" "Z" (.int (f3_odd p1 p2 w_odd w_sum vv)) ∧ Fld Z h a0t "com/example/wireshape/wireshape/model/InternetChecksum" "sum" "J" (.long (f3_sum p1 p2 w_odd w_sum vv))
set_option maxRecDepth 65536 in
set_option maxHeartbeats 40000000 in
theorem rm3 (l : Launch) (Z : State) (a0 : Array Value) (hw : ∀ d ∈ tables_1, d.before a0 Z = true) (ws : List Jvm.Cond) (a0t : Addr) (r0 : Addr) (p1 : Int32) (p2 : Int32) (w_odd : Int32) (w_sum : Int64) (kA : ClassId) (vv : Int32 → Int32) (h0 : Heap) (n0 : Nat) (Z0 : n0 ≤ h0.size) (E_this : Exa Z h0 a0t "com/example/wireshape/wireshape/model/InternetChecksum") (g_this : n0 ≤ a0t) (F_odd : Fld Z h0 a0t "com/example/wireshape/wireshape/model/InternetChecksum" "odd" "Z" (.int w_odd)) (F_sum : Fld Z h0 a0t "com/example/wireshape/wireshape/model/InternetChecksum" "sum" "J" (.long w_sum)) (V_r : Arv Z h0 r0 kA .byte (6 : Int32) [(.int (vv (0 : Int32))), (.int (vv (1 : Int32))), (.int (vv (2 : Int32))), (.int (vv (3 : Int32))), (.int (vv (4 : Int32))), (.int (vv (5 : Int32)))] (.int (0 : Int32))) (ne_r : r0 ≠ a0t) (hp1 : 0 ≤ p1.toInt) (hp2 : 0 ≤ p2.toInt) (hp3 : p1.toInt + p2.toInt ≤ 6) (hs0 : 0 ≤ w_sum.toInt) (hs1 : w_sum.toInt ≤ 65535) :
    MetFree l (⟨"com/example/wireshape/wireshape/model/InternetChecksum", "update", "([BII)V"⟩ : MethodName) (head1 (Jvm.Cond.code (⟨"com/example/wireshape/wireshape/model/InternetChecksum", "update", "([BII)V"⟩ : MethodName) prog_41_method_3_code 8 none :: ws) ({ frames := 2, cells := 0, slots := 0, locals := 29 } : Room)) (fun a U => a = #[(.ref a0t), (.ref r0), (.int p1), (.int p2)] ∧ Z.Warmed39 U.vm ∧ U.heap = h0) (fun _ _ _ _ _ => True) (fun _ U o U' => ∃ v L, o = .returned v ∧ Q3 Z a0t r0 p1 p2 w_odd w_sum kA vv h0 n0 v U'.heap L ∧ FrameEnd U o U' L ({ frames := 2, cells := 0, slots := 0, locals := 29 } : Room).cells ({ frames := 2, cells := 0, slots := 0, locals := 29 } : Room).slots) := by
  refine MetFree.of_bodySF (plainFor_of_name pn_0) hisR ?_
  intro p e s m args below meth c s₁ Bd hml0 hP hK
  obtain ⟨rfl, hZ, hh⟩ := hP
  have hx := Bd.exec
  have hby := Bd.bytes
  have hml : c.maxLocals = 8 := hml0
  have hown : s.vm.findClass "com/example/wireshape/wireshape/model/InternetChecksum" = some m.cls := findClass_of_methodNamed Bd.named
  have hnm := (name_of_methodNamed Bd.named Bd.method).1
  have X0 : Stand p l e ({ frames := 2, cells := 0, slots := 0, locals := 29 } : Room) s m #[(.ref a0t), (.ref r0), (.int p1), (.int p2)] below meth c s₁ [] 0 0 := Stand.of_body Bd
  have e0 : s₁.heap = h0 := by rw [← hh, Bd.state]; rfl
  have hlk : meth.locks = false := by first | exact BodyLoose.notSynchronized Bd | exact Body.notSynchronized Bd
  have N0 := Fr.nil n0
  have K0 := Keep.refl h0 [a0t]
  have pre0 : ∀ t, Steps p.tables e below (s₁.setTop (mkF m 0 #[.val (.ref a0t), .val (.ref r0), .val (.int p1), .val (.int p2), .unset, .unset, .unset, .unset] [])) t → Steps p.tables e below (s₁.setTop (entryFrame m #[(.ref a0t), (.ref r0), (.int p1), (.int p2)] 8)) t := fun t k => castTop (ef_3 m a0t r0 p1 p2) k
  have hE6 : (p1 + p2).toInt ≤ 6 := own_E6 p1 p2 hp1 hp2 hp3
  obtain ⟨cl1, Ar1, q1, S1, N1_, H1, G1⟩ := id V_r
  obtain ⟨_, _, ⟨T2, L2, k2, n2⟩, -, X2, ⟨Lc2, hQ2, l2, y2, z2⟩, st2⟩ := Jvm.LawKit.callS X0 hx (y := (⟨"java/util/Objects", "checkFromIndexSize", "(III)I"⟩ : MethodName)) hown (mvT hZ (hw _ (List.mem_of_getElem? (i := 15) rfl))) (mvT hZ (hw _ (List.mem_of_getElem? (i := 16) rfl))) (mvT hZ (hw _ (List.mem_of_getElem? (i := 17) rfl))) (mvT hZ (hw _ (List.mem_of_getElem? (i := 18) rfl))) (by decide) (backOf (W := 0) (rm4 l Z a0 hw [] p1 p2 (6 : Int32) h0 n0 Z0 (own_chk1 p1 p2 hp1 hp2) (own_chk2 p1 p2 hp1 hp2 hp3)) hZ (hw _ (List.mem_of_getElem? (i := 18) rfl)) (hw _ (List.mem_of_getElem? (i := 17) rfl)) (by decide) (by decide)) (g := (mkF m 4 #[.val (.ref a0t), .val (.ref r0), .val (.int p1), .val (.int p2), .unset, .unset, .unset, .unset] [(.int (6 : Int32)), (.int p2), (.int p1)])) rfl (by rw [hml]; rfl) (argsL := [(.int p1), (.int p2), (.int (6 : Int32))]) (rest := []) (lenOf pd_3 rfl) rfl (by show 2 * 0 + _ ≤ _; exact Nat.le_of_eq rfl) (hb hby d3_4) (fun _ _ => ⟨rfl, e0, (by decide : 0 + 0 ≤ _), (by decide : 0 + 0 ≤ _)⟩)
  dsimp only [Pt.U, Pt.locs, Pt.cells, Pt.slots] at X2 l2 y2 z2 st2 hQ2
  obtain rfl : k2 = 0 := y2
  obtain rfl : n2 = 0 := z2
  obtain ⟨rfl, N2q, e2⟩ := hQ2
  have N2 : Fr n0 L2 := by rw [l2]; exact Fr.app N0 N2q
  obtain ⟨T3, X3, e3, st3⟩ := getF X2 hx hZ hown (host := "") (Or.inl (hw _ (List.mem_of_getElem? (i := 23) rfl))) Via.refl e2 F_odd (g := (mkF m 17 #[.val (.ref a0t), .val (.ref r0), .val (.int p1), .val (.int p2), .val (.int p1), .val (.int (p1 + p2)), .unset, .unset] [(.ref a0t)])) rfl rfl (hb hby d3_17)
  have pre4 : ∀ t, Steps p.tables e below (T3.setTop (mkF m 20 #[.val (.ref a0t), .val (.ref r0), .val (.int p1), .val (.int p2), .val (.int p1), .val (.int (p1 + p2)), .unset, .unset] [(.int w_odd)])) t → Steps p.tables e below (s₁.setTop (entryFrame m #[(.ref a0t), (.ref r0), (.int p1), (.int p2)] 8)) t := fun t kt => pre0 t (by
    show Steps p.tables e below (s₁.setTop (mkF m 0 #[.val (.ref a0t), .val (.ref r0), .val (.int p1), .val (.int p2), .unset, .unset, .unset, .unset] [])) _
    refine XS.iloadN X0.here hx rfl (hb hby d3_0) rfl ?_
    show Steps p.tables e below (s₁.setTop (mkF m 1 #[.val (.ref a0t), .val (.ref r0), .val (.int p1), .val (.int p2), .unset, .unset, .unset, .unset] [(.int p1)])) _
    refine XS.iloadN X0.here hx rfl (hb hby d3_1) rfl ?_
    show Steps p.tables e below (s₁.setTop (mkF m 2 #[.val (.ref a0t), .val (.ref r0), .val (.int p1), .val (.int p2), .unset, .unset, .unset, .unset] [(.int p2), (.int p1)])) _
    refine XS.aloadN X0.here hx rfl (hb hby d3_2) rfl rfl ?_
    show Steps p.tables e below (s₁.setTop (mkF m 3 #[.val (.ref a0t), .val (.ref r0), .val (.int p1), .val (.int p2), .unset, .unset, .unset, .unset] [(.ref r0), (.int p2), (.int p1)])) _
    refine X0.arraylength hx (by rw [e0]; exact Ar1.1) (State.isArrayOf_alike hZ.alike Ar1.2.1) (g := (mkF m 3 #[.val (.ref a0t), .val (.ref r0), .val (.int p1), .val (.int p2), .unset, .unset, .unset, .unset] [(.ref r0), (.int p2), (.int p1)])) rfl rfl (hb hby d3_3) _ ?_
    rw [len_of S1 N1_]
    show Steps p.tables e below (s₁.setTop (mkF m 4 #[.val (.ref a0t), .val (.ref r0), .val (.int p1), .val (.int p2), .unset, .unset, .unset, .unset] [(.int (6 : Int32)), (.int p2), (.int p1)])) _
    refine st2 _ ?_
    show Steps p.tables e below (T2.setTop (mkF m 7 #[.val (.ref a0t), .val (.ref r0), .val (.int p1), .val (.int p2), .unset, .unset, .unset, .unset] [(.int (f4 p1 p2 (6 : Int32)))])) _
    refine XS.pop X2.here hx rfl (hb hby d3_7) rfl rfl ?_
    show Steps p.tables e below (T2.setTop (mkF m 8 #[.val (.ref a0t), .val (.ref r0), .val (.int p1), .val (.int p2), .unset, .unset, .unset, .unset] [])) _
    refine XS.iloadN X2.here hx rfl (hb hby d3_8) rfl ?_
    show Steps p.tables e below (T2.setTop (mkF m 9 #[.val (.ref a0t), .val (.ref r0), .val (.int p1), .val (.int p2), .unset, .unset, .unset, .unset] [(.int p1)])) _
    refine XS.istore X2.here hx rfl (hb hby d3_9) rfl (l' := #[.val (.ref a0t), .val (.ref r0), .val (.int p1), .val (.int p2), .val (.int p1), .unset, .unset, .unset]) rfl ?_
    show Steps p.tables e below (T2.setTop (mkF m 11 #[.val (.ref a0t), .val (.ref r0), .val (.int p1), .val (.int p2), .val (.int p1), .unset, .unset, .unset] [])) _
    refine XS.iloadN X2.here hx rfl (hb hby d3_11) rfl ?_
    show Steps p.tables e below (T2.setTop (mkF m 12 #[.val (.ref a0t), .val (.ref r0), .val (.int p1), .val (.int p2), .val (.int p1), .unset, .unset, .unset] [(.int p1)])) _
    refine XS.iloadN X2.here hx rfl (hb hby d3_12) rfl ?_
    show Steps p.tables e below (T2.setTop (mkF m 13 #[.val (.ref a0t), .val (.ref r0), .val (.int p1), .val (.int p2), .val (.int p1), .unset, .unset, .unset] [(.int p2), (.int p1)])) _
    refine XS.iadd X2.here hx rfl (hb hby d3_13) rfl ?_
    show Steps p.tables e below (T2.setTop (mkF m 14 #[.val (.ref a0t), .val (.ref r0), .val (.int p1), .val (.int p2), .val (.int p1), .unset, .unset, .unset] [(.int (p1 + p2))])) _
    refine XS.istore X2.here hx rfl (hb hby d3_14) rfl (l' := #[.val (.ref a0t), .val (.ref r0), .val (.int p1), .val (.int p2), .val (.int p1), .val (.int (p1 + p2)), .unset, .unset]) rfl ?_
    show Steps p.tables e below (T2.setTop (mkF m 16 #[.val (.ref a0t), .val (.ref r0), .val (.int p1), .val (.int p2), .val (.int p1), .val (.int (p1 + p2)), .unset, .unset] [])) _
    refine XS.aloadN X2.here hx rfl (hb hby d3_16) rfl rfl ?_
    show Steps p.tables e below (T2.setTop (mkF m 17 #[.val (.ref a0t), .val (.ref r0), .val (.int p1), .val (.int p2), .val (.int p1), .val (.int (p1 + p2)), .unset, .unset] [(.ref a0t)])) _
    refine st3 _ ?_
    exact kt)
  by_cases hc5 : w_odd = (0 : Int32)
  · obtain ⟨T6, X6, e6, st6⟩ := getF X3 hx hZ hown (host := "") (Or.inl (hw _ (List.mem_of_getElem? (i := 25) rfl))) Via.refl e3 F_sum (g := (mkF m 42 #[.val (.ref a0t), .val (.ref r0), .val (.int p1), .val (.int p2), .val (.int p1), .val (.int (p1 + p2)), .unset, .unset] [(.ref a0t)])) rfl rfl (hb hby d3_42)
    obtain ⟨clL, ArL, -, SL, -, HL, -⟩ := id V_r
    have loop47 : ∀ (k : Nat) (W : Int64) (i : Int32), 0 ≤ i.toInt → ((p1 + p2).toInt = i.toInt + 2 * (k : Int) ∨ (p1 + p2).toInt = i.toInt + 2 * (k : Int) + 1) → ∀ t, Steps p.tables e below (T6.setTop (mkF m 90 #[.val (.ref a0t), .val (.ref r0), .val (.int p1), .val (.int p2), .val (.int (own_wi k i)), .val (.int (p1 + p2)), .val (.long (own_ww vv k i W)), .second] [])) t → Steps p.tables e below (T6.setTop (mkF m 47 #[.val (.ref a0t), .val (.ref r0), .val (.int p1), .val (.int p2), .val (.int i), .val (.int (p1 + p2)), .val (.long W), .second] [])) t := by
      intro k
      induction k with
      | zero =>
        intro W i h0 h1 t kt
        have hc : ¬ (i + (1 : Int32)) < (p1 + p2) := own_lo0 i (p1 + p2) h0 hE6 h1
        show Steps p.tables e below (T6.setTop (mkF m 47 #[.val (.ref a0t), .val (.ref r0), .val (.int p1), .val (.int p2), .val (.int i), .val (.int (p1 + p2)), .val (.long W), .second] [])) _
        refine XS.iload X6.here hx rfl (hb hby d3_47) rfl ?_
        show Steps p.tables e below (T6.setTop (mkF m 49 #[.val (.ref a0t), .val (.ref r0), .val (.int p1), .val (.int p2), .val (.int i), .val (.int (p1 + p2)), .val (.long W), .second] [(.int i)])) _
        refine XS.iconst X6.here hx rfl (hb hby d3_49) ?_
        show Steps p.tables e below (T6.setTop (mkF m 50 #[.val (.ref a0t), .val (.ref r0), .val (.int p1), .val (.int p2), .val (.int i), .val (.int (p1 + p2)), .val (.long W), .second] [(.int (1 : Int32)), (.int i)])) _
        refine XS.iadd X6.here hx rfl (hb hby d3_50) rfl ?_
        show Steps p.tables e below (T6.setTop (mkF m 51 #[.val (.ref a0t), .val (.ref r0), .val (.int p1), .val (.int p2), .val (.int i), .val (.int (p1 + p2)), .val (.long W), .second] [(.int (i + (1 : Int32)))])) _
        refine XS.iload X6.here hx rfl (hb hby d3_51) rfl ?_
        show Steps p.tables e below (T6.setTop (mkF m 53 #[.val (.ref a0t), .val (.ref r0), .val (.int p1), .val (.int p2), .val (.int i), .val (.int (p1 + p2)), .val (.long W), .second] [(.int (p1 + p2)), (.int (i + (1 : Int32)))])) _
        refine XS.icmpYes X6.here hx rfl (pc0 := 53) (pc' := 90) rfl (hb hby d3_53) rfl (flt hc).2.1 (by decide) (by decide) ?_
        exact kt
      | succ k ih =>
        intro W i h0 h1 t kt
        have hh := own_lo1 i (p1 + p2) k h0 hE6 h1
        have hc : (i + (1 : Int32)) < (p1 + p2) := hh.1
        show Steps p.tables e below (T6.setTop (mkF m 47 #[.val (.ref a0t), .val (.ref r0), .val (.int p1), .val (.int p2), .val (.int i), .val (.int (p1 + p2)), .val (.long W), .second] [])) _
        refine XS.iload X6.here hx rfl (hb hby d3_47) rfl ?_
        show Steps p.tables e below (T6.setTop (mkF m 49 #[.val (.ref a0t), .val (.ref r0), .val (.int p1), .val (.int p2), .val (.int i), .val (.int (p1 + p2)), .val (.long W), .second] [(.int i)])) _
        refine XS.iconst X6.here hx rfl (hb hby d3_49) ?_
        show Steps p.tables e below (T6.setTop (mkF m 50 #[.val (.ref a0t), .val (.ref r0), .val (.int p1), .val (.int p2), .val (.int i), .val (.int (p1 + p2)), .val (.long W), .second] [(.int (1 : Int32)), (.int i)])) _
        refine XS.iadd X6.here hx rfl (hb hby d3_50) rfl ?_
        show Steps p.tables e below (T6.setTop (mkF m 51 #[.val (.ref a0t), .val (.ref r0), .val (.int p1), .val (.int p2), .val (.int i), .val (.int (p1 + p2)), .val (.long W), .second] [(.int (i + (1 : Int32)))])) _
        refine XS.iload X6.here hx rfl (hb hby d3_51) rfl ?_
        show Steps p.tables e below (T6.setTop (mkF m 53 #[.val (.ref a0t), .val (.ref r0), .val (.int p1), .val (.int p2), .val (.int i), .val (.int (p1 + p2)), .val (.long W), .second] [(.int (p1 + p2)), (.int (i + (1 : Int32)))])) _
        refine XS.icmpNo X6.here hx rfl (hb hby d3_53) rfl (tlt hc).2.1 ?_
        show Steps p.tables e below (T6.setTop (mkF m 56 #[.val (.ref a0t), .val (.ref r0), .val (.int p1), .val (.int p2), .val (.int i), .val (.int (p1 + p2)), .val (.long W), .second] [])) _
        refine XS.lload X6.here hx rfl (hb hby d3_56) rfl ?_
        show Steps p.tables e below (T6.setTop (mkF m 58 #[.val (.ref a0t), .val (.ref r0), .val (.int p1), .val (.int p2), .val (.int i), .val (.int (p1 + p2)), .val (.long W), .second] [(.long W)])) _
        refine XS.aloadN X6.here hx rfl (hb hby d3_58) rfl rfl ?_
        show Steps p.tables e below (T6.setTop (mkF m 59 #[.val (.ref a0t), .val (.ref r0), .val (.int p1), .val (.int p2), .val (.int i), .val (.int (p1 + p2)), .val (.long W), .second] [(.ref r0), (.long W)])) _
        refine XS.iload X6.here hx rfl (hb hby d3_59) rfl ?_
        show Steps p.tables e below (T6.setTop (mkF m 61 #[.val (.ref a0t), .val (.ref r0), .val (.int p1), .val (.int p2), .val (.int i), .val (.int (p1 + p2)), .val (.long W), .second] [(.int i), (.ref r0), (.long W)])) _
        refine X6.baloadBytes hx (j := i) (v := (.int (vv i))) (by rw [e6]; exact ArL.1) (State.isArrayOf_alike hZ.alike ArL.2.1) ArL.2.2 (own_in6 SL hh.2.2.2.1.1 hh.2.2.2.1.2) (own_hat6 HL SL _ hh.2.2.2.1.1 hh.2.2.2.1.2) (g := (mkF m 61 #[.val (.ref a0t), .val (.ref r0), .val (.int p1), .val (.int p2), .val (.int i), .val (.int (p1 + p2)), .val (.long W), .second] [(.int i), (.ref r0), (.long W)])) rfl rfl (hb hby d3_61) _ ?_
        show Steps p.tables e below (T6.setTop (mkF m 62 #[.val (.ref a0t), .val (.ref r0), .val (.int p1), .val (.int p2), .val (.int i), .val (.int (p1 + p2)), .val (.long W), .second] [(.int (vv i)), (.long W)])) _
        refine XS.sipush X6.here hx rfl (hb hby d3_62) ?_
        show Steps p.tables e below (T6.setTop (mkF m 65 #[.val (.ref a0t), .val (.ref r0), .val (.int p1), .val (.int p2), .val (.int i), .val (.int (p1 + p2)), .val (.long W), .second] [(.int (255 : Int32)), (.int (vv i)), (.long W)])) _
        refine XS.iand X6.here hx rfl (hb hby d3_65) rfl ?_
        show Steps p.tables e below (T6.setTop (mkF m 66 #[.val (.ref a0t), .val (.ref r0), .val (.int p1), .val (.int p2), .val (.int i), .val (.int (p1 + p2)), .val (.long W), .second] [(.int ((vv i) &&& (255 : Int32))), (.long W)])) _
        refine XS.bipush X6.here hx rfl (hb hby d3_66) ?_
        show Steps p.tables e below (T6.setTop (mkF m 68 #[.val (.ref a0t), .val (.ref r0), .val (.int p1), .val (.int p2), .val (.int i), .val (.int (p1 + p2)), .val (.long W), .second] [(.int (8 : Int32)), (.int ((vv i) &&& (255 : Int32))), (.long W)])) _
        refine XS.ishl X6.here hx rfl (hb hby d3_68) rfl ?_
        show Steps p.tables e below (T6.setTop (mkF m 69 #[.val (.ref a0t), .val (.ref r0), .val (.int p1), .val (.int p2), .val (.int i), .val (.int (p1 + p2)), .val (.long W), .second] [(.int (((vv i) &&& (255 : Int32)) <<< ((8 : Int32) &&& 31))), (.long W)])) _
        refine XS.aloadN X6.here hx rfl (hb hby d3_69) rfl rfl ?_
        show Steps p.tables e below (T6.setTop (mkF m 70 #[.val (.ref a0t), .val (.ref r0), .val (.int p1), .val (.int p2), .val (.int i), .val (.int (p1 + p2)), .val (.long W), .second] [(.ref r0), (.int (((vv i) &&& (255 : Int32)) <<< ((8 : Int32) &&& 31))), (.long W)])) _
        refine XS.iload X6.here hx rfl (hb hby d3_70) rfl ?_
        show Steps p.tables e below (T6.setTop (mkF m 72 #[.val (.ref a0t), .val (.ref r0), .val (.int p1), .val (.int p2), .val (.int i), .val (.int (p1 + p2)), .val (.long W), .second] [(.int i), (.ref r0), (.int (((vv i) &&& (255 : Int32)) <<< ((8 : Int32) &&& 31))), (.long W)])) _
        refine XS.iconst X6.here hx rfl (hb hby d3_72) ?_
        show Steps p.tables e below (T6.setTop (mkF m 73 #[.val (.ref a0t), .val (.ref r0), .val (.int p1), .val (.int p2), .val (.int i), .val (.int (p1 + p2)), .val (.long W), .second] [(.int (1 : Int32)), (.int i), (.ref r0), (.int (((vv i) &&& (255 : Int32)) <<< ((8 : Int32) &&& 31))), (.long W)])) _
        refine XS.iadd X6.here hx rfl (hb hby d3_73) rfl ?_
        show Steps p.tables e below (T6.setTop (mkF m 74 #[.val (.ref a0t), .val (.ref r0), .val (.int p1), .val (.int p2), .val (.int i), .val (.int (p1 + p2)), .val (.long W), .second] [(.int (i + (1 : Int32))), (.ref r0), (.int (((vv i) &&& (255 : Int32)) <<< ((8 : Int32) &&& 31))), (.long W)])) _
        refine X6.baloadBytes hx (j := (i + (1 : Int32))) (v := (.int (vv (i + (1 : Int32))))) (by rw [e6]; exact ArL.1) (State.isArrayOf_alike hZ.alike ArL.2.1) ArL.2.2 (own_in6 SL hh.2.2.2.2.1 hh.2.2.2.2.2) (own_hat6 HL SL _ hh.2.2.2.2.1 hh.2.2.2.2.2) (g := (mkF m 74 #[.val (.ref a0t), .val (.ref r0), .val (.int p1), .val (.int p2), .val (.int i), .val (.int (p1 + p2)), .val (.long W), .second] [(.int (i + (1 : Int32))), (.ref r0), (.int (((vv i) &&& (255 : Int32)) <<< ((8 : Int32) &&& 31))), (.long W)])) rfl rfl (hb hby d3_74) _ ?_
        show Steps p.tables e below (T6.setTop (mkF m 75 #[.val (.ref a0t), .val (.ref r0), .val (.int p1), .val (.int p2), .val (.int i), .val (.int (p1 + p2)), .val (.long W), .second] [(.int (vv (i + (1 : Int32)))), (.int (((vv i) &&& (255 : Int32)) <<< ((8 : Int32) &&& 31))), (.long W)])) _
        refine XS.sipush X6.here hx rfl (hb hby d3_75) ?_
        show Steps p.tables e below (T6.setTop (mkF m 78 #[.val (.ref a0t), .val (.ref r0), .val (.int p1), .val (.int p2), .val (.int i), .val (.int (p1 + p2)), .val (.long W), .second] [(.int (255 : Int32)), (.int (vv (i + (1 : Int32)))), (.int (((vv i) &&& (255 : Int32)) <<< ((8 : Int32) &&& 31))), (.long W)])) _
        refine XS.iand X6.here hx rfl (hb hby d3_78) rfl ?_
        show Steps p.tables e below (T6.setTop (mkF m 79 #[.val (.ref a0t), .val (.ref r0), .val (.int p1), .val (.int p2), .val (.int i), .val (.int (p1 + p2)), .val (.long W), .second] [(.int ((vv (i + (1 : Int32))) &&& (255 : Int32))), (.int (((vv i) &&& (255 : Int32)) <<< ((8 : Int32) &&& 31))), (.long W)])) _
        refine XS.ior X6.here hx rfl (hb hby d3_79) rfl ?_
        show Steps p.tables e below (T6.setTop (mkF m 80 #[.val (.ref a0t), .val (.ref r0), .val (.int p1), .val (.int p2), .val (.int i), .val (.int (p1 + p2)), .val (.long W), .second] [(.int ((((vv i) &&& (255 : Int32)) <<< ((8 : Int32) &&& 31)) ||| ((vv (i + (1 : Int32))) &&& (255 : Int32)))), (.long W)])) _
        refine XS.i2l X6.here hx rfl (hb hby d3_80) rfl ?_
        show Steps p.tables e below (T6.setTop (mkF m 81 #[.val (.ref a0t), .val (.ref r0), .val (.int p1), .val (.int p2), .val (.int i), .val (.int (p1 + p2)), .val (.long W), .second] [(.long (((((vv i) &&& (255 : Int32)) <<< ((8 : Int32) &&& 31)) ||| ((vv (i + (1 : Int32))) &&& (255 : Int32))).toInt64)), (.long W)])) _
        refine XS.ladd X6.here hx rfl (hb hby d3_81) rfl ?_
        show Steps p.tables e below (T6.setTop (mkF m 82 #[.val (.ref a0t), .val (.ref r0), .val (.int p1), .val (.int p2), .val (.int i), .val (.int (p1 + p2)), .val (.long W), .second] [(.long (W + (((((vv i) &&& (255 : Int32)) <<< ((8 : Int32) &&& 31)) ||| ((vv (i + (1 : Int32))) &&& (255 : Int32))).toInt64)))])) _
        refine XS.lstore X6.here hx rfl (hb hby d3_82) rfl (l' := #[.val (.ref a0t), .val (.ref r0), .val (.int p1), .val (.int p2), .val (.int i), .val (.int (p1 + p2)), .val (.long (W + (((((vv i) &&& (255 : Int32)) <<< ((8 : Int32) &&& 31)) ||| ((vv (i + (1 : Int32))) &&& (255 : Int32))).toInt64))), .second]) rfl ?_
        show Steps p.tables e below (T6.setTop (mkF m 84 #[.val (.ref a0t), .val (.ref r0), .val (.int p1), .val (.int p2), .val (.int i), .val (.int (p1 + p2)), .val (.long (W + (((((vv i) &&& (255 : Int32)) <<< ((8 : Int32) &&& 31)) ||| ((vv (i + (1 : Int32))) &&& (255 : Int32))).toInt64))), .second] [])) _
        refine XS.iinc X6.here hx rfl (hb hby d3_84) rfl (l' := #[.val (.ref a0t), .val (.ref r0), .val (.int p1), .val (.int p2), .val (.int (i + (2 : Int32))), .val (.int (p1 + p2)), .val (.long (W + (((((vv i) &&& (255 : Int32)) <<< ((8 : Int32) &&& 31)) ||| ((vv (i + (1 : Int32))) &&& (255 : Int32))).toInt64))), .second]) rfl ?_
        show Steps p.tables e below (T6.setTop (mkF m 87 #[.val (.ref a0t), .val (.ref r0), .val (.int p1), .val (.int p2), .val (.int (i + (2 : Int32))), .val (.int (p1 + p2)), .val (.long (W + (((((vv i) &&& (255 : Int32)) <<< ((8 : Int32) &&& 31)) ||| ((vv (i + (1 : Int32))) &&& (255 : Int32))).toInt64))), .second] [])) _
        refine XS.goto X6.here hx rfl (pc0 := 87) (pc' := 47) rfl (hb hby d3_87) (by decide) (by decide) ?_
        exact ih _ _ hh.2.1 hh.2.2.1 t kt
    obtain ⟨_, _, ⟨T9, L9, k9, n9⟩, -, X9, ⟨Lc9, hQ9, l9, y9, z9⟩, st9⟩ := Jvm.LawKit.callS X6 hx (y := (⟨"com/example/wireshape/wireshape/model/InternetChecksum", "fold", "(J)J"⟩ : MethodName)) hown (mvT hZ (hw _ (List.mem_of_getElem? (i := 27) rfl))) (mvT hZ (hw _ (List.mem_of_getElem? (i := 28) rfl))) (mvT hZ (hw _ (List.mem_of_getElem? (i := 3) rfl))) (mvT hZ (hw _ (List.mem_of_getElem? (i := 29) rfl))) (by decide) (backOf (W := 1) (rm6 l Z a0 hw [] (own_ww vv (own_k p1 (p1 + p2)) p1 w_sum) h0 n0 Z0 (own_wwb vv p1 (p1 + p2) w_sum hs0 hs1 (own_i0 p1 p2 hp1 hp2 hp3).1 (own_i0 p1 p2 hp1 hp2 hp3).2 hE6).1) hZ (hw _ (List.mem_of_getElem? (i := 29) rfl)) (hw _ (List.mem_of_getElem? (i := 3) rfl)) (by decide) (by decide)) (g := (mkF m 93 #[.val (.ref a0t), .val (.ref r0), .val (.int p1), .val (.int p2), .val (.int (own_wi (own_k p1 (p1 + p2)) p1)), .val (.int (p1 + p2)), .val (.long (own_ww vv (own_k p1 (p1 + p2)) p1 w_sum)), .second] [(.long (own_ww vv (own_k p1 (p1 + p2)) p1 w_sum)), (.ref a0t)])) rfl (by rw [hml]; rfl) (argsL := [(.long (own_ww vv (own_k p1 (p1 + p2)) p1 w_sum))]) (rest := [(.ref a0t)]) (lenOf pd_2 rfl) rfl (by show 2 * 0 + _ ≤ _; exact Nat.le_of_eq rfl) (hb hby d3_93) (fun _ _ => ⟨rfl, e6, (by decide : 0 + 0 ≤ _), (by decide : 0 + 0 ≤ _)⟩)
    dsimp only [Pt.U, Pt.locs, Pt.cells, Pt.slots] at X9 l9 y9 z9 st9 hQ9
    obtain rfl : k9 = 0 := y9
    obtain rfl : n9 = 0 := z9
    obtain ⟨rfl, N9q, e9⟩ := hQ9
    have N9 : Fr n0 L9 := by rw [l9]; exact Fr.app N2 N9q
    obtain ⟨T10, h10, X10, e10, W10, st10⟩ := putF X9 hx hZ hown (host := "") (Or.inl (hw _ (List.mem_of_getElem? (i := 25) rfl))) Via.refl e9 F_sum E_this (Or.inl (hw _ (List.mem_of_getElem? (i := 26) rfl))) (hw _ (List.mem_of_getElem? (i := 2) rfl)) (ty := .long) (by decide) rfl rfl (g := (mkF m 96 #[.val (.ref a0t), .val (.ref r0), .val (.int p1), .val (.int p2), .val (.int (own_wi (own_k p1 (p1 + p2)) p1)), .val (.int (p1 + p2)), .val (.long (own_ww vv (own_k p1 (p1 + p2)) p1 w_sum)), .second] [(.long (f6 (own_ww vv (own_k p1 (p1 + p2)) p1 w_sum))), (.ref a0t)])) rfl rfl (hb hby d3_96)
    have V_r0_10 := V_r.other W10 ne_r
    have F_odd_a0t_10 := F_odd.other W10 (Or.inr (slot_ne (Or.inl (hw _ (List.mem_of_getElem? (i := 24) rfl))) (Or.inl (hw _ (List.mem_of_getElem? (i := 26) rfl))) (by decide) (t := .boolean) (t' := .long) (by decide) (by decide)))
    have F_sum_a0t_10 := F_sum.same W10
    have E_a0t_10 := E_this.wr W10
    have N10 := Fr.snoc X10 N9 g_this
    have Zz10 := Nat.le_trans Z0 (Keep.of_wr W10).1
    have K10 : Keep h0 h10 [a0t] := K0.wr W10 (Or.inl (by simp))
    have pre11 : ∀ t, Steps p.tables e below (T10.setTop (mkF m 103 #[.val (.ref a0t), .val (.ref r0), .val (.int p1), .val (.int p2), .val (.int (own_wi (own_k p1 (p1 + p2)) p1)), .val (.int (p1 + p2)), .val (.long (own_ww vv (own_k p1 (p1 + p2)) p1 w_sum)), .second] [(.int (p1 + p2)), (.int (own_wi (own_k p1 (p1 + p2)) p1))])) t → Steps p.tables e below (s₁.setTop (entryFrame m #[(.ref a0t), (.ref r0), (.int p1), (.int p2)] 8)) t := fun t kt => pre4 t (by
      show Steps p.tables e below (T3.setTop (mkF m 20 #[.val (.ref a0t), .val (.ref r0), .val (.int p1), .val (.int p2), .val (.int p1), .val (.int (p1 + p2)), .unset, .unset] [(.int w_odd)])) _
      refine XS.ifYes X3.here hx rfl (pc0 := 20) (pc' := 41) rfl (hb hby d3_20) rfl ((if0 _ _).trans (teq hc5).1) (by decide) (by decide) ?_
      show Steps p.tables e below (T3.setTop (mkF m 41 #[.val (.ref a0t), .val (.ref r0), .val (.int p1), .val (.int p2), .val (.int p1), .val (.int (p1 + p2)), .unset, .unset] [])) _
      refine XS.aloadN X3.here hx rfl (hb hby d3_41) rfl rfl ?_
      show Steps p.tables e below (T3.setTop (mkF m 42 #[.val (.ref a0t), .val (.ref r0), .val (.int p1), .val (.int p2), .val (.int p1), .val (.int (p1 + p2)), .unset, .unset] [(.ref a0t)])) _
      refine st6 _ ?_
      show Steps p.tables e below (T6.setTop (mkF m 45 #[.val (.ref a0t), .val (.ref r0), .val (.int p1), .val (.int p2), .val (.int p1), .val (.int (p1 + p2)), .unset, .unset] [(.long w_sum)])) _
      refine XS.lstore X6.here hx rfl (hb hby d3_45) rfl (l' := #[.val (.ref a0t), .val (.ref r0), .val (.int p1), .val (.int p2), .val (.int p1), .val (.int (p1 + p2)), .val (.long w_sum), .second]) rfl ?_
      show Steps p.tables e below (T6.setTop (mkF m 47 #[.val (.ref a0t), .val (.ref r0), .val (.int p1), .val (.int p2), .val (.int p1), .val (.int (p1 + p2)), .val (.long w_sum), .second] [])) _
      refine loop47 (own_k p1 (p1 + p2)) _ _ ((own_i0 p1 p2 hp1 hp2 hp3)).1 (own_kk p1 (p1 + p2) ((own_i0 p1 p2 hp1 hp2 hp3)).2) _ ?_
      show Steps p.tables e below (T6.setTop (mkF m 90 #[.val (.ref a0t), .val (.ref r0), .val (.int p1), .val (.int p2), .val (.int (own_wi (own_k p1 (p1 + p2)) p1)), .val (.int (p1 + p2)), .val (.long (own_ww vv (own_k p1 (p1 + p2)) p1 w_sum)), .second] [])) _
      refine XS.aloadN X6.here hx rfl (hb hby d3_90) rfl rfl ?_
      show Steps p.tables e below (T6.setTop (mkF m 91 #[.val (.ref a0t), .val (.ref r0), .val (.int p1), .val (.int p2), .val (.int (own_wi (own_k p1 (p1 + p2)) p1)), .val (.int (p1 + p2)), .val (.long (own_ww vv (own_k p1 (p1 + p2)) p1 w_sum)), .second] [(.ref a0t)])) _
      refine XS.lload X6.here hx rfl (hb hby d3_91) rfl ?_
      show Steps p.tables e below (T6.setTop (mkF m 93 #[.val (.ref a0t), .val (.ref r0), .val (.int p1), .val (.int p2), .val (.int (own_wi (own_k p1 (p1 + p2)) p1)), .val (.int (p1 + p2)), .val (.long (own_ww vv (own_k p1 (p1 + p2)) p1 w_sum)), .second] [(.long (own_ww vv (own_k p1 (p1 + p2)) p1 w_sum)), (.ref a0t)])) _
      refine st9 _ ?_
      show Steps p.tables e below (T9.setTop (mkF m 96 #[.val (.ref a0t), .val (.ref r0), .val (.int p1), .val (.int p2), .val (.int (own_wi (own_k p1 (p1 + p2)) p1)), .val (.int (p1 + p2)), .val (.long (own_ww vv (own_k p1 (p1 + p2)) p1 w_sum)), .second] [(.long (f6 (own_ww vv (own_k p1 (p1 + p2)) p1 w_sum))), (.ref a0t)])) _
      refine st10 _ ?_
      show Steps p.tables e below (T10.setTop (mkF m 99 #[.val (.ref a0t), .val (.ref r0), .val (.int p1), .val (.int p2), .val (.int (own_wi (own_k p1 (p1 + p2)) p1)), .val (.int (p1 + p2)), .val (.long (own_ww vv (own_k p1 (p1 + p2)) p1 w_sum)), .second] [])) _
      refine XS.iload X10.here hx rfl (hb hby d3_99) rfl ?_
      show Steps p.tables e below (T10.setTop (mkF m 101 #[.val (.ref a0t), .val (.ref r0), .val (.int p1), .val (.int p2), .val (.int (own_wi (own_k p1 (p1 + p2)) p1)), .val (.int (p1 + p2)), .val (.long (own_ww vv (own_k p1 (p1 + p2)) p1 w_sum)), .second] [(.int (own_wi (own_k p1 (p1 + p2)) p1))])) _
      refine XS.iload X10.here hx rfl (hb hby d3_101) rfl ?_
      exact kt)
    by_cases hc12 : (own_wi (own_k p1 (p1 + p2)) p1) < (p1 + p2)
    · obtain ⟨cl13, Ar13, -, S13, -, H13, -⟩ := id V_r0_10
      obtain ⟨cq14, kq14, q14a, q14b, q14c⟩ := isOf hZ e10 E_a0t_10
      obtain ⟨_, _, ⟨T14, L14, k14, n14⟩, -, X14, ⟨Lc14, hQ14, l14, y14, z14⟩, st14⟩ := X10.virtualBack hx (y := (⟨"com/example/wireshape/wireshape/model/InternetChecksum", "update", "(I)V"⟩ : MethodName)) (z := (⟨"com/example/wireshape/wireshape/model/InternetChecksum", "update", "(I)V"⟩ : MethodName)) hown (mvT hZ (hw _ (List.mem_of_getElem? (i := 30) rfl))) (mvT hZ (hw _ (List.mem_of_getElem? (i := 31) rfl))) (notFace_of_selects (args := #[]) (mvT hZ (hw _ (List.mem_of_getElem? (i := 33) rfl)))) (mvT hZ (hw _ (List.mem_of_getElem? (i := 33) rfl))) (mvT hZ (hw _ (List.mem_of_getElem? (i := 32) rfl))) (by decide) (backOf (W := 0) (rm7 l Z a0 hw [] a0t (vv (own_wi (own_k p1 (p1 + p2)) p1)) w_odd (f6 (own_ww vv (own_k p1 (p1 + p2)) p1 w_sum)) h10 n0 Zz10 E_a0t_10 g_this F_odd_a0t_10 F_sum_a0t_10 (own_b6 _ (own_wwb vv p1 (p1 + p2) w_sum hs0 hs1 (own_i0 p1 p2 hp1 hp2 hp3).1 (own_i0 p1 p2 hp1 hp2 hp3).2 hE6).1).1 (own_b6 _ (own_wwb vv p1 (p1 + p2) w_sum hs0 hs1 (own_i0 p1 p2 hp1 hp2 hp3).1 (own_i0 p1 p2 hp1 hp2 hp3).2 hE6).1).2) hZ (hw _ (List.mem_of_getElem? (i := 34) rfl)) (hw _ (List.mem_of_getElem? (i := 3) rfl)) (by decide) (by decide)) q14a q14c (g := (mkF m 111 #[.val (.ref a0t), .val (.ref r0), .val (.int p1), .val (.int p2), .val (.int (own_wi (own_k p1 (p1 + p2)) p1)), .val (.int (p1 + p2)), .val (.long (own_ww vv (own_k p1 (p1 + p2)) p1 w_sum)), .second] [(.int (vv (own_wi (own_k p1 (p1 + p2)) p1))), (.ref a0t)])) rfl (by rw [hml]; rfl) (Steps.refl _) (argsL := [(.int (vv (own_wi (own_k p1 (p1 + p2)) p1)))]) (rest := []) (lenOf pd_4 rfl) rfl (by show 2 * 0 + _ ≤ _; exact Nat.le_of_eq rfl) (hb hby d3_111) (fun _ _ => ⟨rfl, e10, (by decide : 0 + 0 ≤ _), (by decide : 0 + 0 ≤ _)⟩)
      dsimp only [Pt.U, Pt.locs, Pt.cells, Pt.slots] at X14 l14 y14 z14 st14 hQ14
      obtain rfl : k14 = 0 := y14
      obtain rfl : n14 = 0 := z14
      obtain ⟨rfl, N14q, K14q, E14q, F14q_odd, F14q_sum⟩ := hQ14
      have V_r0_14 := V_r0_10.keep K14q (ninS ne_r nin0)
      have Zz14 := Nat.le_trans Zz10 K14q.1
      have K14 : Keep h0 T14.heap [a0t] := K10.trans K14q (allS (Or.inl (by simp)) all0)
      have N14 : Fr n0 L14 := by rw [l14]; exact Fr.app N10 N14q
      obtain ⟨fs, hr, hrun, hended, hW, hsame⟩ := X14.leave (v := none) (fun _ => rfl) hlk
      refine ⟨_, _, pre11 _ ?_, hrun, hended, _, _, rfl, ?_, ⟨_, rfl⟩, hW, hsame.mono (by decide) (by decide)⟩
      · show Steps p.tables e below (T10.setTop (mkF m 103 #[.val (.ref a0t), .val (.ref r0), .val (.int p1), .val (.int p2), .val (.int (own_wi (own_k p1 (p1 + p2)) p1)), .val (.int (p1 + p2)), .val (.long (own_ww vv (own_k p1 (p1 + p2)) p1 w_sum)), .second] [(.int (p1 + p2)), (.int (own_wi (own_k p1 (p1 + p2)) p1))])) _
        refine XS.icmpNo X10.here hx rfl (hb hby d3_103) rfl (tlt hc12).2.1 ?_
        show Steps p.tables e below (T10.setTop (mkF m 106 #[.val (.ref a0t), .val (.ref r0), .val (.int p1), .val (.int p2), .val (.int (own_wi (own_k p1 (p1 + p2)) p1)), .val (.int (p1 + p2)), .val (.long (own_ww vv (own_k p1 (p1 + p2)) p1 w_sum)), .second] [])) _
        refine XS.aloadN X10.here hx rfl (hb hby d3_106) rfl rfl ?_
        show Steps p.tables e below (T10.setTop (mkF m 107 #[.val (.ref a0t), .val (.ref r0), .val (.int p1), .val (.int p2), .val (.int (own_wi (own_k p1 (p1 + p2)) p1)), .val (.int (p1 + p2)), .val (.long (own_ww vv (own_k p1 (p1 + p2)) p1 w_sum)), .second] [(.ref a0t)])) _
        refine XS.aloadN X10.here hx rfl (hb hby d3_107) rfl rfl ?_
        show Steps p.tables e below (T10.setTop (mkF m 108 #[.val (.ref a0t), .val (.ref r0), .val (.int p1), .val (.int p2), .val (.int (own_wi (own_k p1 (p1 + p2)) p1)), .val (.int (p1 + p2)), .val (.long (own_ww vv (own_k p1 (p1 + p2)) p1 w_sum)), .second] [(.ref r0), (.ref a0t)])) _
        refine XS.iload X10.here hx rfl (hb hby d3_108) rfl ?_
        show Steps p.tables e below (T10.setTop (mkF m 110 #[.val (.ref a0t), .val (.ref r0), .val (.int p1), .val (.int p2), .val (.int (own_wi (own_k p1 (p1 + p2)) p1)), .val (.int (p1 + p2)), .val (.long (own_ww vv (own_k p1 (p1 + p2)) p1 w_sum)), .second] [(.int (own_wi (own_k p1 (p1 + p2)) p1)), (.ref r0), (.ref a0t)])) _
        refine X10.baloadBytes hx (j := (own_wi (own_k p1 (p1 + p2)) p1)) (v := (.int (vv (own_wi (own_k p1 (p1 + p2)) p1)))) (by rw [e10]; exact Ar13.1) (State.isArrayOf_alike hZ.alike Ar13.2.1) Ar13.2.2 (own_in6 S13 (own_j1 p1 (p1 + p2) (own_i0 p1 p2 hp1 hp2 hp3).1 (own_i0 p1 p2 hp1 hp2 hp3).2 hE6 hc12).1 (own_j1 p1 (p1 + p2) (own_i0 p1 p2 hp1 hp2 hp3).1 (own_i0 p1 p2 hp1 hp2 hp3).2 hE6 hc12).2) (own_hat6 H13 S13 _ (own_j1 p1 (p1 + p2) (own_i0 p1 p2 hp1 hp2 hp3).1 (own_i0 p1 p2 hp1 hp2 hp3).2 hE6 hc12).1 (own_j1 p1 (p1 + p2) (own_i0 p1 p2 hp1 hp2 hp3).1 (own_i0 p1 p2 hp1 hp2 hp3).2 hE6 hc12).2) (g := (mkF m 110 #[.val (.ref a0t), .val (.ref r0), .val (.int p1), .val (.int p2), .val (.int (own_wi (own_k p1 (p1 + p2)) p1)), .val (.int (p1 + p2)), .val (.long (own_ww vv (own_k p1 (p1 + p2)) p1 w_sum)), .second] [(.int (own_wi (own_k p1 (p1 + p2)) p1)), (.ref r0), (.ref a0t)])) rfl rfl (hb hby d3_110) _ ?_
        show Steps p.tables e below (T10.setTop (mkF m 111 #[.val (.ref a0t), .val (.ref r0), .val (.int p1), .val (.int p2), .val (.int (own_wi (own_k p1 (p1 + p2)) p1)), .val (.int (p1 + p2)), .val (.long (own_ww vv (own_k p1 (p1 + p2)) p1 w_sum)), .second] [(.int (vv (own_wi (own_k p1 (p1 + p2)) p1))), (.ref a0t)])) _
        refine st14.trans ?_
        show Steps p.tables e below (T14.setTop (mkF m 114 #[.val (.ref a0t), .val (.ref r0), .val (.int p1), .val (.int p2), .val (.int (own_wi (own_k p1 (p1 + p2)) p1)), .val (.int (p1 + p2)), .val (.long (own_ww vv (own_k p1 (p1 + p2)) p1 w_sum)), .second] [])) _
        exact X14.returnOut hx Bd.returns (hb hby d3_114) hr
      · show Q3 Z a0t r0 p1 p2 w_odd w_sum kA vv h0 n0 _ T14.heap _
        exact ⟨rfl, N14, K14, E14q, by rw [show f3_odd p1 p2 w_odd w_sum vv = (f7_odd (vv (own_wi (own_k p1 (p1 + p2)) p1)) w_odd (f6 (own_ww vv (own_k p1 (p1 + p2)) p1 w_sum))) from by unfold f3_odd; rw [if_pos hc5, if_pos hc12]]; exact F14q_odd, by rw [show f3_sum p1 p2 w_odd w_sum vv = (f7_sum (vv (own_wi (own_k p1 (p1 + p2)) p1)) w_odd (f6 (own_ww vv (own_k p1 (p1 + p2)) p1 w_sum))) from by unfold f3_sum; rw [if_pos hc5, if_pos hc12]]; exact F14q_sum⟩
    · obtain ⟨fs, hr, hrun, hended, hW, hsame⟩ := X10.leave (v := none) (fun _ => rfl) hlk
      refine ⟨_, _, pre11 _ ?_, hrun, hended, _, _, rfl, ?_, ⟨_, rfl⟩, hW, hsame.mono (by decide) (by decide)⟩
      · show Steps p.tables e below (T10.setTop (mkF m 103 #[.val (.ref a0t), .val (.ref r0), .val (.int p1), .val (.int p2), .val (.int (own_wi (own_k p1 (p1 + p2)) p1)), .val (.int (p1 + p2)), .val (.long (own_ww vv (own_k p1 (p1 + p2)) p1 w_sum)), .second] [(.int (p1 + p2)), (.int (own_wi (own_k p1 (p1 + p2)) p1))])) _
        refine XS.icmpYes X10.here hx rfl (pc0 := 103) (pc' := 114) rfl (hb hby d3_103) rfl (flt hc12).2.1 (by decide) (by decide) ?_
        show Steps p.tables e below (T10.setTop (mkF m 114 #[.val (.ref a0t), .val (.ref r0), .val (.int p1), .val (.int p2), .val (.int (own_wi (own_k p1 (p1 + p2)) p1)), .val (.int (p1 + p2)), .val (.long (own_ww vv (own_k p1 (p1 + p2)) p1 w_sum)), .second] [])) _
        exact X10.returnOut hx Bd.returns (hb hby d3_114) hr
      · show Q3 Z a0t r0 p1 p2 w_odd w_sum kA vv h0 n0 _ T10.heap _
        rw [e10]
        exact ⟨rfl, N10, K10, E_a0t_10, by rw [show f3_odd p1 p2 w_odd w_sum vv = w_odd from by unfold f3_odd; rw [if_pos hc5, if_neg hc12]]; exact F_odd_a0t_10, by rw [show f3_sum p1 p2 w_odd w_sum vv = (f6 (own_ww vv (own_k p1 (p1 + p2)) p1 w_sum)) from by unfold f3_sum; rw [if_pos hc5, if_neg hc12]]; exact F_sum_a0t_10⟩
  · have pre15 : ∀ t, Steps p.tables e below (T3.setTop (mkF m 27 #[.val (.ref a0t), .val (.ref r0), .val (.int p1), .val (.int p2), .val (.int p1), .val (.int (p1 + p2)), .unset, .unset] [(.int (p1 + p2)), (.int p1)])) t → Steps p.tables e below (s₁.setTop (entryFrame m #[(.ref a0t), (.ref r0), (.int p1), (.int p2)] 8)) t := fun t kt => pre4 t (by
      show Steps p.tables e below (T3.setTop (mkF m 20 #[.val (.ref a0t), .val (.ref r0), .val (.int p1), .val (.int p2), .val (.int p1), .val (.int (p1 + p2)), .unset, .unset] [(.int w_odd)])) _
      refine XS.ifNo X3.here hx rfl (hb hby d3_20) rfl ((if0 _ _).trans (feq hc5).1) ?_
      show Steps p.tables e below (T3.setTop (mkF m 23 #[.val (.ref a0t), .val (.ref r0), .val (.int p1), .val (.int p2), .val (.int p1), .val (.int (p1 + p2)), .unset, .unset] [])) _
      refine XS.iload X3.here hx rfl (hb hby d3_23) rfl ?_
      show Steps p.tables e below (T3.setTop (mkF m 25 #[.val (.ref a0t), .val (.ref r0), .val (.int p1), .val (.int p2), .val (.int p1), .val (.int (p1 + p2)), .unset, .unset] [(.int p1)])) _
      refine XS.iload X3.here hx rfl (hb hby d3_25) rfl ?_
      exact kt)
    by_cases hc16 : p1 < (p1 + p2)
    · obtain ⟨cl17, Ar17, -, S17, -, H17, -⟩ := id V_r
      obtain ⟨cq18, kq18, q18a, q18b, q18c⟩ := isOf hZ e3 E_this
      obtain ⟨_, _, ⟨T18, L18, k18, n18⟩, -, X18, ⟨Lc18, hQ18, l18, y18, z18⟩, st18⟩ := X3.virtualBack hx (y := (⟨"com/example/wireshape/wireshape/model/InternetChecksum", "update", "(I)V"⟩ : MethodName)) (z := (⟨"com/example/wireshape/wireshape/model/InternetChecksum", "update", "(I)V"⟩ : MethodName)) hown (mvT hZ (hw _ (List.mem_of_getElem? (i := 30) rfl))) (mvT hZ (hw _ (List.mem_of_getElem? (i := 31) rfl))) (notFace_of_selects (args := #[]) (mvT hZ (hw _ (List.mem_of_getElem? (i := 33) rfl)))) (mvT hZ (hw _ (List.mem_of_getElem? (i := 33) rfl))) (mvT hZ (hw _ (List.mem_of_getElem? (i := 32) rfl))) (by decide) (backOf (W := 0) (rm7 l Z a0 hw [] a0t (vv p1) w_odd w_sum h0 n0 Z0 E_this g_this F_odd F_sum hs0 hs1) hZ (hw _ (List.mem_of_getElem? (i := 34) rfl)) (hw _ (List.mem_of_getElem? (i := 3) rfl)) (by decide) (by decide)) q18a q18c (g := (mkF m 38 #[.val (.ref a0t), .val (.ref r0), .val (.int p1), .val (.int p2), .val (.int (p1 + (1 : Int32))), .val (.int (p1 + p2)), .unset, .unset] [(.int (vv p1)), (.ref a0t)])) rfl (by rw [hml]; rfl) (Steps.refl _) (argsL := [(.int (vv p1))]) (rest := []) (lenOf pd_4 rfl) rfl (by show 2 * 0 + _ ≤ _; exact Nat.le_of_eq rfl) (hb hby d3_38) (fun _ _ => ⟨rfl, e3, (by decide : 0 + 0 ≤ _), (by decide : 0 + 0 ≤ _)⟩)
      dsimp only [Pt.U, Pt.locs, Pt.cells, Pt.slots] at X18 l18 y18 z18 st18 hQ18
      obtain rfl : k18 = 0 := y18
      obtain rfl : n18 = 0 := z18
      obtain ⟨rfl, N18q, K18q, E18q, F18q_odd, F18q_sum⟩ := hQ18
      have V_r0_18 := V_r.keep K18q (ninS ne_r nin0)
      have Zz18 := Nat.le_trans Z0 K18q.1
      have K18 : Keep h0 T18.heap [a0t] := K0.trans K18q (allS (Or.inl (by simp)) all0)
      have N18 : Fr n0 L18 := by rw [l18]; exact Fr.app N2 N18q
      obtain ⟨T19, X19, e19, st19⟩ := getF X18 hx hZ hown (host := "") (Or.inl (hw _ (List.mem_of_getElem? (i := 25) rfl))) Via.refl rfl F18q_sum (g := (mkF m 42 #[.val (.ref a0t), .val (.ref r0), .val (.int p1), .val (.int p2), .val (.int (p1 + (1 : Int32))), .val (.int (p1 + p2)), .unset, .unset] [(.ref a0t)])) rfl rfl (hb hby d3_42)
      obtain ⟨clL, ArL, -, SL, -, HL, -⟩ := id V_r0_18
      have loop47 : ∀ (k : Nat) (W : Int64) (i : Int32), 0 ≤ i.toInt → ((p1 + p2).toInt = i.toInt + 2 * (k : Int) ∨ (p1 + p2).toInt = i.toInt + 2 * (k : Int) + 1) → ∀ t, Steps p.tables e below (T19.setTop (mkF m 90 #[.val (.ref a0t), .val (.ref r0), .val (.int p1), .val (.int p2), .val (.int (own_wi k i)), .val (.int (p1 + p2)), .val (.long (own_ww vv k i W)), .second] [])) t → Steps p.tables e below (T19.setTop (mkF m 47 #[.val (.ref a0t), .val (.ref r0), .val (.int p1), .val (.int p2), .val (.int i), .val (.int (p1 + p2)), .val (.long W), .second] [])) t := by
        intro k
        induction k with
        | zero =>
          intro W i h0 h1 t kt
          have hc : ¬ (i + (1 : Int32)) < (p1 + p2) := own_lo0 i (p1 + p2) h0 hE6 h1
          show Steps p.tables e below (T19.setTop (mkF m 47 #[.val (.ref a0t), .val (.ref r0), .val (.int p1), .val (.int p2), .val (.int i), .val (.int (p1 + p2)), .val (.long W), .second] [])) _
          refine XS.iload X19.here hx rfl (hb hby d3_47) rfl ?_
          show Steps p.tables e below (T19.setTop (mkF m 49 #[.val (.ref a0t), .val (.ref r0), .val (.int p1), .val (.int p2), .val (.int i), .val (.int (p1 + p2)), .val (.long W), .second] [(.int i)])) _
          refine XS.iconst X19.here hx rfl (hb hby d3_49) ?_
          show Steps p.tables e below (T19.setTop (mkF m 50 #[.val (.ref a0t), .val (.ref r0), .val (.int p1), .val (.int p2), .val (.int i), .val (.int (p1 + p2)), .val (.long W), .second] [(.int (1 : Int32)), (.int i)])) _
          refine XS.iadd X19.here hx rfl (hb hby d3_50) rfl ?_
          show Steps p.tables e below (T19.setTop (mkF m 51 #[.val (.ref a0t), .val (.ref r0), .val (.int p1), .val (.int p2), .val (.int i), .val (.int (p1 + p2)), .val (.long W), .second] [(.int (i + (1 : Int32)))])) _
          refine XS.iload X19.here hx rfl (hb hby d3_51) rfl ?_
          show Steps p.tables e below (T19.setTop (mkF m 53 #[.val (.ref a0t), .val (.ref r0), .val (.int p1), .val (.int p2), .val (.int i), .val (.int (p1 + p2)), .val (.long W), .second] [(.int (p1 + p2)), (.int (i + (1 : Int32)))])) _
          refine XS.icmpYes X19.here hx rfl (pc0 := 53) (pc' := 90) rfl (hb hby d3_53) rfl (flt hc).2.1 (by decide) (by decide) ?_
          exact kt
        | succ k ih =>
          intro W i h0 h1 t kt
          have hh := own_lo1 i (p1 + p2) k h0 hE6 h1
          have hc : (i + (1 : Int32)) < (p1 + p2) := hh.1
          show Steps p.tables e below (T19.setTop (mkF m 47 #[.val (.ref a0t), .val (.ref r0), .val (.int p1), .val (.int p2), .val (.int i), .val (.int (p1 + p2)), .val (.long W), .second] [])) _
          refine XS.iload X19.here hx rfl (hb hby d3_47) rfl ?_
          show Steps p.tables e below (T19.setTop (mkF m 49 #[.val (.ref a0t), .val (.ref r0), .val (.int p1), .val (.int p2), .val (.int i), .val (.int (p1 + p2)), .val (.long W), .second] [(.int i)])) _
          refine XS.iconst X19.here hx rfl (hb hby d3_49) ?_
          show Steps p.tables e below (T19.setTop (mkF m 50 #[.val (.ref a0t), .val (.ref r0), .val (.int p1), .val (.int p2), .val (.int i), .val (.int (p1 + p2)), .val (.long W), .second] [(.int (1 : Int32)), (.int i)])) _
          refine XS.iadd X19.here hx rfl (hb hby d3_50) rfl ?_
          show Steps p.tables e below (T19.setTop (mkF m 51 #[.val (.ref a0t), .val (.ref r0), .val (.int p1), .val (.int p2), .val (.int i), .val (.int (p1 + p2)), .val (.long W), .second] [(.int (i + (1 : Int32)))])) _
          refine XS.iload X19.here hx rfl (hb hby d3_51) rfl ?_
          show Steps p.tables e below (T19.setTop (mkF m 53 #[.val (.ref a0t), .val (.ref r0), .val (.int p1), .val (.int p2), .val (.int i), .val (.int (p1 + p2)), .val (.long W), .second] [(.int (p1 + p2)), (.int (i + (1 : Int32)))])) _
          refine XS.icmpNo X19.here hx rfl (hb hby d3_53) rfl (tlt hc).2.1 ?_
          show Steps p.tables e below (T19.setTop (mkF m 56 #[.val (.ref a0t), .val (.ref r0), .val (.int p1), .val (.int p2), .val (.int i), .val (.int (p1 + p2)), .val (.long W), .second] [])) _
          refine XS.lload X19.here hx rfl (hb hby d3_56) rfl ?_
          show Steps p.tables e below (T19.setTop (mkF m 58 #[.val (.ref a0t), .val (.ref r0), .val (.int p1), .val (.int p2), .val (.int i), .val (.int (p1 + p2)), .val (.long W), .second] [(.long W)])) _
          refine XS.aloadN X19.here hx rfl (hb hby d3_58) rfl rfl ?_
          show Steps p.tables e below (T19.setTop (mkF m 59 #[.val (.ref a0t), .val (.ref r0), .val (.int p1), .val (.int p2), .val (.int i), .val (.int (p1 + p2)), .val (.long W), .second] [(.ref r0), (.long W)])) _
          refine XS.iload X19.here hx rfl (hb hby d3_59) rfl ?_
          show Steps p.tables e below (T19.setTop (mkF m 61 #[.val (.ref a0t), .val (.ref r0), .val (.int p1), .val (.int p2), .val (.int i), .val (.int (p1 + p2)), .val (.long W), .second] [(.int i), (.ref r0), (.long W)])) _
          refine X19.baloadBytes hx (j := i) (v := (.int (vv i))) (by rw [e19]; exact ArL.1) (State.isArrayOf_alike hZ.alike ArL.2.1) ArL.2.2 (own_in6 SL hh.2.2.2.1.1 hh.2.2.2.1.2) (own_hat6 HL SL _ hh.2.2.2.1.1 hh.2.2.2.1.2) (g := (mkF m 61 #[.val (.ref a0t), .val (.ref r0), .val (.int p1), .val (.int p2), .val (.int i), .val (.int (p1 + p2)), .val (.long W), .second] [(.int i), (.ref r0), (.long W)])) rfl rfl (hb hby d3_61) _ ?_
          show Steps p.tables e below (T19.setTop (mkF m 62 #[.val (.ref a0t), .val (.ref r0), .val (.int p1), .val (.int p2), .val (.int i), .val (.int (p1 + p2)), .val (.long W), .second] [(.int (vv i)), (.long W)])) _
          refine XS.sipush X19.here hx rfl (hb hby d3_62) ?_
          show Steps p.tables e below (T19.setTop (mkF m 65 #[.val (.ref a0t), .val (.ref r0), .val (.int p1), .val (.int p2), .val (.int i), .val (.int (p1 + p2)), .val (.long W), .second] [(.int (255 : Int32)), (.int (vv i)), (.long W)])) _
          refine XS.iand X19.here hx rfl (hb hby d3_65) rfl ?_
          show Steps p.tables e below (T19.setTop (mkF m 66 #[.val (.ref a0t), .val (.ref r0), .val (.int p1), .val (.int p2), .val (.int i), .val (.int (p1 + p2)), .val (.long W), .second] [(.int ((vv i) &&& (255 : Int32))), (.long W)])) _
          refine XS.bipush X19.here hx rfl (hb hby d3_66) ?_
          show Steps p.tables e below (T19.setTop (mkF m 68 #[.val (.ref a0t), .val (.ref r0), .val (.int p1), .val (.int p2), .val (.int i), .val (.int (p1 + p2)), .val (.long W), .second] [(.int (8 : Int32)), (.int ((vv i) &&& (255 : Int32))), (.long W)])) _
          refine XS.ishl X19.here hx rfl (hb hby d3_68) rfl ?_
          show Steps p.tables e below (T19.setTop (mkF m 69 #[.val (.ref a0t), .val (.ref r0), .val (.int p1), .val (.int p2), .val (.int i), .val (.int (p1 + p2)), .val (.long W), .second] [(.int (((vv i) &&& (255 : Int32)) <<< ((8 : Int32) &&& 31))), (.long W)])) _
          refine XS.aloadN X19.here hx rfl (hb hby d3_69) rfl rfl ?_
          show Steps p.tables e below (T19.setTop (mkF m 70 #[.val (.ref a0t), .val (.ref r0), .val (.int p1), .val (.int p2), .val (.int i), .val (.int (p1 + p2)), .val (.long W), .second] [(.ref r0), (.int (((vv i) &&& (255 : Int32)) <<< ((8 : Int32) &&& 31))), (.long W)])) _
          refine XS.iload X19.here hx rfl (hb hby d3_70) rfl ?_
          show Steps p.tables e below (T19.setTop (mkF m 72 #[.val (.ref a0t), .val (.ref r0), .val (.int p1), .val (.int p2), .val (.int i), .val (.int (p1 + p2)), .val (.long W), .second] [(.int i), (.ref r0), (.int (((vv i) &&& (255 : Int32)) <<< ((8 : Int32) &&& 31))), (.long W)])) _
          refine XS.iconst X19.here hx rfl (hb hby d3_72) ?_
          show Steps p.tables e below (T19.setTop (mkF m 73 #[.val (.ref a0t), .val (.ref r0), .val (.int p1), .val (.int p2), .val (.int i), .val (.int (p1 + p2)), .val (.long W), .second] [(.int (1 : Int32)), (.int i), (.ref r0), (.int (((vv i) &&& (255 : Int32)) <<< ((8 : Int32) &&& 31))), (.long W)])) _
          refine XS.iadd X19.here hx rfl (hb hby d3_73) rfl ?_
          show Steps p.tables e below (T19.setTop (mkF m 74 #[.val (.ref a0t), .val (.ref r0), .val (.int p1), .val (.int p2), .val (.int i), .val (.int (p1 + p2)), .val (.long W), .second] [(.int (i + (1 : Int32))), (.ref r0), (.int (((vv i) &&& (255 : Int32)) <<< ((8 : Int32) &&& 31))), (.long W)])) _
          refine X19.baloadBytes hx (j := (i + (1 : Int32))) (v := (.int (vv (i + (1 : Int32))))) (by rw [e19]; exact ArL.1) (State.isArrayOf_alike hZ.alike ArL.2.1) ArL.2.2 (own_in6 SL hh.2.2.2.2.1 hh.2.2.2.2.2) (own_hat6 HL SL _ hh.2.2.2.2.1 hh.2.2.2.2.2) (g := (mkF m 74 #[.val (.ref a0t), .val (.ref r0), .val (.int p1), .val (.int p2), .val (.int i), .val (.int (p1 + p2)), .val (.long W), .second] [(.int (i + (1 : Int32))), (.ref r0), (.int (((vv i) &&& (255 : Int32)) <<< ((8 : Int32) &&& 31))), (.long W)])) rfl rfl (hb hby d3_74) _ ?_
          show Steps p.tables e below (T19.setTop (mkF m 75 #[.val (.ref a0t), .val (.ref r0), .val (.int p1), .val (.int p2), .val (.int i), .val (.int (p1 + p2)), .val (.long W), .second] [(.int (vv (i + (1 : Int32)))), (.int (((vv i) &&& (255 : Int32)) <<< ((8 : Int32) &&& 31))), (.long W)])) _
          refine XS.sipush X19.here hx rfl (hb hby d3_75) ?_
          show Steps p.tables e below (T19.setTop (mkF m 78 #[.val (.ref a0t), .val (.ref r0), .val (.int p1), .val (.int p2), .val (.int i), .val (.int (p1 + p2)), .val (.long W), .second] [(.int (255 : Int32)), (.int (vv (i + (1 : Int32)))), (.int (((vv i) &&& (255 : Int32)) <<< ((8 : Int32) &&& 31))), (.long W)])) _
          refine XS.iand X19.here hx rfl (hb hby d3_78) rfl ?_
          show Steps p.tables e below (T19.setTop (mkF m 79 #[.val (.ref a0t), .val (.ref r0), .val (.int p1), .val (.int p2), .val (.int i), .val (.int (p1 + p2)), .val (.long W), .second] [(.int ((vv (i + (1 : Int32))) &&& (255 : Int32))), (.int (((vv i) &&& (255 : Int32)) <<< ((8 : Int32) &&& 31))), (.long W)])) _
          refine XS.ior X19.here hx rfl (hb hby d3_79) rfl ?_
          show Steps p.tables e below (T19.setTop (mkF m 80 #[.val (.ref a0t), .val (.ref r0), .val (.int p1), .val (.int p2), .val (.int i), .val (.int (p1 + p2)), .val (.long W), .second] [(.int ((((vv i) &&& (255 : Int32)) <<< ((8 : Int32) &&& 31)) ||| ((vv (i + (1 : Int32))) &&& (255 : Int32)))), (.long W)])) _
          refine XS.i2l X19.here hx rfl (hb hby d3_80) rfl ?_
          show Steps p.tables e below (T19.setTop (mkF m 81 #[.val (.ref a0t), .val (.ref r0), .val (.int p1), .val (.int p2), .val (.int i), .val (.int (p1 + p2)), .val (.long W), .second] [(.long (((((vv i) &&& (255 : Int32)) <<< ((8 : Int32) &&& 31)) ||| ((vv (i + (1 : Int32))) &&& (255 : Int32))).toInt64)), (.long W)])) _
          refine XS.ladd X19.here hx rfl (hb hby d3_81) rfl ?_
          show Steps p.tables e below (T19.setTop (mkF m 82 #[.val (.ref a0t), .val (.ref r0), .val (.int p1), .val (.int p2), .val (.int i), .val (.int (p1 + p2)), .val (.long W), .second] [(.long (W + (((((vv i) &&& (255 : Int32)) <<< ((8 : Int32) &&& 31)) ||| ((vv (i + (1 : Int32))) &&& (255 : Int32))).toInt64)))])) _
          refine XS.lstore X19.here hx rfl (hb hby d3_82) rfl (l' := #[.val (.ref a0t), .val (.ref r0), .val (.int p1), .val (.int p2), .val (.int i), .val (.int (p1 + p2)), .val (.long (W + (((((vv i) &&& (255 : Int32)) <<< ((8 : Int32) &&& 31)) ||| ((vv (i + (1 : Int32))) &&& (255 : Int32))).toInt64))), .second]) rfl ?_
          show Steps p.tables e below (T19.setTop (mkF m 84 #[.val (.ref a0t), .val (.ref r0), .val (.int p1), .val (.int p2), .val (.int i), .val (.int (p1 + p2)), .val (.long (W + (((((vv i) &&& (255 : Int32)) <<< ((8 : Int32) &&& 31)) ||| ((vv (i + (1 : Int32))) &&& (255 : Int32))).toInt64))), .second] [])) _
          refine XS.iinc X19.here hx rfl (hb hby d3_84) rfl (l' := #[.val (.ref a0t), .val (.ref r0), .val (.int p1), .val (.int p2), .val (.int (i + (2 : Int32))), .val (.int (p1 + p2)), .val (.long (W + (((((vv i) &&& (255 : Int32)) <<< ((8 : Int32) &&& 31)) ||| ((vv (i + (1 : Int32))) &&& (255 : Int32))).toInt64))), .second]) rfl ?_
          show Steps p.tables e below (T19.setTop (mkF m 87 #[.val (.ref a0t), .val (.ref r0), .val (.int p1), .val (.int p2), .val (.int (i + (2 : Int32))), .val (.int (p1 + p2)), .val (.long (W + (((((vv i) &&& (255 : Int32)) <<< ((8 : Int32) &&& 31)) ||| ((vv (i + (1 : Int32))) &&& (255 : Int32))).toInt64))), .second] [])) _
          refine XS.goto X19.here hx rfl (pc0 := 87) (pc' := 47) rfl (hb hby d3_87) (by decide) (by decide) ?_
          exact ih _ _ hh.2.1 hh.2.2.1 t kt
      obtain ⟨_, _, ⟨T22, L22, k22, n22⟩, -, X22, ⟨Lc22, hQ22, l22, y22, z22⟩, st22⟩ := Jvm.LawKit.callS X19 hx (y := (⟨"com/example/wireshape/wireshape/model/InternetChecksum", "fold", "(J)J"⟩ : MethodName)) hown (mvT hZ (hw _ (List.mem_of_getElem? (i := 27) rfl))) (mvT hZ (hw _ (List.mem_of_getElem? (i := 28) rfl))) (mvT hZ (hw _ (List.mem_of_getElem? (i := 3) rfl))) (mvT hZ (hw _ (List.mem_of_getElem? (i := 29) rfl))) (by decide) (backOf (W := 1) (rm6 l Z a0 hw [] (own_ww vv (own_k (p1 + (1 : Int32)) (p1 + p2)) (p1 + (1 : Int32)) (f7_sum (vv p1) w_odd w_sum)) T18.heap n0 Zz18 (own_wwb vv (p1 + (1 : Int32)) (p1 + p2) (f7_sum (vv p1) w_odd w_sum) (own_b7 (vv p1) w_sum w_odd hs0 hs1).1 (own_b7 (vv p1) w_sum w_odd hs0 hs1).2 (own_i1 p1 p2 hp1 hp2 hp3 hc16).1 (own_i1 p1 p2 hp1 hp2 hp3 hc16).2 hE6).1) hZ (hw _ (List.mem_of_getElem? (i := 29) rfl)) (hw _ (List.mem_of_getElem? (i := 3) rfl)) (by decide) (by decide)) (g := (mkF m 93 #[.val (.ref a0t), .val (.ref r0), .val (.int p1), .val (.int p2), .val (.int (own_wi (own_k (p1 + (1 : Int32)) (p1 + p2)) (p1 + (1 : Int32)))), .val (.int (p1 + p2)), .val (.long (own_ww vv (own_k (p1 + (1 : Int32)) (p1 + p2)) (p1 + (1 : Int32)) (f7_sum (vv p1) w_odd w_sum))), .second] [(.long (own_ww vv (own_k (p1 + (1 : Int32)) (p1 + p2)) (p1 + (1 : Int32)) (f7_sum (vv p1) w_odd w_sum))), (.ref a0t)])) rfl (by rw [hml]; rfl) (argsL := [(.long (own_ww vv (own_k (p1 + (1 : Int32)) (p1 + p2)) (p1 + (1 : Int32)) (f7_sum (vv p1) w_odd w_sum)))]) (rest := [(.ref a0t)]) (lenOf pd_2 rfl) rfl (by show 2 * 0 + _ ≤ _; exact Nat.le_of_eq rfl) (hb hby d3_93) (fun _ _ => ⟨rfl, e19, (by decide : 0 + 0 ≤ _), (by decide : 0 + 0 ≤ _)⟩)
      dsimp only [Pt.U, Pt.locs, Pt.cells, Pt.slots] at X22 l22 y22 z22 st22 hQ22
      obtain rfl : k22 = 0 := y22
      obtain rfl : n22 = 0 := z22
      obtain ⟨rfl, N22q, e22⟩ := hQ22
      have N22 : Fr n0 L22 := by rw [l22]; exact Fr.app N18 N22q
      obtain ⟨T23, h23, X23, e23, W23, st23⟩ := putF X22 hx hZ hown (host := "") (Or.inl (hw _ (List.mem_of_getElem? (i := 25) rfl))) Via.refl e22 F18q_sum E18q (Or.inl (hw _ (List.mem_of_getElem? (i := 26) rfl))) (hw _ (List.mem_of_getElem? (i := 2) rfl)) (ty := .long) (by decide) rfl rfl (g := (mkF m 96 #[.val (.ref a0t), .val (.ref r0), .val (.int p1), .val (.int p2), .val (.int (own_wi (own_k (p1 + (1 : Int32)) (p1 + p2)) (p1 + (1 : Int32)))), .val (.int (p1 + p2)), .val (.long (own_ww vv (own_k (p1 + (1 : Int32)) (p1 + p2)) (p1 + (1 : Int32)) (f7_sum (vv p1) w_odd w_sum))), .second] [(.long (f6 (own_ww vv (own_k (p1 + (1 : Int32)) (p1 + p2)) (p1 + (1 : Int32)) (f7_sum (vv p1) w_odd w_sum)))), (.ref a0t)])) rfl rfl (hb hby d3_96)
      have V_r0_23 := V_r0_18.other W23 ne_r
      have F_odd_a0t_23 := F18q_odd.other W23 (Or.inr (slot_ne (Or.inl (hw _ (List.mem_of_getElem? (i := 24) rfl))) (Or.inl (hw _ (List.mem_of_getElem? (i := 26) rfl))) (by decide) (t := .boolean) (t' := .long) (by decide) (by decide)))
      have F_sum_a0t_23 := F18q_sum.same W23
      have E_a0t_23 := E18q.wr W23
      have N23 := Fr.snoc X23 N22 g_this
      have Zz23 := Nat.le_trans Zz18 (Keep.of_wr W23).1
      have K23 : Keep h0 h23 [a0t] := K18.wr W23 (Or.inl (by simp))
      have pre24 : ∀ t, Steps p.tables e below (T23.setTop (mkF m 103 #[.val (.ref a0t), .val (.ref r0), .val (.int p1), .val (.int p2), .val (.int (own_wi (own_k (p1 + (1 : Int32)) (p1 + p2)) (p1 + (1 : Int32)))), .val (.int (p1 + p2)), .val (.long (own_ww vv (own_k (p1 + (1 : Int32)) (p1 + p2)) (p1 + (1 : Int32)) (f7_sum (vv p1) w_odd w_sum))), .second] [(.int (p1 + p2)), (.int (own_wi (own_k (p1 + (1 : Int32)) (p1 + p2)) (p1 + (1 : Int32))))])) t → Steps p.tables e below (s₁.setTop (entryFrame m #[(.ref a0t), (.ref r0), (.int p1), (.int p2)] 8)) t := fun t kt => pre15 t (by
        show Steps p.tables e below (T3.setTop (mkF m 27 #[.val (.ref a0t), .val (.ref r0), .val (.int p1), .val (.int p2), .val (.int p1), .val (.int (p1 + p2)), .unset, .unset] [(.int (p1 + p2)), (.int p1)])) _
        refine XS.icmpNo X3.here hx rfl (hb hby d3_27) rfl (tlt hc16).2.1 ?_
        show Steps p.tables e below (T3.setTop (mkF m 30 #[.val (.ref a0t), .val (.ref r0), .val (.int p1), .val (.int p2), .val (.int p1), .val (.int (p1 + p2)), .unset, .unset] [])) _
        refine XS.aloadN X3.here hx rfl (hb hby d3_30) rfl rfl ?_
        show Steps p.tables e below (T3.setTop (mkF m 31 #[.val (.ref a0t), .val (.ref r0), .val (.int p1), .val (.int p2), .val (.int p1), .val (.int (p1 + p2)), .unset, .unset] [(.ref a0t)])) _
        refine XS.aloadN X3.here hx rfl (hb hby d3_31) rfl rfl ?_
        show Steps p.tables e below (T3.setTop (mkF m 32 #[.val (.ref a0t), .val (.ref r0), .val (.int p1), .val (.int p2), .val (.int p1), .val (.int (p1 + p2)), .unset, .unset] [(.ref r0), (.ref a0t)])) _
        refine XS.iload X3.here hx rfl (hb hby d3_32) rfl ?_
        show Steps p.tables e below (T3.setTop (mkF m 34 #[.val (.ref a0t), .val (.ref r0), .val (.int p1), .val (.int p2), .val (.int p1), .val (.int (p1 + p2)), .unset, .unset] [(.int p1), (.ref r0), (.ref a0t)])) _
        refine XS.iinc X3.here hx rfl (hb hby d3_34) rfl (l' := #[.val (.ref a0t), .val (.ref r0), .val (.int p1), .val (.int p2), .val (.int (p1 + (1 : Int32))), .val (.int (p1 + p2)), .unset, .unset]) rfl ?_
        show Steps p.tables e below (T3.setTop (mkF m 37 #[.val (.ref a0t), .val (.ref r0), .val (.int p1), .val (.int p2), .val (.int (p1 + (1 : Int32))), .val (.int (p1 + p2)), .unset, .unset] [(.int p1), (.ref r0), (.ref a0t)])) _
        refine X3.baloadBytes hx (j := p1) (v := (.int (vv p1))) (by rw [e3]; exact Ar17.1) (State.isArrayOf_alike hZ.alike Ar17.2.1) Ar17.2.2 (own_in6 S17 (own_j0 p1 p2 hp1 hp2 hp3 hc16).1 (own_j0 p1 p2 hp1 hp2 hp3 hc16).2) (own_hat6 H17 S17 _ (own_j0 p1 p2 hp1 hp2 hp3 hc16).1 (own_j0 p1 p2 hp1 hp2 hp3 hc16).2) (g := (mkF m 37 #[.val (.ref a0t), .val (.ref r0), .val (.int p1), .val (.int p2), .val (.int (p1 + (1 : Int32))), .val (.int (p1 + p2)), .unset, .unset] [(.int p1), (.ref r0), (.ref a0t)])) rfl rfl (hb hby d3_37) _ ?_
        show Steps p.tables e below (T3.setTop (mkF m 38 #[.val (.ref a0t), .val (.ref r0), .val (.int p1), .val (.int p2), .val (.int (p1 + (1 : Int32))), .val (.int (p1 + p2)), .unset, .unset] [(.int (vv p1)), (.ref a0t)])) _
        refine st18.trans ?_
        show Steps p.tables e below (T18.setTop (mkF m 41 #[.val (.ref a0t), .val (.ref r0), .val (.int p1), .val (.int p2), .val (.int (p1 + (1 : Int32))), .val (.int (p1 + p2)), .unset, .unset] [])) _
        refine XS.aloadN X18.here hx rfl (hb hby d3_41) rfl rfl ?_
        show Steps p.tables e below (T18.setTop (mkF m 42 #[.val (.ref a0t), .val (.ref r0), .val (.int p1), .val (.int p2), .val (.int (p1 + (1 : Int32))), .val (.int (p1 + p2)), .unset, .unset] [(.ref a0t)])) _
        refine st19 _ ?_
        show Steps p.tables e below (T19.setTop (mkF m 45 #[.val (.ref a0t), .val (.ref r0), .val (.int p1), .val (.int p2), .val (.int (p1 + (1 : Int32))), .val (.int (p1 + p2)), .unset, .unset] [(.long (f7_sum (vv p1) w_odd w_sum))])) _
        refine XS.lstore X19.here hx rfl (hb hby d3_45) rfl (l' := #[.val (.ref a0t), .val (.ref r0), .val (.int p1), .val (.int p2), .val (.int (p1 + (1 : Int32))), .val (.int (p1 + p2)), .val (.long (f7_sum (vv p1) w_odd w_sum)), .second]) rfl ?_
        show Steps p.tables e below (T19.setTop (mkF m 47 #[.val (.ref a0t), .val (.ref r0), .val (.int p1), .val (.int p2), .val (.int (p1 + (1 : Int32))), .val (.int (p1 + p2)), .val (.long (f7_sum (vv p1) w_odd w_sum)), .second] [])) _
        refine loop47 (own_k (p1 + (1 : Int32)) (p1 + p2)) _ _ ((own_i1 p1 p2 hp1 hp2 hp3 hc16)).1 (own_kk (p1 + (1 : Int32)) (p1 + p2) ((own_i1 p1 p2 hp1 hp2 hp3 hc16)).2) _ ?_
        show Steps p.tables e below (T19.setTop (mkF m 90 #[.val (.ref a0t), .val (.ref r0), .val (.int p1), .val (.int p2), .val (.int (own_wi (own_k (p1 + (1 : Int32)) (p1 + p2)) (p1 + (1 : Int32)))), .val (.int (p1 + p2)), .val (.long (own_ww vv (own_k (p1 + (1 : Int32)) (p1 + p2)) (p1 + (1 : Int32)) (f7_sum (vv p1) w_odd w_sum))), .second] [])) _
        refine XS.aloadN X19.here hx rfl (hb hby d3_90) rfl rfl ?_
        show Steps p.tables e below (T19.setTop (mkF m 91 #[.val (.ref a0t), .val (.ref r0), .val (.int p1), .val (.int p2), .val (.int (own_wi (own_k (p1 + (1 : Int32)) (p1 + p2)) (p1 + (1 : Int32)))), .val (.int (p1 + p2)), .val (.long (own_ww vv (own_k (p1 + (1 : Int32)) (p1 + p2)) (p1 + (1 : Int32)) (f7_sum (vv p1) w_odd w_sum))), .second] [(.ref a0t)])) _
        refine XS.lload X19.here hx rfl (hb hby d3_91) rfl ?_
        show Steps p.tables e below (T19.setTop (mkF m 93 #[.val (.ref a0t), .val (.ref r0), .val (.int p1), .val (.int p2), .val (.int (own_wi (own_k (p1 + (1 : Int32)) (p1 + p2)) (p1 + (1 : Int32)))), .val (.int (p1 + p2)), .val (.long (own_ww vv (own_k (p1 + (1 : Int32)) (p1 + p2)) (p1 + (1 : Int32)) (f7_sum (vv p1) w_odd w_sum))), .second] [(.long (own_ww vv (own_k (p1 + (1 : Int32)) (p1 + p2)) (p1 + (1 : Int32)) (f7_sum (vv p1) w_odd w_sum))), (.ref a0t)])) _
        refine st22 _ ?_
        show Steps p.tables e below (T22.setTop (mkF m 96 #[.val (.ref a0t), .val (.ref r0), .val (.int p1), .val (.int p2), .val (.int (own_wi (own_k (p1 + (1 : Int32)) (p1 + p2)) (p1 + (1 : Int32)))), .val (.int (p1 + p2)), .val (.long (own_ww vv (own_k (p1 + (1 : Int32)) (p1 + p2)) (p1 + (1 : Int32)) (f7_sum (vv p1) w_odd w_sum))), .second] [(.long (f6 (own_ww vv (own_k (p1 + (1 : Int32)) (p1 + p2)) (p1 + (1 : Int32)) (f7_sum (vv p1) w_odd w_sum)))), (.ref a0t)])) _
        refine st23 _ ?_
        show Steps p.tables e below (T23.setTop (mkF m 99 #[.val (.ref a0t), .val (.ref r0), .val (.int p1), .val (.int p2), .val (.int (own_wi (own_k (p1 + (1 : Int32)) (p1 + p2)) (p1 + (1 : Int32)))), .val (.int (p1 + p2)), .val (.long (own_ww vv (own_k (p1 + (1 : Int32)) (p1 + p2)) (p1 + (1 : Int32)) (f7_sum (vv p1) w_odd w_sum))), .second] [])) _
        refine XS.iload X23.here hx rfl (hb hby d3_99) rfl ?_
        show Steps p.tables e below (T23.setTop (mkF m 101 #[.val (.ref a0t), .val (.ref r0), .val (.int p1), .val (.int p2), .val (.int (own_wi (own_k (p1 + (1 : Int32)) (p1 + p2)) (p1 + (1 : Int32)))), .val (.int (p1 + p2)), .val (.long (own_ww vv (own_k (p1 + (1 : Int32)) (p1 + p2)) (p1 + (1 : Int32)) (f7_sum (vv p1) w_odd w_sum))), .second] [(.int (own_wi (own_k (p1 + (1 : Int32)) (p1 + p2)) (p1 + (1 : Int32))))])) _
        refine XS.iload X23.here hx rfl (hb hby d3_101) rfl ?_
        exact kt)
      by_cases hc25 : (own_wi (own_k (p1 + (1 : Int32)) (p1 + p2)) (p1 + (1 : Int32))) < (p1 + p2)
      · obtain ⟨cl26, Ar26, -, S26, -, H26, -⟩ := id V_r0_23
        obtain ⟨cq27, kq27, q27a, q27b, q27c⟩ := isOf hZ e23 E_a0t_23
        obtain ⟨_, _, ⟨T27, L27, k27, n27⟩, -, X27, ⟨Lc27, hQ27, l27, y27, z27⟩, st27⟩ := X23.virtualBack hx (y := (⟨"com/example/wireshape/wireshape/model/InternetChecksum", "update", "(I)V"⟩ : MethodName)) (z := (⟨"com/example/wireshape/wireshape/model/InternetChecksum", "update", "(I)V"⟩ : MethodName)) hown (mvT hZ (hw _ (List.mem_of_getElem? (i := 30) rfl))) (mvT hZ (hw _ (List.mem_of_getElem? (i := 31) rfl))) (notFace_of_selects (args := #[]) (mvT hZ (hw _ (List.mem_of_getElem? (i := 33) rfl)))) (mvT hZ (hw _ (List.mem_of_getElem? (i := 33) rfl))) (mvT hZ (hw _ (List.mem_of_getElem? (i := 32) rfl))) (by decide) (backOf (W := 0) (rm7 l Z a0 hw [] a0t (vv (own_wi (own_k (p1 + (1 : Int32)) (p1 + p2)) (p1 + (1 : Int32)))) (f7_odd (vv p1) w_odd w_sum) (f6 (own_ww vv (own_k (p1 + (1 : Int32)) (p1 + p2)) (p1 + (1 : Int32)) (f7_sum (vv p1) w_odd w_sum))) h23 n0 Zz23 E_a0t_23 g_this F_odd_a0t_23 F_sum_a0t_23 (own_b6 _ (own_wwb vv (p1 + (1 : Int32)) (p1 + p2) (f7_sum (vv p1) w_odd w_sum) (own_b7 (vv p1) w_sum w_odd hs0 hs1).1 (own_b7 (vv p1) w_sum w_odd hs0 hs1).2 (own_i1 p1 p2 hp1 hp2 hp3 hc16).1 (own_i1 p1 p2 hp1 hp2 hp3 hc16).2 hE6).1).1 (own_b6 _ (own_wwb vv (p1 + (1 : Int32)) (p1 + p2) (f7_sum (vv p1) w_odd w_sum) (own_b7 (vv p1) w_sum w_odd hs0 hs1).1 (own_b7 (vv p1) w_sum w_odd hs0 hs1).2 (own_i1 p1 p2 hp1 hp2 hp3 hc16).1 (own_i1 p1 p2 hp1 hp2 hp3 hc16).2 hE6).1).2) hZ (hw _ (List.mem_of_getElem? (i := 34) rfl)) (hw _ (List.mem_of_getElem? (i := 3) rfl)) (by decide) (by decide)) q27a q27c (g := (mkF m 111 #[.val (.ref a0t), .val (.ref r0), .val (.int p1), .val (.int p2), .val (.int (own_wi (own_k (p1 + (1 : Int32)) (p1 + p2)) (p1 + (1 : Int32)))), .val (.int (p1 + p2)), .val (.long (own_ww vv (own_k (p1 + (1 : Int32)) (p1 + p2)) (p1 + (1 : Int32)) (f7_sum (vv p1) w_odd w_sum))), .second] [(.int (vv (own_wi (own_k (p1 + (1 : Int32)) (p1 + p2)) (p1 + (1 : Int32))))), (.ref a0t)])) rfl (by rw [hml]; rfl) (Steps.refl _) (argsL := [(.int (vv (own_wi (own_k (p1 + (1 : Int32)) (p1 + p2)) (p1 + (1 : Int32)))))]) (rest := []) (lenOf pd_4 rfl) rfl (by show 2 * 0 + _ ≤ _; exact Nat.le_of_eq rfl) (hb hby d3_111) (fun _ _ => ⟨rfl, e23, (by decide : 0 + 0 ≤ _), (by decide : 0 + 0 ≤ _)⟩)
        dsimp only [Pt.U, Pt.locs, Pt.cells, Pt.slots] at X27 l27 y27 z27 st27 hQ27
        obtain rfl : k27 = 0 := y27
        obtain rfl : n27 = 0 := z27
        obtain ⟨rfl, N27q, K27q, E27q, F27q_odd, F27q_sum⟩ := hQ27
        have V_r0_27 := V_r0_23.keep K27q (ninS ne_r nin0)
        have Zz27 := Nat.le_trans Zz23 K27q.1
        have K27 : Keep h0 T27.heap [a0t] := K23.trans K27q (allS (Or.inl (by simp)) all0)
        have N27 : Fr n0 L27 := by rw [l27]; exact Fr.app N23 N27q
        obtain ⟨fs, hr, hrun, hended, hW, hsame⟩ := X27.leave (v := none) (fun _ => rfl) hlk
        refine ⟨_, _, pre24 _ ?_, hrun, hended, _, _, rfl, ?_, ⟨_, rfl⟩, hW, hsame.mono (by decide) (by decide)⟩
        · show Steps p.tables e below (T23.setTop (mkF m 103 #[.val (.ref a0t), .val (.ref r0), .val (.int p1), .val (.int p2), .val (.int (own_wi (own_k (p1 + (1 : Int32)) (p1 + p2)) (p1 + (1 : Int32)))), .val (.int (p1 + p2)), .val (.long (own_ww vv (own_k (p1 + (1 : Int32)) (p1 + p2)) (p1 + (1 : Int32)) (f7_sum (vv p1) w_odd w_sum))), .second] [(.int (p1 + p2)), (.int (own_wi (own_k (p1 + (1 : Int32)) (p1 + p2)) (p1 + (1 : Int32))))])) _
          refine XS.icmpNo X23.here hx rfl (hb hby d3_103) rfl (tlt hc25).2.1 ?_
          show Steps p.tables e below (T23.setTop (mkF m 106 #[.val (.ref a0t), .val (.ref r0), .val (.int p1), .val (.int p2), .val (.int (own_wi (own_k (p1 + (1 : Int32)) (p1 + p2)) (p1 + (1 : Int32)))), .val (.int (p1 + p2)), .val (.long (own_ww vv (own_k (p1 + (1 : Int32)) (p1 + p2)) (p1 + (1 : Int32)) (f7_sum (vv p1) w_odd w_sum))), .second] [])) _
          refine XS.aloadN X23.here hx rfl (hb hby d3_106) rfl rfl ?_
          show Steps p.tables e below (T23.setTop (mkF m 107 #[.val (.ref a0t), .val (.ref r0), .val (.int p1), .val (.int p2), .val (.int (own_wi (own_k (p1 + (1 : Int32)) (p1 + p2)) (p1 + (1 : Int32)))), .val (.int (p1 + p2)), .val (.long (own_ww vv (own_k (p1 + (1 : Int32)) (p1 + p2)) (p1 + (1 : Int32)) (f7_sum (vv p1) w_odd w_sum))), .second] [(.ref a0t)])) _
          refine XS.aloadN X23.here hx rfl (hb hby d3_107) rfl rfl ?_
          show Steps p.tables e below (T23.setTop (mkF m 108 #[.val (.ref a0t), .val (.ref r0), .val (.int p1), .val (.int p2), .val (.int (own_wi (own_k (p1 + (1 : Int32)) (p1 + p2)) (p1 + (1 : Int32)))), .val (.int (p1 + p2)), .val (.long (own_ww vv (own_k (p1 + (1 : Int32)) (p1 + p2)) (p1 + (1 : Int32)) (f7_sum (vv p1) w_odd w_sum))), .second] [(.ref r0), (.ref a0t)])) _
          refine XS.iload X23.here hx rfl (hb hby d3_108) rfl ?_
          show Steps p.tables e below (T23.setTop (mkF m 110 #[.val (.ref a0t), .val (.ref r0), .val (.int p1), .val (.int p2), .val (.int (own_wi (own_k (p1 + (1 : Int32)) (p1 + p2)) (p1 + (1 : Int32)))), .val (.int (p1 + p2)), .val (.long (own_ww vv (own_k (p1 + (1 : Int32)) (p1 + p2)) (p1 + (1 : Int32)) (f7_sum (vv p1) w_odd w_sum))), .second] [(.int (own_wi (own_k (p1 + (1 : Int32)) (p1 + p2)) (p1 + (1 : Int32)))), (.ref r0), (.ref a0t)])) _
          refine X23.baloadBytes hx (j := (own_wi (own_k (p1 + (1 : Int32)) (p1 + p2)) (p1 + (1 : Int32)))) (v := (.int (vv (own_wi (own_k (p1 + (1 : Int32)) (p1 + p2)) (p1 + (1 : Int32)))))) (by rw [e23]; exact Ar26.1) (State.isArrayOf_alike hZ.alike Ar26.2.1) Ar26.2.2 (own_in6 S26 (own_j1 (p1 + (1 : Int32)) (p1 + p2) (own_i1 p1 p2 hp1 hp2 hp3 hc16).1 (own_i1 p1 p2 hp1 hp2 hp3 hc16).2 hE6 hc25).1 (own_j1 (p1 + (1 : Int32)) (p1 + p2) (own_i1 p1 p2 hp1 hp2 hp3 hc16).1 (own_i1 p1 p2 hp1 hp2 hp3 hc16).2 hE6 hc25).2) (own_hat6 H26 S26 _ (own_j1 (p1 + (1 : Int32)) (p1 + p2) (own_i1 p1 p2 hp1 hp2 hp3 hc16).1 (own_i1 p1 p2 hp1 hp2 hp3 hc16).2 hE6 hc25).1 (own_j1 (p1 + (1 : Int32)) (p1 + p2) (own_i1 p1 p2 hp1 hp2 hp3 hc16).1 (own_i1 p1 p2 hp1 hp2 hp3 hc16).2 hE6 hc25).2) (g := (mkF m 110 #[.val (.ref a0t), .val (.ref r0), .val (.int p1), .val (.int p2), .val (.int (own_wi (own_k (p1 + (1 : Int32)) (p1 + p2)) (p1 + (1 : Int32)))), .val (.int (p1 + p2)), .val (.long (own_ww vv (own_k (p1 + (1 : Int32)) (p1 + p2)) (p1 + (1 : Int32)) (f7_sum (vv p1) w_odd w_sum))), .second] [(.int (own_wi (own_k (p1 + (1 : Int32)) (p1 + p2)) (p1 + (1 : Int32)))), (.ref r0), (.ref a0t)])) rfl rfl (hb hby d3_110) _ ?_
          show Steps p.tables e below (T23.setTop (mkF m 111 #[.val (.ref a0t), .val (.ref r0), .val (.int p1), .val (.int p2), .val (.int (own_wi (own_k (p1 + (1 : Int32)) (p1 + p2)) (p1 + (1 : Int32)))), .val (.int (p1 + p2)), .val (.long (own_ww vv (own_k (p1 + (1 : Int32)) (p1 + p2)) (p1 + (1 : Int32)) (f7_sum (vv p1) w_odd w_sum))), .second] [(.int (vv (own_wi (own_k (p1 + (1 : Int32)) (p1 + p2)) (p1 + (1 : Int32))))), (.ref a0t)])) _
          refine st27.trans ?_
          show Steps p.tables e below (T27.setTop (mkF m 114 #[.val (.ref a0t), .val (.ref r0), .val (.int p1), .val (.int p2), .val (.int (own_wi (own_k (p1 + (1 : Int32)) (p1 + p2)) (p1 + (1 : Int32)))), .val (.int (p1 + p2)), .val (.long (own_ww vv (own_k (p1 + (1 : Int32)) (p1 + p2)) (p1 + (1 : Int32)) (f7_sum (vv p1) w_odd w_sum))), .second] [])) _
          exact X27.returnOut hx Bd.returns (hb hby d3_114) hr
        · show Q3 Z a0t r0 p1 p2 w_odd w_sum kA vv h0 n0 _ T27.heap _
          exact ⟨rfl, N27, K27, E27q, by rw [show f3_odd p1 p2 w_odd w_sum vv = (f7_odd (vv (own_wi (own_k (p1 + (1 : Int32)) (p1 + p2)) (p1 + (1 : Int32)))) (f7_odd (vv p1) w_odd w_sum) (f6 (own_ww vv (own_k (p1 + (1 : Int32)) (p1 + p2)) (p1 + (1 : Int32)) (f7_sum (vv p1) w_odd w_sum)))) from by unfold f3_odd; rw [if_neg hc5, if_pos hc16, if_pos hc25]]; exact F27q_odd, by rw [show f3_sum p1 p2 w_odd w_sum vv = (f7_sum (vv (own_wi (own_k (p1 + (1 : Int32)) (p1 + p2)) (p1 + (1 : Int32)))) (f7_odd (vv p1) w_odd w_sum) (f6 (own_ww vv (own_k (p1 + (1 : Int32)) (p1 + p2)) (p1 + (1 : Int32)) (f7_sum (vv p1) w_odd w_sum)))) from by unfold f3_sum; rw [if_neg hc5, if_pos hc16, if_pos hc25]]; exact F27q_sum⟩
      · obtain ⟨fs, hr, hrun, hended, hW, hsame⟩ := X23.leave (v := none) (fun _ => rfl) hlk
        refine ⟨_, _, pre24 _ ?_, hrun, hended, _, _, rfl, ?_, ⟨_, rfl⟩, hW, hsame.mono (by decide) (by decide)⟩
        · show Steps p.tables e below (T23.setTop (mkF m 103 #[.val (.ref a0t), .val (.ref r0), .val (.int p1), .val (.int p2), .val (.int (own_wi (own_k (p1 + (1 : Int32)) (p1 + p2)) (p1 + (1 : Int32)))), .val (.int (p1 + p2)), .val (.long (own_ww vv (own_k (p1 + (1 : Int32)) (p1 + p2)) (p1 + (1 : Int32)) (f7_sum (vv p1) w_odd w_sum))), .second] [(.int (p1 + p2)), (.int (own_wi (own_k (p1 + (1 : Int32)) (p1 + p2)) (p1 + (1 : Int32))))])) _
          refine XS.icmpYes X23.here hx rfl (pc0 := 103) (pc' := 114) rfl (hb hby d3_103) rfl (flt hc25).2.1 (by decide) (by decide) ?_
          show Steps p.tables e below (T23.setTop (mkF m 114 #[.val (.ref a0t), .val (.ref r0), .val (.int p1), .val (.int p2), .val (.int (own_wi (own_k (p1 + (1 : Int32)) (p1 + p2)) (p1 + (1 : Int32)))), .val (.int (p1 + p2)), .val (.long (own_ww vv (own_k (p1 + (1 : Int32)) (p1 + p2)) (p1 + (1 : Int32)) (f7_sum (vv p1) w_odd w_sum))), .second] [])) _
          exact X23.returnOut hx Bd.returns (hb hby d3_114) hr
        · show Q3 Z a0t r0 p1 p2 w_odd w_sum kA vv h0 n0 _ T23.heap _
          rw [e23]
          exact ⟨rfl, N23, K23, E_a0t_23, by rw [show f3_odd p1 p2 w_odd w_sum vv = (f7_odd (vv p1) w_odd w_sum) from by unfold f3_odd; rw [if_neg hc5, if_pos hc16, if_neg hc25]]; exact F_odd_a0t_23, by rw [show f3_sum p1 p2 w_odd w_sum vv = (f6 (own_ww vv (own_k (p1 + (1 : Int32)) (p1 + p2)) (p1 + (1 : Int32)) (f7_sum (vv p1) w_odd w_sum))) from by unfold f3_sum; rw [if_neg hc5, if_pos hc16, if_neg hc25]]; exact F_sum_a0t_23⟩
    · obtain ⟨T28, X28, e28, st28⟩ := getF X3 hx hZ hown (host := "") (Or.inl (hw _ (List.mem_of_getElem? (i := 25) rfl))) Via.refl e3 F_sum (g := (mkF m 42 #[.val (.ref a0t), .val (.ref r0), .val (.int p1), .val (.int p2), .val (.int p1), .val (.int (p1 + p2)), .unset, .unset] [(.ref a0t)])) rfl rfl (hb hby d3_42)
      obtain ⟨clL, ArL, -, SL, -, HL, -⟩ := id V_r
      have loop47 : ∀ (k : Nat) (W : Int64) (i : Int32), 0 ≤ i.toInt → ((p1 + p2).toInt = i.toInt + 2 * (k : Int) ∨ (p1 + p2).toInt = i.toInt + 2 * (k : Int) + 1) → ∀ t, Steps p.tables e below (T28.setTop (mkF m 90 #[.val (.ref a0t), .val (.ref r0), .val (.int p1), .val (.int p2), .val (.int (own_wi k i)), .val (.int (p1 + p2)), .val (.long (own_ww vv k i W)), .second] [])) t → Steps p.tables e below (T28.setTop (mkF m 47 #[.val (.ref a0t), .val (.ref r0), .val (.int p1), .val (.int p2), .val (.int i), .val (.int (p1 + p2)), .val (.long W), .second] [])) t := by
        intro k
        induction k with
        | zero =>
          intro W i h0 h1 t kt
          have hc : ¬ (i + (1 : Int32)) < (p1 + p2) := own_lo0 i (p1 + p2) h0 hE6 h1
          show Steps p.tables e below (T28.setTop (mkF m 47 #[.val (.ref a0t), .val (.ref r0), .val (.int p1), .val (.int p2), .val (.int i), .val (.int (p1 + p2)), .val (.long W), .second] [])) _
          refine XS.iload X28.here hx rfl (hb hby d3_47) rfl ?_
          show Steps p.tables e below (T28.setTop (mkF m 49 #[.val (.ref a0t), .val (.ref r0), .val (.int p1), .val (.int p2), .val (.int i), .val (.int (p1 + p2)), .val (.long W), .second] [(.int i)])) _
          refine XS.iconst X28.here hx rfl (hb hby d3_49) ?_
          show Steps p.tables e below (T28.setTop (mkF m 50 #[.val (.ref a0t), .val (.ref r0), .val (.int p1), .val (.int p2), .val (.int i), .val (.int (p1 + p2)), .val (.long W), .second] [(.int (1 : Int32)), (.int i)])) _
          refine XS.iadd X28.here hx rfl (hb hby d3_50) rfl ?_
          show Steps p.tables e below (T28.setTop (mkF m 51 #[.val (.ref a0t), .val (.ref r0), .val (.int p1), .val (.int p2), .val (.int i), .val (.int (p1 + p2)), .val (.long W), .second] [(.int (i + (1 : Int32)))])) _
          refine XS.iload X28.here hx rfl (hb hby d3_51) rfl ?_
          show Steps p.tables e below (T28.setTop (mkF m 53 #[.val (.ref a0t), .val (.ref r0), .val (.int p1), .val (.int p2), .val (.int i), .val (.int (p1 + p2)), .val (.long W), .second] [(.int (p1 + p2)), (.int (i + (1 : Int32)))])) _
          refine XS.icmpYes X28.here hx rfl (pc0 := 53) (pc' := 90) rfl (hb hby d3_53) rfl (flt hc).2.1 (by decide) (by decide) ?_
          exact kt
        | succ k ih =>
          intro W i h0 h1 t kt
          have hh := own_lo1 i (p1 + p2) k h0 hE6 h1
          have hc : (i + (1 : Int32)) < (p1 + p2) := hh.1
          show Steps p.tables e below (T28.setTop (mkF m 47 #[.val (.ref a0t), .val (.ref r0), .val (.int p1), .val (.int p2), .val (.int i), .val (.int (p1 + p2)), .val (.long W), .second] [])) _
          refine XS.iload X28.here hx rfl (hb hby d3_47) rfl ?_
          show Steps p.tables e below (T28.setTop (mkF m 49 #[.val (.ref a0t), .val (.ref r0), .val (.int p1), .val (.int p2), .val (.int i), .val (.int (p1 + p2)), .val (.long W), .second] [(.int i)])) _
          refine XS.iconst X28.here hx rfl (hb hby d3_49) ?_
          show Steps p.tables e below (T28.setTop (mkF m 50 #[.val (.ref a0t), .val (.ref r0), .val (.int p1), .val (.int p2), .val (.int i), .val (.int (p1 + p2)), .val (.long W), .second] [(.int (1 : Int32)), (.int i)])) _
          refine XS.iadd X28.here hx rfl (hb hby d3_50) rfl ?_
          show Steps p.tables e below (T28.setTop (mkF m 51 #[.val (.ref a0t), .val (.ref r0), .val (.int p1), .val (.int p2), .val (.int i), .val (.int (p1 + p2)), .val (.long W), .second] [(.int (i + (1 : Int32)))])) _
          refine XS.iload X28.here hx rfl (hb hby d3_51) rfl ?_
          show Steps p.tables e below (T28.setTop (mkF m 53 #[.val (.ref a0t), .val (.ref r0), .val (.int p1), .val (.int p2), .val (.int i), .val (.int (p1 + p2)), .val (.long W), .second] [(.int (p1 + p2)), (.int (i + (1 : Int32)))])) _
          refine XS.icmpNo X28.here hx rfl (hb hby d3_53) rfl (tlt hc).2.1 ?_
          show Steps p.tables e below (T28.setTop (mkF m 56 #[.val (.ref a0t), .val (.ref r0), .val (.int p1), .val (.int p2), .val (.int i), .val (.int (p1 + p2)), .val (.long W), .second] [])) _
          refine XS.lload X28.here hx rfl (hb hby d3_56) rfl ?_
          show Steps p.tables e below (T28.setTop (mkF m 58 #[.val (.ref a0t), .val (.ref r0), .val (.int p1), .val (.int p2), .val (.int i), .val (.int (p1 + p2)), .val (.long W), .second] [(.long W)])) _
          refine XS.aloadN X28.here hx rfl (hb hby d3_58) rfl rfl ?_
          show Steps p.tables e below (T28.setTop (mkF m 59 #[.val (.ref a0t), .val (.ref r0), .val (.int p1), .val (.int p2), .val (.int i), .val (.int (p1 + p2)), .val (.long W), .second] [(.ref r0), (.long W)])) _
          refine XS.iload X28.here hx rfl (hb hby d3_59) rfl ?_
          show Steps p.tables e below (T28.setTop (mkF m 61 #[.val (.ref a0t), .val (.ref r0), .val (.int p1), .val (.int p2), .val (.int i), .val (.int (p1 + p2)), .val (.long W), .second] [(.int i), (.ref r0), (.long W)])) _
          refine X28.baloadBytes hx (j := i) (v := (.int (vv i))) (by rw [e28]; exact ArL.1) (State.isArrayOf_alike hZ.alike ArL.2.1) ArL.2.2 (own_in6 SL hh.2.2.2.1.1 hh.2.2.2.1.2) (own_hat6 HL SL _ hh.2.2.2.1.1 hh.2.2.2.1.2) (g := (mkF m 61 #[.val (.ref a0t), .val (.ref r0), .val (.int p1), .val (.int p2), .val (.int i), .val (.int (p1 + p2)), .val (.long W), .second] [(.int i), (.ref r0), (.long W)])) rfl rfl (hb hby d3_61) _ ?_
          show Steps p.tables e below (T28.setTop (mkF m 62 #[.val (.ref a0t), .val (.ref r0), .val (.int p1), .val (.int p2), .val (.int i), .val (.int (p1 + p2)), .val (.long W), .second] [(.int (vv i)), (.long W)])) _
          refine XS.sipush X28.here hx rfl (hb hby d3_62) ?_
          show Steps p.tables e below (T28.setTop (mkF m 65 #[.val (.ref a0t), .val (.ref r0), .val (.int p1), .val (.int p2), .val (.int i), .val (.int (p1 + p2)), .val (.long W), .second] [(.int (255 : Int32)), (.int (vv i)), (.long W)])) _
          refine XS.iand X28.here hx rfl (hb hby d3_65) rfl ?_
          show Steps p.tables e below (T28.setTop (mkF m 66 #[.val (.ref a0t), .val (.ref r0), .val (.int p1), .val (.int p2), .val (.int i), .val (.int (p1 + p2)), .val (.long W), .second] [(.int ((vv i) &&& (255 : Int32))), (.long W)])) _
          refine XS.bipush X28.here hx rfl (hb hby d3_66) ?_
          show Steps p.tables e below (T28.setTop (mkF m 68 #[.val (.ref a0t), .val (.ref r0), .val (.int p1), .val (.int p2), .val (.int i), .val (.int (p1 + p2)), .val (.long W), .second] [(.int (8 : Int32)), (.int ((vv i) &&& (255 : Int32))), (.long W)])) _
          refine XS.ishl X28.here hx rfl (hb hby d3_68) rfl ?_
          show Steps p.tables e below (T28.setTop (mkF m 69 #[.val (.ref a0t), .val (.ref r0), .val (.int p1), .val (.int p2), .val (.int i), .val (.int (p1 + p2)), .val (.long W), .second] [(.int (((vv i) &&& (255 : Int32)) <<< ((8 : Int32) &&& 31))), (.long W)])) _
          refine XS.aloadN X28.here hx rfl (hb hby d3_69) rfl rfl ?_
          show Steps p.tables e below (T28.setTop (mkF m 70 #[.val (.ref a0t), .val (.ref r0), .val (.int p1), .val (.int p2), .val (.int i), .val (.int (p1 + p2)), .val (.long W), .second] [(.ref r0), (.int (((vv i) &&& (255 : Int32)) <<< ((8 : Int32) &&& 31))), (.long W)])) _
          refine XS.iload X28.here hx rfl (hb hby d3_70) rfl ?_
          show Steps p.tables e below (T28.setTop (mkF m 72 #[.val (.ref a0t), .val (.ref r0), .val (.int p1), .val (.int p2), .val (.int i), .val (.int (p1 + p2)), .val (.long W), .second] [(.int i), (.ref r0), (.int (((vv i) &&& (255 : Int32)) <<< ((8 : Int32) &&& 31))), (.long W)])) _
          refine XS.iconst X28.here hx rfl (hb hby d3_72) ?_
          show Steps p.tables e below (T28.setTop (mkF m 73 #[.val (.ref a0t), .val (.ref r0), .val (.int p1), .val (.int p2), .val (.int i), .val (.int (p1 + p2)), .val (.long W), .second] [(.int (1 : Int32)), (.int i), (.ref r0), (.int (((vv i) &&& (255 : Int32)) <<< ((8 : Int32) &&& 31))), (.long W)])) _
          refine XS.iadd X28.here hx rfl (hb hby d3_73) rfl ?_
          show Steps p.tables e below (T28.setTop (mkF m 74 #[.val (.ref a0t), .val (.ref r0), .val (.int p1), .val (.int p2), .val (.int i), .val (.int (p1 + p2)), .val (.long W), .second] [(.int (i + (1 : Int32))), (.ref r0), (.int (((vv i) &&& (255 : Int32)) <<< ((8 : Int32) &&& 31))), (.long W)])) _
          refine X28.baloadBytes hx (j := (i + (1 : Int32))) (v := (.int (vv (i + (1 : Int32))))) (by rw [e28]; exact ArL.1) (State.isArrayOf_alike hZ.alike ArL.2.1) ArL.2.2 (own_in6 SL hh.2.2.2.2.1 hh.2.2.2.2.2) (own_hat6 HL SL _ hh.2.2.2.2.1 hh.2.2.2.2.2) (g := (mkF m 74 #[.val (.ref a0t), .val (.ref r0), .val (.int p1), .val (.int p2), .val (.int i), .val (.int (p1 + p2)), .val (.long W), .second] [(.int (i + (1 : Int32))), (.ref r0), (.int (((vv i) &&& (255 : Int32)) <<< ((8 : Int32) &&& 31))), (.long W)])) rfl rfl (hb hby d3_74) _ ?_
          show Steps p.tables e below (T28.setTop (mkF m 75 #[.val (.ref a0t), .val (.ref r0), .val (.int p1), .val (.int p2), .val (.int i), .val (.int (p1 + p2)), .val (.long W), .second] [(.int (vv (i + (1 : Int32)))), (.int (((vv i) &&& (255 : Int32)) <<< ((8 : Int32) &&& 31))), (.long W)])) _
          refine XS.sipush X28.here hx rfl (hb hby d3_75) ?_
          show Steps p.tables e below (T28.setTop (mkF m 78 #[.val (.ref a0t), .val (.ref r0), .val (.int p1), .val (.int p2), .val (.int i), .val (.int (p1 + p2)), .val (.long W), .second] [(.int (255 : Int32)), (.int (vv (i + (1 : Int32)))), (.int (((vv i) &&& (255 : Int32)) <<< ((8 : Int32) &&& 31))), (.long W)])) _
          refine XS.iand X28.here hx rfl (hb hby d3_78) rfl ?_
          show Steps p.tables e below (T28.setTop (mkF m 79 #[.val (.ref a0t), .val (.ref r0), .val (.int p1), .val (.int p2), .val (.int i), .val (.int (p1 + p2)), .val (.long W), .second] [(.int ((vv (i + (1 : Int32))) &&& (255 : Int32))), (.int (((vv i) &&& (255 : Int32)) <<< ((8 : Int32) &&& 31))), (.long W)])) _
          refine XS.ior X28.here hx rfl (hb hby d3_79) rfl ?_
          show Steps p.tables e below (T28.setTop (mkF m 80 #[.val (.ref a0t), .val (.ref r0), .val (.int p1), .val (.int p2), .val (.int i), .val (.int (p1 + p2)), .val (.long W), .second] [(.int ((((vv i) &&& (255 : Int32)) <<< ((8 : Int32) &&& 31)) ||| ((vv (i + (1 : Int32))) &&& (255 : Int32)))), (.long W)])) _
          refine XS.i2l X28.here hx rfl (hb hby d3_80) rfl ?_
          show Steps p.tables e below (T28.setTop (mkF m 81 #[.val (.ref a0t), .val (.ref r0), .val (.int p1), .val (.int p2), .val (.int i), .val (.int (p1 + p2)), .val (.long W), .second] [(.long (((((vv i) &&& (255 : Int32)) <<< ((8 : Int32) &&& 31)) ||| ((vv (i + (1 : Int32))) &&& (255 : Int32))).toInt64)), (.long W)])) _
          refine XS.ladd X28.here hx rfl (hb hby d3_81) rfl ?_
          show Steps p.tables e below (T28.setTop (mkF m 82 #[.val (.ref a0t), .val (.ref r0), .val (.int p1), .val (.int p2), .val (.int i), .val (.int (p1 + p2)), .val (.long W), .second] [(.long (W + (((((vv i) &&& (255 : Int32)) <<< ((8 : Int32) &&& 31)) ||| ((vv (i + (1 : Int32))) &&& (255 : Int32))).toInt64)))])) _
          refine XS.lstore X28.here hx rfl (hb hby d3_82) rfl (l' := #[.val (.ref a0t), .val (.ref r0), .val (.int p1), .val (.int p2), .val (.int i), .val (.int (p1 + p2)), .val (.long (W + (((((vv i) &&& (255 : Int32)) <<< ((8 : Int32) &&& 31)) ||| ((vv (i + (1 : Int32))) &&& (255 : Int32))).toInt64))), .second]) rfl ?_
          show Steps p.tables e below (T28.setTop (mkF m 84 #[.val (.ref a0t), .val (.ref r0), .val (.int p1), .val (.int p2), .val (.int i), .val (.int (p1 + p2)), .val (.long (W + (((((vv i) &&& (255 : Int32)) <<< ((8 : Int32) &&& 31)) ||| ((vv (i + (1 : Int32))) &&& (255 : Int32))).toInt64))), .second] [])) _
          refine XS.iinc X28.here hx rfl (hb hby d3_84) rfl (l' := #[.val (.ref a0t), .val (.ref r0), .val (.int p1), .val (.int p2), .val (.int (i + (2 : Int32))), .val (.int (p1 + p2)), .val (.long (W + (((((vv i) &&& (255 : Int32)) <<< ((8 : Int32) &&& 31)) ||| ((vv (i + (1 : Int32))) &&& (255 : Int32))).toInt64))), .second]) rfl ?_
          show Steps p.tables e below (T28.setTop (mkF m 87 #[.val (.ref a0t), .val (.ref r0), .val (.int p1), .val (.int p2), .val (.int (i + (2 : Int32))), .val (.int (p1 + p2)), .val (.long (W + (((((vv i) &&& (255 : Int32)) <<< ((8 : Int32) &&& 31)) ||| ((vv (i + (1 : Int32))) &&& (255 : Int32))).toInt64))), .second] [])) _
          refine XS.goto X28.here hx rfl (pc0 := 87) (pc' := 47) rfl (hb hby d3_87) (by decide) (by decide) ?_
          exact ih _ _ hh.2.1 hh.2.2.1 t kt
      obtain ⟨_, _, ⟨T31, L31, k31, n31⟩, -, X31, ⟨Lc31, hQ31, l31, y31, z31⟩, st31⟩ := Jvm.LawKit.callS X28 hx (y := (⟨"com/example/wireshape/wireshape/model/InternetChecksum", "fold", "(J)J"⟩ : MethodName)) hown (mvT hZ (hw _ (List.mem_of_getElem? (i := 27) rfl))) (mvT hZ (hw _ (List.mem_of_getElem? (i := 28) rfl))) (mvT hZ (hw _ (List.mem_of_getElem? (i := 3) rfl))) (mvT hZ (hw _ (List.mem_of_getElem? (i := 29) rfl))) (by decide) (backOf (W := 1) (rm6 l Z a0 hw [] (own_ww vv (own_k p1 (p1 + p2)) p1 w_sum) h0 n0 Z0 (own_wwb vv p1 (p1 + p2) w_sum hs0 hs1 (own_i0 p1 p2 hp1 hp2 hp3).1 (own_i0 p1 p2 hp1 hp2 hp3).2 hE6).1) hZ (hw _ (List.mem_of_getElem? (i := 29) rfl)) (hw _ (List.mem_of_getElem? (i := 3) rfl)) (by decide) (by decide)) (g := (mkF m 93 #[.val (.ref a0t), .val (.ref r0), .val (.int p1), .val (.int p2), .val (.int (own_wi (own_k p1 (p1 + p2)) p1)), .val (.int (p1 + p2)), .val (.long (own_ww vv (own_k p1 (p1 + p2)) p1 w_sum)), .second] [(.long (own_ww vv (own_k p1 (p1 + p2)) p1 w_sum)), (.ref a0t)])) rfl (by rw [hml]; rfl) (argsL := [(.long (own_ww vv (own_k p1 (p1 + p2)) p1 w_sum))]) (rest := [(.ref a0t)]) (lenOf pd_2 rfl) rfl (by show 2 * 0 + _ ≤ _; exact Nat.le_of_eq rfl) (hb hby d3_93) (fun _ _ => ⟨rfl, e28, (by decide : 0 + 0 ≤ _), (by decide : 0 + 0 ≤ _)⟩)
      dsimp only [Pt.U, Pt.locs, Pt.cells, Pt.slots] at X31 l31 y31 z31 st31 hQ31
      obtain rfl : k31 = 0 := y31
      obtain rfl : n31 = 0 := z31
      obtain ⟨rfl, N31q, e31⟩ := hQ31
      have N31 : Fr n0 L31 := by rw [l31]; exact Fr.app N2 N31q
      obtain ⟨T32, h32, X32, e32, W32, st32⟩ := putF X31 hx hZ hown (host := "") (Or.inl (hw _ (List.mem_of_getElem? (i := 25) rfl))) Via.refl e31 F_sum E_this (Or.inl (hw _ (List.mem_of_getElem? (i := 26) rfl))) (hw _ (List.mem_of_getElem? (i := 2) rfl)) (ty := .long) (by decide) rfl rfl (g := (mkF m 96 #[.val (.ref a0t), .val (.ref r0), .val (.int p1), .val (.int p2), .val (.int (own_wi (own_k p1 (p1 + p2)) p1)), .val (.int (p1 + p2)), .val (.long (own_ww vv (own_k p1 (p1 + p2)) p1 w_sum)), .second] [(.long (f6 (own_ww vv (own_k p1 (p1 + p2)) p1 w_sum))), (.ref a0t)])) rfl rfl (hb hby d3_96)
      have V_r0_32 := V_r.other W32 ne_r
      have F_odd_a0t_32 := F_odd.other W32 (Or.inr (slot_ne (Or.inl (hw _ (List.mem_of_getElem? (i := 24) rfl))) (Or.inl (hw _ (List.mem_of_getElem? (i := 26) rfl))) (by decide) (t := .boolean) (t' := .long) (by decide) (by decide)))
      have F_sum_a0t_32 := F_sum.same W32
      have E_a0t_32 := E_this.wr W32
      have N32 := Fr.snoc X32 N31 g_this
      have Zz32 := Nat.le_trans Z0 (Keep.of_wr W32).1
      have K32 : Keep h0 h32 [a0t] := K0.wr W32 (Or.inl (by simp))
      have pre33 : ∀ t, Steps p.tables e below (T32.setTop (mkF m 103 #[.val (.ref a0t), .val (.ref r0), .val (.int p1), .val (.int p2), .val (.int (own_wi (own_k p1 (p1 + p2)) p1)), .val (.int (p1 + p2)), .val (.long (own_ww vv (own_k p1 (p1 + p2)) p1 w_sum)), .second] [(.int (p1 + p2)), (.int (own_wi (own_k p1 (p1 + p2)) p1))])) t → Steps p.tables e below (s₁.setTop (entryFrame m #[(.ref a0t), (.ref r0), (.int p1), (.int p2)] 8)) t := fun t kt => pre15 t (by
        show Steps p.tables e below (T3.setTop (mkF m 27 #[.val (.ref a0t), .val (.ref r0), .val (.int p1), .val (.int p2), .val (.int p1), .val (.int (p1 + p2)), .unset, .unset] [(.int (p1 + p2)), (.int p1)])) _
        refine XS.icmpYes X3.here hx rfl (pc0 := 27) (pc' := 41) rfl (hb hby d3_27) rfl (flt hc16).2.1 (by decide) (by decide) ?_
        show Steps p.tables e below (T3.setTop (mkF m 41 #[.val (.ref a0t), .val (.ref r0), .val (.int p1), .val (.int p2), .val (.int p1), .val (.int (p1 + p2)), .unset, .unset] [])) _
        refine XS.aloadN X3.here hx rfl (hb hby d3_41) rfl rfl ?_
        show Steps p.tables e below (T3.setTop (mkF m 42 #[.val (.ref a0t), .val (.ref r0), .val (.int p1), .val (.int p2), .val (.int p1), .val (.int (p1 + p2)), .unset, .unset] [(.ref a0t)])) _
        refine st28 _ ?_
        show Steps p.tables e below (T28.setTop (mkF m 45 #[.val (.ref a0t), .val (.ref r0), .val (.int p1), .val (.int p2), .val (.int p1), .val (.int (p1 + p2)), .unset, .unset] [(.long w_sum)])) _
        refine XS.lstore X28.here hx rfl (hb hby d3_45) rfl (l' := #[.val (.ref a0t), .val (.ref r0), .val (.int p1), .val (.int p2), .val (.int p1), .val (.int (p1 + p2)), .val (.long w_sum), .second]) rfl ?_
        show Steps p.tables e below (T28.setTop (mkF m 47 #[.val (.ref a0t), .val (.ref r0), .val (.int p1), .val (.int p2), .val (.int p1), .val (.int (p1 + p2)), .val (.long w_sum), .second] [])) _
        refine loop47 (own_k p1 (p1 + p2)) _ _ ((own_i0 p1 p2 hp1 hp2 hp3)).1 (own_kk p1 (p1 + p2) ((own_i0 p1 p2 hp1 hp2 hp3)).2) _ ?_
        show Steps p.tables e below (T28.setTop (mkF m 90 #[.val (.ref a0t), .val (.ref r0), .val (.int p1), .val (.int p2), .val (.int (own_wi (own_k p1 (p1 + p2)) p1)), .val (.int (p1 + p2)), .val (.long (own_ww vv (own_k p1 (p1 + p2)) p1 w_sum)), .second] [])) _
        refine XS.aloadN X28.here hx rfl (hb hby d3_90) rfl rfl ?_
        show Steps p.tables e below (T28.setTop (mkF m 91 #[.val (.ref a0t), .val (.ref r0), .val (.int p1), .val (.int p2), .val (.int (own_wi (own_k p1 (p1 + p2)) p1)), .val (.int (p1 + p2)), .val (.long (own_ww vv (own_k p1 (p1 + p2)) p1 w_sum)), .second] [(.ref a0t)])) _
        refine XS.lload X28.here hx rfl (hb hby d3_91) rfl ?_
        show Steps p.tables e below (T28.setTop (mkF m 93 #[.val (.ref a0t), .val (.ref r0), .val (.int p1), .val (.int p2), .val (.int (own_wi (own_k p1 (p1 + p2)) p1)), .val (.int (p1 + p2)), .val (.long (own_ww vv (own_k p1 (p1 + p2)) p1 w_sum)), .second] [(.long (own_ww vv (own_k p1 (p1 + p2)) p1 w_sum)), (.ref a0t)])) _
        refine st31 _ ?_
        show Steps p.tables e below (T31.setTop (mkF m 96 #[.val (.ref a0t), .val (.ref r0), .val (.int p1), .val (.int p2), .val (.int (own_wi (own_k p1 (p1 + p2)) p1)), .val (.int (p1 + p2)), .val (.long (own_ww vv (own_k p1 (p1 + p2)) p1 w_sum)), .second] [(.long (f6 (own_ww vv (own_k p1 (p1 + p2)) p1 w_sum))), (.ref a0t)])) _
        refine st32 _ ?_
        show Steps p.tables e below (T32.setTop (mkF m 99 #[.val (.ref a0t), .val (.ref r0), .val (.int p1), .val (.int p2), .val (.int (own_wi (own_k p1 (p1 + p2)) p1)), .val (.int (p1 + p2)), .val (.long (own_ww vv (own_k p1 (p1 + p2)) p1 w_sum)), .second] [])) _
        refine XS.iload X32.here hx rfl (hb hby d3_99) rfl ?_
        show Steps p.tables e below (T32.setTop (mkF m 101 #[.val (.ref a0t), .val (.ref r0), .val (.int p1), .val (.int p2), .val (.int (own_wi (own_k p1 (p1 + p2)) p1)), .val (.int (p1 + p2)), .val (.long (own_ww vv (own_k p1 (p1 + p2)) p1 w_sum)), .second] [(.int (own_wi (own_k p1 (p1 + p2)) p1))])) _
        refine XS.iload X32.here hx rfl (hb hby d3_101) rfl ?_
        exact kt)
      by_cases hc34 : (own_wi (own_k p1 (p1 + p2)) p1) < (p1 + p2)
      · obtain ⟨cl35, Ar35, -, S35, -, H35, -⟩ := id V_r0_32
        obtain ⟨cq36, kq36, q36a, q36b, q36c⟩ := isOf hZ e32 E_a0t_32
        obtain ⟨_, _, ⟨T36, L36, k36, n36⟩, -, X36, ⟨Lc36, hQ36, l36, y36, z36⟩, st36⟩ := X32.virtualBack hx (y := (⟨"com/example/wireshape/wireshape/model/InternetChecksum", "update", "(I)V"⟩ : MethodName)) (z := (⟨"com/example/wireshape/wireshape/model/InternetChecksum", "update", "(I)V"⟩ : MethodName)) hown (mvT hZ (hw _ (List.mem_of_getElem? (i := 30) rfl))) (mvT hZ (hw _ (List.mem_of_getElem? (i := 31) rfl))) (notFace_of_selects (args := #[]) (mvT hZ (hw _ (List.mem_of_getElem? (i := 33) rfl)))) (mvT hZ (hw _ (List.mem_of_getElem? (i := 33) rfl))) (mvT hZ (hw _ (List.mem_of_getElem? (i := 32) rfl))) (by decide) (backOf (W := 0) (rm7 l Z a0 hw [] a0t (vv (own_wi (own_k p1 (p1 + p2)) p1)) w_odd (f6 (own_ww vv (own_k p1 (p1 + p2)) p1 w_sum)) h32 n0 Zz32 E_a0t_32 g_this F_odd_a0t_32 F_sum_a0t_32 (own_b6 _ (own_wwb vv p1 (p1 + p2) w_sum hs0 hs1 (own_i0 p1 p2 hp1 hp2 hp3).1 (own_i0 p1 p2 hp1 hp2 hp3).2 hE6).1).1 (own_b6 _ (own_wwb vv p1 (p1 + p2) w_sum hs0 hs1 (own_i0 p1 p2 hp1 hp2 hp3).1 (own_i0 p1 p2 hp1 hp2 hp3).2 hE6).1).2) hZ (hw _ (List.mem_of_getElem? (i := 34) rfl)) (hw _ (List.mem_of_getElem? (i := 3) rfl)) (by decide) (by decide)) q36a q36c (g := (mkF m 111 #[.val (.ref a0t), .val (.ref r0), .val (.int p1), .val (.int p2), .val (.int (own_wi (own_k p1 (p1 + p2)) p1)), .val (.int (p1 + p2)), .val (.long (own_ww vv (own_k p1 (p1 + p2)) p1 w_sum)), .second] [(.int (vv (own_wi (own_k p1 (p1 + p2)) p1))), (.ref a0t)])) rfl (by rw [hml]; rfl) (Steps.refl _) (argsL := [(.int (vv (own_wi (own_k p1 (p1 + p2)) p1)))]) (rest := []) (lenOf pd_4 rfl) rfl (by show 2 * 0 + _ ≤ _; exact Nat.le_of_eq rfl) (hb hby d3_111) (fun _ _ => ⟨rfl, e32, (by decide : 0 + 0 ≤ _), (by decide : 0 + 0 ≤ _)⟩)
        dsimp only [Pt.U, Pt.locs, Pt.cells, Pt.slots] at X36 l36 y36 z36 st36 hQ36
        obtain rfl : k36 = 0 := y36
        obtain rfl : n36 = 0 := z36
        obtain ⟨rfl, N36q, K36q, E36q, F36q_odd, F36q_sum⟩ := hQ36
        have V_r0_36 := V_r0_32.keep K36q (ninS ne_r nin0)
        have Zz36 := Nat.le_trans Zz32 K36q.1
        have K36 : Keep h0 T36.heap [a0t] := K32.trans K36q (allS (Or.inl (by simp)) all0)
        have N36 : Fr n0 L36 := by rw [l36]; exact Fr.app N32 N36q
        obtain ⟨fs, hr, hrun, hended, hW, hsame⟩ := X36.leave (v := none) (fun _ => rfl) hlk
        refine ⟨_, _, pre33 _ ?_, hrun, hended, _, _, rfl, ?_, ⟨_, rfl⟩, hW, hsame.mono (by decide) (by decide)⟩
        · show Steps p.tables e below (T32.setTop (mkF m 103 #[.val (.ref a0t), .val (.ref r0), .val (.int p1), .val (.int p2), .val (.int (own_wi (own_k p1 (p1 + p2)) p1)), .val (.int (p1 + p2)), .val (.long (own_ww vv (own_k p1 (p1 + p2)) p1 w_sum)), .second] [(.int (p1 + p2)), (.int (own_wi (own_k p1 (p1 + p2)) p1))])) _
          refine XS.icmpNo X32.here hx rfl (hb hby d3_103) rfl (tlt hc34).2.1 ?_
          show Steps p.tables e below (T32.setTop (mkF m 106 #[.val (.ref a0t), .val (.ref r0), .val (.int p1), .val (.int p2), .val (.int (own_wi (own_k p1 (p1 + p2)) p1)), .val (.int (p1 + p2)), .val (.long (own_ww vv (own_k p1 (p1 + p2)) p1 w_sum)), .second] [])) _
          refine XS.aloadN X32.here hx rfl (hb hby d3_106) rfl rfl ?_
          show Steps p.tables e below (T32.setTop (mkF m 107 #[.val (.ref a0t), .val (.ref r0), .val (.int p1), .val (.int p2), .val (.int (own_wi (own_k p1 (p1 + p2)) p1)), .val (.int (p1 + p2)), .val (.long (own_ww vv (own_k p1 (p1 + p2)) p1 w_sum)), .second] [(.ref a0t)])) _
          refine XS.aloadN X32.here hx rfl (hb hby d3_107) rfl rfl ?_
          show Steps p.tables e below (T32.setTop (mkF m 108 #[.val (.ref a0t), .val (.ref r0), .val (.int p1), .val (.int p2), .val (.int (own_wi (own_k p1 (p1 + p2)) p1)), .val (.int (p1 + p2)), .val (.long (own_ww vv (own_k p1 (p1 + p2)) p1 w_sum)), .second] [(.ref r0), (.ref a0t)])) _
          refine XS.iload X32.here hx rfl (hb hby d3_108) rfl ?_
          show Steps p.tables e below (T32.setTop (mkF m 110 #[.val (.ref a0t), .val (.ref r0), .val (.int p1), .val (.int p2), .val (.int (own_wi (own_k p1 (p1 + p2)) p1)), .val (.int (p1 + p2)), .val (.long (own_ww vv (own_k p1 (p1 + p2)) p1 w_sum)), .second] [(.int (own_wi (own_k p1 (p1 + p2)) p1)), (.ref r0), (.ref a0t)])) _
          refine X32.baloadBytes hx (j := (own_wi (own_k p1 (p1 + p2)) p1)) (v := (.int (vv (own_wi (own_k p1 (p1 + p2)) p1)))) (by rw [e32]; exact Ar35.1) (State.isArrayOf_alike hZ.alike Ar35.2.1) Ar35.2.2 (own_in6 S35 (own_j1 p1 (p1 + p2) (own_i0 p1 p2 hp1 hp2 hp3).1 (own_i0 p1 p2 hp1 hp2 hp3).2 hE6 hc34).1 (own_j1 p1 (p1 + p2) (own_i0 p1 p2 hp1 hp2 hp3).1 (own_i0 p1 p2 hp1 hp2 hp3).2 hE6 hc34).2) (own_hat6 H35 S35 _ (own_j1 p1 (p1 + p2) (own_i0 p1 p2 hp1 hp2 hp3).1 (own_i0 p1 p2 hp1 hp2 hp3).2 hE6 hc34).1 (own_j1 p1 (p1 + p2) (own_i0 p1 p2 hp1 hp2 hp3).1 (own_i0 p1 p2 hp1 hp2 hp3).2 hE6 hc34).2) (g := (mkF m 110 #[.val (.ref a0t), .val (.ref r0), .val (.int p1), .val (.int p2), .val (.int (own_wi (own_k p1 (p1 + p2)) p1)), .val (.int (p1 + p2)), .val (.long (own_ww vv (own_k p1 (p1 + p2)) p1 w_sum)), .second] [(.int (own_wi (own_k p1 (p1 + p2)) p1)), (.ref r0), (.ref a0t)])) rfl rfl (hb hby d3_110) _ ?_
          show Steps p.tables e below (T32.setTop (mkF m 111 #[.val (.ref a0t), .val (.ref r0), .val (.int p1), .val (.int p2), .val (.int (own_wi (own_k p1 (p1 + p2)) p1)), .val (.int (p1 + p2)), .val (.long (own_ww vv (own_k p1 (p1 + p2)) p1 w_sum)), .second] [(.int (vv (own_wi (own_k p1 (p1 + p2)) p1))), (.ref a0t)])) _
          refine st36.trans ?_
          show Steps p.tables e below (T36.setTop (mkF m 114 #[.val (.ref a0t), .val (.ref r0), .val (.int p1), .val (.int p2), .val (.int (own_wi (own_k p1 (p1 + p2)) p1)), .val (.int (p1 + p2)), .val (.long (own_ww vv (own_k p1 (p1 + p2)) p1 w_sum)), .second] [])) _
          exact X36.returnOut hx Bd.returns (hb hby d3_114) hr
        · show Q3 Z a0t r0 p1 p2 w_odd w_sum kA vv h0 n0 _ T36.heap _
          exact ⟨rfl, N36, K36, E36q, by rw [show f3_odd p1 p2 w_odd w_sum vv = (f7_odd (vv (own_wi (own_k p1 (p1 + p2)) p1)) w_odd (f6 (own_ww vv (own_k p1 (p1 + p2)) p1 w_sum))) from by unfold f3_odd; rw [if_neg hc5, if_neg hc16, if_pos hc34]]; exact F36q_odd, by rw [show f3_sum p1 p2 w_odd w_sum vv = (f7_sum (vv (own_wi (own_k p1 (p1 + p2)) p1)) w_odd (f6 (own_ww vv (own_k p1 (p1 + p2)) p1 w_sum))) from by unfold f3_sum; rw [if_neg hc5, if_neg hc16, if_pos hc34]]; exact F36q_sum⟩
      · obtain ⟨fs, hr, hrun, hended, hW, hsame⟩ := X32.leave (v := none) (fun _ => rfl) hlk
        refine ⟨_, _, pre33 _ ?_, hrun, hended, _, _, rfl, ?_, ⟨_, rfl⟩, hW, hsame.mono (by decide) (by decide)⟩
        · show Steps p.tables e below (T32.setTop (mkF m 103 #[.val (.ref a0t), .val (.ref r0), .val (.int p1), .val (.int p2), .val (.int (own_wi (own_k p1 (p1 + p2)) p1)), .val (.int (p1 + p2)), .val (.long (own_ww vv (own_k p1 (p1 + p2)) p1 w_sum)), .second] [(.int (p1 + p2)), (.int (own_wi (own_k p1 (p1 + p2)) p1))])) _
          refine XS.icmpYes X32.here hx rfl (pc0 := 103) (pc' := 114) rfl (hb hby d3_103) rfl (flt hc34).2.1 (by decide) (by decide) ?_
          show Steps p.tables e below (T32.setTop (mkF m 114 #[.val (.ref a0t), .val (.ref r0), .val (.int p1), .val (.int p2), .val (.int (own_wi (own_k p1 (p1 + p2)) p1)), .val (.int (p1 + p2)), .val (.long (own_ww vv (own_k p1 (p1 + p2)) p1 w_sum)), .second] [])) _
          exact X32.returnOut hx Bd.returns (hb hby d3_114) hr
        · show Q3 Z a0t r0 p1 p2 w_odd w_sum kA vv h0 n0 _ T32.heap _
          rw [e32]
          exact ⟨rfl, N32, K32, E_a0t_32, by rw [show f3_odd p1 p2 w_odd w_sum vv = w_odd from by unfold f3_odd; rw [if_neg hc5, if_neg hc16, if_neg hc34]]; exact F_odd_a0t_32, by rw [show f3_sum p1 p2 w_odd w_sum vv = (f6 (own_ww vv (own_k p1 (p1 + p2)) p1 w_sum)) from by unfold f3_sum; rw [if_neg hc5, if_neg hc16, if_neg hc34]]; exact F_sum_a0t_32⟩
def own_vn (q0 : Int64) : Nat → Int32
  | 0 => (((q0.toInt32).toInt8.toInt32).toInt8.toInt32)
  | 1 => (((((q0.toUInt64 >>> ((8 : Int32) &&& 0x3f).toInt64.toUInt64).toInt64).toInt32).toInt8.toInt32).toInt8.toInt32)
  | 2 => (((((q0.toUInt64 >>> ((16 : Int32) &&& 0x3f).toInt64.toUInt64).toInt64).toInt32).toInt8.toInt32).toInt8.toInt32)
  | 3 => (((((q0.toUInt64 >>> ((24 : Int32) &&& 0x3f).toInt64.toUInt64).toInt64).toInt32).toInt8.toInt32).toInt8.toInt32)
  | 4 => (((((q0.toUInt64 >>> ((32 : Int32) &&& 0x3f).toInt64.toUInt64).toInt64).toInt32).toInt8.toInt32).toInt8.toInt32)
  | 5 => (((((q0.toUInt64 >>> ((40 : Int32) &&& 0x3f).toInt64.toUInt64).toInt64).toInt32).toInt8.toInt32).toInt8.toInt32)
  | _ => 0
def own_vb (q0 : Int64) (i : Int32) : Int32 := own_vn q0 i.toNatClampNeg
def own_n (p2 : Int32) : Int32 := (p2 &&& (7 : Int32)) % (7 : Int32)
def own_s (p2 : Int32) : Int32 := ((((p2.toUInt32 >>> ((3 : Int32) &&& 31).toUInt32).toInt32) &&& (7 : Int32)) % (own_n p2 + (1 : Int32)))
theorem own_m7 (x : Int32) : 0 ≤ (x &&& 7).toInt ∧ (x &&& 7).toInt ≤ 7 := by
  have e := c_mask x 7 3 (by decide) (by decide)
  have e2 : ((2 ^ 3 : Nat) : Int) = 8 := by decide
  rw [e2] at e
  omega
theorem own_nv (p2 : Int32) : 0 ≤ (own_n p2).toInt ∧ (own_n p2).toInt ≤ 6 := by
  have m := own_m7 p2
  have h := (c_irem (p2 &&& 7) 7 7 rfl).1 m.1
  unfold own_n
  rw [h]; omega
theorem own_n1 (p2 : Int32) : (own_n p2 + (1 : Int32)).toInt = (own_n p2).toInt + 1 := own_add1 _ (own_nv p2).1 (by have := own_nv p2; omega)
theorem own_nz (p2 : Int32) : own_n p2 + (1 : Int32) ≠ 0 := fun q => by
  have h := own_nv p2
  have e := own_n1 p2
  rw [q] at e
  have l : (0 : Int32).toInt = 0 := rfl
  omega
theorem own_sv (p2 : Int32) : 0 ≤ (own_s p2).toInt ∧ (own_s p2).toInt ≤ (own_n p2).toInt := by
  have h := own_nv p2
  have e := own_n1 p2
  have m := own_m7 ((p2.toUInt32 >>> ((3 : Int32) &&& 31).toUInt32).toInt32)
  have q := (c_irem (((p2.toUInt32 >>> ((3 : Int32) &&& 31).toUInt32).toInt32) &&& 7) (own_n p2 + 1) _ rfl).1 m.1
  unfold own_s
  rw [q]
  have a := Int.emod_nonneg (((p2.toUInt32 >>> ((3 : Int32) &&& 31).toUInt32).toInt32) &&& 7).toInt (show (own_n p2 + (1 : Int32)).toInt ≠ 0 by omega)
  have b := Int.emod_lt_of_pos (((p2.toUInt32 >>> ((3 : Int32) &&& 31).toUInt32).toInt32) &&& 7).toInt (show 0 < (own_n p2 + (1 : Int32)).toInt by omega)
  omega
theorem own_l1 (p2 : Int32) : 0 ≤ (own_s p2).toInt ∧ (0 : Int32).toInt + (own_s p2).toInt ≤ 6 := by
  have a := own_sv p2
  have b := own_nv p2
  have l : (0 : Int32).toInt = 0 := rfl
  omega
theorem own_ns (p2 : Int32) : (own_n p2 - own_s p2).toInt = (own_n p2).toInt - (own_s p2).toInt := by
  have a := own_sv p2
  have b := own_nv p2
  have c := c_isub (own_n p2) (own_s p2)
  have r := rng32 (own_n p2 - own_s p2)
  omega
theorem own_l2 (p2 : Int32) : 0 ≤ (own_s p2).toInt ∧ 0 ≤ (own_n p2 - own_s p2).toInt ∧ (own_s p2).toInt + (own_n p2 - own_s p2).toInt ≤ 6 := by
  have a := own_sv p2
  have b := own_nv p2
  rw [own_ns]
  omega
theorem own_f3b (p1 p2 o : Int32) (S : Int64) (vv : Int32 → Int32) (hp1 : 0 ≤ p1.toInt) (hp2 : 0 ≤ p2.toInt) (hp3 : p1.toInt + p2.toInt ≤ 6) (hs0 : 0 ≤ S.toInt) (hs1 : S.toInt ≤ 65535) : 0 ≤ (f3_sum p1 p2 o S vv).toInt ∧ (f3_sum p1 p2 o S vv).toInt ≤ 65535 := by
  have hE6 := own_E6 p1 p2 hp1 hp2 hp3
  have i0 := own_i0 p1 p2 hp1 hp2 hp3
  have w := own_wwb vv p1 (p1 + p2) S hs0 hs1 i0.1 i0.2 hE6
  have c6 := own_b6 _ w.1
  unfold f3_sum
  split
  · split
    · exact own_b7 _ _ _ c6.1 c6.2
    · exact c6
  · split
    · rename_i hc
      have i1 := own_i1 p1 p2 hp1 hp2 hp3 hc
      have b7 := own_b7 (vv p1) S o hs0 hs1
      have w1 := own_wwb vv (p1 + 1) (p1 + p2) _ b7.1 b7.2 i1.1 i1.2 hE6
      have d6 := own_b6 _ w1.1
      split
      · exact own_b7 _ _ _ d6.1 d6.2
      · exact d6
    · split
      · exact own_b7 _ _ _ c6.1 c6.2
      · exact c6
theorem own_sb1 (q0 : Int64) (p1 p2 : Int32) : 0 ≤ (f3_sum 0 (own_s p2) 0 0 (own_vb q0)).toInt ∧ (f3_sum 0 (own_s p2) 0 0 (own_vb q0)).toInt ≤ 65535 :=
  own_f3b 0 (own_s p2) 0 0 _ (by decide) (own_l1 p2).1 (own_l1 p2).2 (by decide) (by decide)
theorem own_sb2 (q0 : Int64) (p1 p2 : Int32) : 0 ≤ (f7_sum p1 (f3_odd 0 (own_s p2) 0 0 (own_vb q0)) (f3_sum 0 (own_s p2) 0 0 (own_vb q0))).toInt ∧ (f7_sum p1 (f3_odd 0 (own_s p2) 0 0 (own_vb q0)) (f3_sum 0 (own_s p2) 0 0 (own_vb q0))).toInt ≤ 65535 :=
  own_b7 _ _ _ (own_sb1 q0 p1 p2).1 (own_sb1 q0 p1 p2).2
theorem pd_5 : parseMethodDescriptor "()V" = some ⟨[], none⟩ := by decide +kernel
theorem pd_6 : parseMethodDescriptor "([BII)V" = some ⟨[(.array .byte), .int, .int], none⟩ := by decide +kernel
theorem pd_7 : parseMethodDescriptor "()J" = some ⟨[], some .long⟩ := by decide +kernel
theorem pd_8 : parseMethodDescriptor "(IJIIZI)I" = some ⟨[.int, .long, .int, .int, .boolean, .int], some .int⟩ := by decide +kernel
theorem ef_0 (m : MethodId) (x0 : Int64) (x1 : Int32) (x2 : Int32) : entryFrame m #[(.long x0), (.int x1), (.int x2)] maxLocals = mkF m 0 #[.val (.long x0), .second, .val (.int x1), .val (.int x2), .unset, .unset, .unset, .unset, .unset, .unset, .unset, .unset, .unset, .unset, .unset, .unset, .unset, .unset, .unset, .unset, .unset, .unset, .unset] [] := by first | (simp [entryFrame, mkF, argsToLocals, Value.category, maxLocals]; done) | rfl
def f0_e1 (p2 : Int32) : Int32 := (((p2.toUInt32 >>> ((3 : Int32) &&& 31).toUInt32).toInt32) &&& (7 : Int32))
def f0_e2 (p2 : Int32) : Int32 := (((p2.toUInt32 >>> ((6 : Int32) &&& 31).toUInt32).toInt32) &&& (1 : Int32))
def f0_s0_36001 (p2 : Int32) : Int32 := (if (f0_e2 p2) = (0 : Int32) then (0 : Int32) else (1 : Int32))
def f0_e3 (q0 : Int64) : Int32 := (((q0.toUInt64 >>> ((8 : Int32) &&& 0x3f).toInt64.toUInt64).toInt64).toInt32)
def f0_e4 (q0 : Int64) : Int32 := (((q0.toUInt64 >>> ((16 : Int32) &&& 0x3f).toInt64.toUInt64).toInt64).toInt32)
def f0_e5 (q0 : Int64) : Int32 := (((q0.toUInt64 >>> ((24 : Int32) &&& 0x3f).toInt64.toUInt64).toInt64).toInt32)
def f0_e6 (q0 : Int64) : Int32 := (((q0.toUInt64 >>> ((32 : Int32) &&& 0x3f).toInt64.toUInt64).toInt64).toInt32)
def f0_e7 (q0 : Int64) : Int32 := (((q0.toUInt64 >>> ((40 : Int32) &&& 0x3f).toInt64.toUInt64).toInt64).toInt32)
def f0_e8 (q0 : Int64) (p2 : Int32) : Int32 := (f3_odd (0 : Int32) ((f0_e1 p2) % (((p2 &&& (7 : Int32)) % (7 : Int32)) + (1 : Int32))) (0 : Int32) (0 : Int64) (own_vb q0))
def f0_e9 (q0 : Int64) (p2 : Int32) : Int64 := (f3_sum (0 : Int32) ((f0_e1 p2) % (((p2 &&& (7 : Int32)) % (7 : Int32)) + (1 : Int32))) (0 : Int32) (0 : Int64) (own_vb q0))
def f0_e10 (p2 : Int32) : Int32 := (((p2 &&& (7 : Int32)) % (7 : Int32)) - ((f0_e1 p2) % (((p2 &&& (7 : Int32)) % (7 : Int32)) + (1 : Int32))))
def f0_e11 (q0 : Int64) (p2 : Int32) : Int32 := (f3_odd ((f0_e1 p2) % (((p2 &&& (7 : Int32)) % (7 : Int32)) + (1 : Int32))) (f0_e10 p2) (f0_e8 q0 p2) (f0_e9 q0 p2) (own_vb q0))
def f0_e12 (q0 : Int64) (p2 : Int32) : Int64 := (f3_sum ((f0_e1 p2) % (((p2 &&& (7 : Int32)) % (7 : Int32)) + (1 : Int32))) (f0_e10 p2) (f0_e8 q0 p2) (f0_e9 q0 p2) (own_vb q0))
def f0_e13 (q0 : Int64) (p1 : Int32) (p2 : Int32) : Int32 := (f9 (0 : Int32) q0 ((f0_e1 p2) % (((p2 &&& (7 : Int32)) % (7 : Int32)) + (1 : Int32))) ((p2 &&& (7 : Int32)) % (7 : Int32)) (f0_s0_36001 p2) p1)
def f0_e14 (q0 : Int64) (p1 : Int32) (p2 : Int32) : Int32 := (f9 (1 : Int32) q0 ((f0_e1 p2) % (((p2 &&& (7 : Int32)) % (7 : Int32)) + (1 : Int32))) ((p2 &&& (7 : Int32)) % (7 : Int32)) (f0_s0_36001 p2) p1)
def f0_e15 (q0 : Int64) (p1 : Int32) (p2 : Int32) : Int64 := ((((f0_e13 q0 p1 p2) <<< ((8 : Int32) &&& 31)) ||| (f0_e14 q0 p1 p2)).toInt64)
def f0_e16 (q0 : Int64) (p1 : Int32) (p2 : Int32) : Int32 := (f9 (2 : Int32) q0 ((f0_e1 p2) % (((p2 &&& (7 : Int32)) % (7 : Int32)) + (1 : Int32))) ((p2 &&& (7 : Int32)) % (7 : Int32)) (f0_s0_36001 p2) p1)
def f0_e17 (q0 : Int64) (p1 : Int32) (p2 : Int32) : Int32 := (f9 (3 : Int32) q0 ((f0_e1 p2) % (((p2 &&& (7 : Int32)) % (7 : Int32)) + (1 : Int32))) ((p2 &&& (7 : Int32)) % (7 : Int32)) (f0_s0_36001 p2) p1)
def f0_e18 (q0 : Int64) (p1 : Int32) (p2 : Int32) : Int64 := ((((f0_e16 q0 p1 p2) <<< ((8 : Int32) &&& 31)) ||| (f0_e17 q0 p1 p2)).toInt64)
def f0_e19 (q0 : Int64) (p1 : Int32) (p2 : Int32) : Int32 := (f9 (4 : Int32) q0 ((f0_e1 p2) % (((p2 &&& (7 : Int32)) % (7 : Int32)) + (1 : Int32))) ((p2 &&& (7 : Int32)) % (7 : Int32)) (f0_s0_36001 p2) p1)
def f0_e20 (q0 : Int64) (p1 : Int32) (p2 : Int32) : Int32 := (f9 (5 : Int32) q0 ((f0_e1 p2) % (((p2 &&& (7 : Int32)) % (7 : Int32)) + (1 : Int32))) ((p2 &&& (7 : Int32)) % (7 : Int32)) (f0_s0_36001 p2) p1)
def f0_e21 (q0 : Int64) (p1 : Int32) (p2 : Int32) : Int64 := ((((f0_e19 q0 p1 p2) <<< ((8 : Int32) &&& 31)) ||| (f0_e20 q0 p1 p2)).toInt64)
def f0_e22 (q0 : Int64) (p1 : Int32) (p2 : Int32) : Int32 := (f9 (6 : Int32) q0 ((f0_e1 p2) % (((p2 &&& (7 : Int32)) % (7 : Int32)) + (1 : Int32))) ((p2 &&& (7 : Int32)) % (7 : Int32)) (f0_s0_36001 p2) p1)
def f0_e23 (q0 : Int64) (p1 : Int32) (p2 : Int32) : Int32 := (f9 (7 : Int32) q0 ((f0_e1 p2) % (((p2 &&& (7 : Int32)) % (7 : Int32)) + (1 : Int32))) ((p2 &&& (7 : Int32)) % (7 : Int32)) (f0_s0_36001 p2) p1)
def f0_e24 (q0 : Int64) (p1 : Int32) (p2 : Int32) : Int64 := ((((f0_e22 q0 p1 p2) <<< ((8 : Int32) &&& 31)) ||| (f0_e23 q0 p1 p2)).toInt64)
def f0_e25 (q0 : Int64) (p1 : Int32) (p2 : Int32) : Int64 := ((((f0_e15 q0 p1 p2) + (f0_e18 q0 p1 p2)) + (f0_e21 q0 p1 p2)) + (f0_e24 q0 p1 p2))
def f0_e26 (q0 : Int64) (p1 : Int32) (p2 : Int32) : Int64 := (((f0_e25 q0 p1 p2).toUInt64 >>> ((16 : Int32) &&& 0x3f).toInt64.toUInt64).toInt64)
def f0_e27 (q0 : Int64) (p1 : Int32) (p2 : Int32) : Int64 := ((((f0_e25 q0 p1 p2) &&& (65535 : Int64)) + (f0_e26 q0 p1 p2)) &&& (65535 : Int64))
def f0_e28 (q0 : Int64) (p1 : Int32) (p2 : Int32) : Int64 := (((((f0_e25 q0 p1 p2) &&& (65535 : Int64)) + (f0_e26 q0 p1 p2)).toUInt64 >>> ((16 : Int32) &&& 0x3f).toInt64.toUInt64).toInt64)
def f0_e29 (q0 : Int64) (p1 : Int32) (p2 : Int32) : Int64 := ((((f0_e27 q0 p1 p2) + (f0_e28 q0 p1 p2)) ^^^ (-1 : Int64)) &&& (65535 : Int64))
def f0_e30 (q0 : Int64) (p1 : Int32) (p2 : Int32) : Int32 := (f3_odd ((f0_e1 p2) % (((p2 &&& (7 : Int32)) % (7 : Int32)) + (1 : Int32))) (f0_e10 p2) (f7_odd p1 (f0_e8 q0 p2) (f0_e9 q0 p2)) (f7_sum p1 (f0_e8 q0 p2) (f0_e9 q0 p2)) (own_vb q0))
def f0_e31 (q0 : Int64) (p1 : Int32) (p2 : Int32) : Int64 := (f3_sum ((f0_e1 p2) % (((p2 &&& (7 : Int32)) % (7 : Int32)) + (1 : Int32))) (f0_e10 p2) (f7_odd p1 (f0_e8 q0 p2) (f0_e9 q0 p2)) (f7_sum p1 (f0_e8 q0 p2) (f0_e9 q0 p2)) (own_vb q0))
def f0 (q0 : Int64) (p1 : Int32) (p2 : Int32) : Int32 := (if (f0_s0_36001 p2) = (0 : Int32) then (if (lcmpW (f8 (f0_e11 q0 p2) (f0_e12 q0 p2)) (f0_e29 q0 p1 p2)) = (0 : Int32) then (1 : Int32) else (0 : Int32)) else (if (lcmpW (f8 (f0_e30 q0 p1 p2) (f0_e31 q0 p1 p2)) (f0_e29 q0 p1 p2)) = (0 : Int32) then (1 : Int32) else (0 : Int32)))
def Q0 (Z : State) (q0 : Int64) (p1 : Int32) (p2 : Int32) (h0 : Heap) (n0 : Nat) (v : Option Value) (h : Heap) (L : List Loc) : Prop := v = some (.int (f0 q0 p1 p2)) ∧ Fr n0 L
set_option maxRecDepth 65536 in
set_option maxHeartbeats 40000000 in
theorem rm0 (l : Launch) (Z : State) (a0 : Array Value) (hw : ∀ d ∈ tables_1, d.before a0 Z = true) (ws : List Jvm.Cond) (q0 : Int64) (p1 : Int32) (p2 : Int32) (h0 : Heap) (n0 : Nat) (Z0 : n0 ≤ h0.size)  :
    MetFree l x (head1 (Jvm.Cond.code x code maxLocals ret :: ws) room_1) (fun a U => a = #[(.long q0), (.int p1), (.int p2)] ∧ Z.Warmed39 U.vm ∧ U.heap = h0) (fun _ _ _ _ _ => True) (fun _ U o U' => ∃ v L, o = .returned v ∧ Q0 Z q0 p1 p2 h0 n0 v U'.heap L ∧ FrameEnd U o U' L room_1.cells room_1.slots) := by
  refine MetFree.of_bodySF (plainFor_of_name pn_1) hisR ?_
  intro p e s m args below meth c s₁ Bd hml0 hP hK
  obtain ⟨rfl, hZ, hh⟩ := hP
  have hx := Bd.exec
  have hby := Bd.bytes
  have hml : c.maxLocals = 23 := hml0
  have hown : s.vm.findClass "com/example/wireshape/wireshape/model/InternetChecksumGetValuePinLaw" = some m.cls := findClass_of_methodNamed Bd.named
  have hnm := (name_of_methodNamed Bd.named Bd.method).1
  have X0 : Stand p l e room_1 s m #[(.long q0), (.int p1), (.int p2)] below meth c s₁ [] 0 0 := Stand.of_body Bd
  have e0 : s₁.heap = h0 := by rw [← hh, Bd.state]; rfl
  have hlk : meth.locks = false := by first | exact BodyLoose.notSynchronized Bd | exact Body.notSynchronized Bd
  have N0 := Fr.nil n0
  have K0 := Keep.refl h0 []
  have pre0 : ∀ t, Steps p.tables e below (s₁.setTop (mkF m 0 #[.val (.long q0), .second, .val (.int p1), .val (.int p2), .unset, .unset, .unset, .unset, .unset, .unset, .unset, .unset, .unset, .unset, .unset, .unset, .unset, .unset, .unset, .unset, .unset, .unset, .unset] [])) t → Steps p.tables e below (s₁.setTop (entryFrame m #[(.long q0), (.int p1), (.int p2)] maxLocals)) t := fun t k => castTop (ef_0 m q0 p1 p2) k
  have pre1 : ∀ t, Steps p.tables e below (s₁.setTop (mkF m 28 #[.val (.long q0), .second, .val (.int p1), .val (.int p2), .val (.int ((p2 &&& (7 : Int32)) % (7 : Int32))), .val (.int ((f0_e1 p2) % (((p2 &&& (7 : Int32)) % (7 : Int32)) + (1 : Int32)))), .unset, .unset, .unset, .unset, .unset, .unset, .unset, .unset, .unset, .unset, .unset, .unset, .unset, .unset, .unset, .unset, .unset] [(.int (f0_e2 p2))])) t → Steps p.tables e below (s₁.setTop (entryFrame m #[(.long q0), (.int p1), (.int p2)] maxLocals)) t := fun t kt => pre0 t (by
    show Steps p.tables e below (s₁.setTop (mkF m 0 #[.val (.long q0), .second, .val (.int p1), .val (.int p2), .unset, .unset, .unset, .unset, .unset, .unset, .unset, .unset, .unset, .unset, .unset, .unset, .unset, .unset, .unset, .unset, .unset, .unset, .unset] [])) _
    refine XS.iloadN X0.here hx rfl (hb hby at_0) rfl ?_
    show Steps p.tables e below (s₁.setTop (mkF m 1 #[.val (.long q0), .second, .val (.int p1), .val (.int p2), .unset, .unset, .unset, .unset, .unset, .unset, .unset, .unset, .unset, .unset, .unset, .unset, .unset, .unset, .unset, .unset, .unset, .unset, .unset] [(.int p2)])) _
    refine XS.bipush X0.here hx rfl (hb hby at_1) ?_
    show Steps p.tables e below (s₁.setTop (mkF m 3 #[.val (.long q0), .second, .val (.int p1), .val (.int p2), .unset, .unset, .unset, .unset, .unset, .unset, .unset, .unset, .unset, .unset, .unset, .unset, .unset, .unset, .unset, .unset, .unset, .unset, .unset] [(.int (7 : Int32)), (.int p2)])) _
    refine XS.iand X0.here hx rfl (hb hby at_3) rfl ?_
    show Steps p.tables e below (s₁.setTop (mkF m 4 #[.val (.long q0), .second, .val (.int p1), .val (.int p2), .unset, .unset, .unset, .unset, .unset, .unset, .unset, .unset, .unset, .unset, .unset, .unset, .unset, .unset, .unset, .unset, .unset, .unset, .unset] [(.int (p2 &&& (7 : Int32)))])) _
    refine XS.bipush X0.here hx rfl (hb hby at_4) ?_
    show Steps p.tables e below (s₁.setTop (mkF m 6 #[.val (.long q0), .second, .val (.int p1), .val (.int p2), .unset, .unset, .unset, .unset, .unset, .unset, .unset, .unset, .unset, .unset, .unset, .unset, .unset, .unset, .unset, .unset, .unset, .unset, .unset] [(.int (7 : Int32)), (.int (p2 &&& (7 : Int32)))])) _
    refine iremM X0 hx rfl (hb hby at_6) rfl (by decide) ?_
    show Steps p.tables e below (s₁.setTop (mkF m 7 #[.val (.long q0), .second, .val (.int p1), .val (.int p2), .unset, .unset, .unset, .unset, .unset, .unset, .unset, .unset, .unset, .unset, .unset, .unset, .unset, .unset, .unset, .unset, .unset, .unset, .unset] [(.int ((p2 &&& (7 : Int32)) % (7 : Int32)))])) _
    refine XS.istore X0.here hx rfl (hb hby at_7) rfl (l' := #[.val (.long q0), .second, .val (.int p1), .val (.int p2), .val (.int ((p2 &&& (7 : Int32)) % (7 : Int32))), .unset, .unset, .unset, .unset, .unset, .unset, .unset, .unset, .unset, .unset, .unset, .unset, .unset, .unset, .unset, .unset, .unset, .unset]) rfl ?_
    show Steps p.tables e below (s₁.setTop (mkF m 9 #[.val (.long q0), .second, .val (.int p1), .val (.int p2), .val (.int ((p2 &&& (7 : Int32)) % (7 : Int32))), .unset, .unset, .unset, .unset, .unset, .unset, .unset, .unset, .unset, .unset, .unset, .unset, .unset, .unset, .unset, .unset, .unset, .unset] [])) _
    refine XS.iloadN X0.here hx rfl (hb hby at_9) rfl ?_
    show Steps p.tables e below (s₁.setTop (mkF m 10 #[.val (.long q0), .second, .val (.int p1), .val (.int p2), .val (.int ((p2 &&& (7 : Int32)) % (7 : Int32))), .unset, .unset, .unset, .unset, .unset, .unset, .unset, .unset, .unset, .unset, .unset, .unset, .unset, .unset, .unset, .unset, .unset, .unset] [(.int p2)])) _
    refine XS.iconst X0.here hx rfl (hb hby at_10) ?_
    show Steps p.tables e below (s₁.setTop (mkF m 11 #[.val (.long q0), .second, .val (.int p1), .val (.int p2), .val (.int ((p2 &&& (7 : Int32)) % (7 : Int32))), .unset, .unset, .unset, .unset, .unset, .unset, .unset, .unset, .unset, .unset, .unset, .unset, .unset, .unset, .unset, .unset, .unset, .unset] [(.int (3 : Int32)), (.int p2)])) _
    refine XS.iushr X0.here hx rfl (hb hby at_11) rfl ?_
    show Steps p.tables e below (s₁.setTop (mkF m 12 #[.val (.long q0), .second, .val (.int p1), .val (.int p2), .val (.int ((p2 &&& (7 : Int32)) % (7 : Int32))), .unset, .unset, .unset, .unset, .unset, .unset, .unset, .unset, .unset, .unset, .unset, .unset, .unset, .unset, .unset, .unset, .unset, .unset] [(.int ((p2.toUInt32 >>> ((3 : Int32) &&& 31).toUInt32).toInt32))])) _
    refine XS.bipush X0.here hx rfl (hb hby at_12) ?_
    show Steps p.tables e below (s₁.setTop (mkF m 14 #[.val (.long q0), .second, .val (.int p1), .val (.int p2), .val (.int ((p2 &&& (7 : Int32)) % (7 : Int32))), .unset, .unset, .unset, .unset, .unset, .unset, .unset, .unset, .unset, .unset, .unset, .unset, .unset, .unset, .unset, .unset, .unset, .unset] [(.int (7 : Int32)), (.int ((p2.toUInt32 >>> ((3 : Int32) &&& 31).toUInt32).toInt32))])) _
    refine XS.iand X0.here hx rfl (hb hby at_14) rfl ?_
    show Steps p.tables e below (s₁.setTop (mkF m 15 #[.val (.long q0), .second, .val (.int p1), .val (.int p2), .val (.int ((p2 &&& (7 : Int32)) % (7 : Int32))), .unset, .unset, .unset, .unset, .unset, .unset, .unset, .unset, .unset, .unset, .unset, .unset, .unset, .unset, .unset, .unset, .unset, .unset] [(.int (f0_e1 p2))])) _
    refine XS.iload X0.here hx rfl (hb hby at_15) rfl ?_
    show Steps p.tables e below (s₁.setTop (mkF m 17 #[.val (.long q0), .second, .val (.int p1), .val (.int p2), .val (.int ((p2 &&& (7 : Int32)) % (7 : Int32))), .unset, .unset, .unset, .unset, .unset, .unset, .unset, .unset, .unset, .unset, .unset, .unset, .unset, .unset, .unset, .unset, .unset, .unset] [(.int ((p2 &&& (7 : Int32)) % (7 : Int32))), (.int (f0_e1 p2))])) _
    refine XS.iconst X0.here hx rfl (hb hby at_17) ?_
    show Steps p.tables e below (s₁.setTop (mkF m 18 #[.val (.long q0), .second, .val (.int p1), .val (.int p2), .val (.int ((p2 &&& (7 : Int32)) % (7 : Int32))), .unset, .unset, .unset, .unset, .unset, .unset, .unset, .unset, .unset, .unset, .unset, .unset, .unset, .unset, .unset, .unset, .unset, .unset] [(.int (1 : Int32)), (.int ((p2 &&& (7 : Int32)) % (7 : Int32))), (.int (f0_e1 p2))])) _
    refine XS.iadd X0.here hx rfl (hb hby at_18) rfl ?_
    show Steps p.tables e below (s₁.setTop (mkF m 19 #[.val (.long q0), .second, .val (.int p1), .val (.int p2), .val (.int ((p2 &&& (7 : Int32)) % (7 : Int32))), .unset, .unset, .unset, .unset, .unset, .unset, .unset, .unset, .unset, .unset, .unset, .unset, .unset, .unset, .unset, .unset, .unset, .unset] [(.int (((p2 &&& (7 : Int32)) % (7 : Int32)) + (1 : Int32))), (.int (f0_e1 p2))])) _
    refine iremM X0 hx rfl (hb hby at_19) rfl (own_nz p2) ?_
    show Steps p.tables e below (s₁.setTop (mkF m 20 #[.val (.long q0), .second, .val (.int p1), .val (.int p2), .val (.int ((p2 &&& (7 : Int32)) % (7 : Int32))), .unset, .unset, .unset, .unset, .unset, .unset, .unset, .unset, .unset, .unset, .unset, .unset, .unset, .unset, .unset, .unset, .unset, .unset] [(.int ((f0_e1 p2) % (((p2 &&& (7 : Int32)) % (7 : Int32)) + (1 : Int32))))])) _
    refine XS.istore X0.here hx rfl (hb hby at_20) rfl (l' := #[.val (.long q0), .second, .val (.int p1), .val (.int p2), .val (.int ((p2 &&& (7 : Int32)) % (7 : Int32))), .val (.int ((f0_e1 p2) % (((p2 &&& (7 : Int32)) % (7 : Int32)) + (1 : Int32)))), .unset, .unset, .unset, .unset, .unset, .unset, .unset, .unset, .unset, .unset, .unset, .unset, .unset, .unset, .unset, .unset, .unset]) rfl ?_
    show Steps p.tables e below (s₁.setTop (mkF m 22 #[.val (.long q0), .second, .val (.int p1), .val (.int p2), .val (.int ((p2 &&& (7 : Int32)) % (7 : Int32))), .val (.int ((f0_e1 p2) % (((p2 &&& (7 : Int32)) % (7 : Int32)) + (1 : Int32)))), .unset, .unset, .unset, .unset, .unset, .unset, .unset, .unset, .unset, .unset, .unset, .unset, .unset, .unset, .unset, .unset, .unset] [])) _
    refine XS.iloadN X0.here hx rfl (hb hby at_22) rfl ?_
    show Steps p.tables e below (s₁.setTop (mkF m 23 #[.val (.long q0), .second, .val (.int p1), .val (.int p2), .val (.int ((p2 &&& (7 : Int32)) % (7 : Int32))), .val (.int ((f0_e1 p2) % (((p2 &&& (7 : Int32)) % (7 : Int32)) + (1 : Int32)))), .unset, .unset, .unset, .unset, .unset, .unset, .unset, .unset, .unset, .unset, .unset, .unset, .unset, .unset, .unset, .unset, .unset] [(.int p2)])) _
    refine XS.bipush X0.here hx rfl (hb hby at_23) ?_
    show Steps p.tables e below (s₁.setTop (mkF m 25 #[.val (.long q0), .second, .val (.int p1), .val (.int p2), .val (.int ((p2 &&& (7 : Int32)) % (7 : Int32))), .val (.int ((f0_e1 p2) % (((p2 &&& (7 : Int32)) % (7 : Int32)) + (1 : Int32)))), .unset, .unset, .unset, .unset, .unset, .unset, .unset, .unset, .unset, .unset, .unset, .unset, .unset, .unset, .unset, .unset, .unset] [(.int (6 : Int32)), (.int p2)])) _
    refine XS.iushr X0.here hx rfl (hb hby at_25) rfl ?_
    show Steps p.tables e below (s₁.setTop (mkF m 26 #[.val (.long q0), .second, .val (.int p1), .val (.int p2), .val (.int ((p2 &&& (7 : Int32)) % (7 : Int32))), .val (.int ((f0_e1 p2) % (((p2 &&& (7 : Int32)) % (7 : Int32)) + (1 : Int32)))), .unset, .unset, .unset, .unset, .unset, .unset, .unset, .unset, .unset, .unset, .unset, .unset, .unset, .unset, .unset, .unset, .unset] [(.int ((p2.toUInt32 >>> ((6 : Int32) &&& 31).toUInt32).toInt32))])) _
    refine XS.iconst X0.here hx rfl (hb hby at_26) ?_
    show Steps p.tables e below (s₁.setTop (mkF m 27 #[.val (.long q0), .second, .val (.int p1), .val (.int p2), .val (.int ((p2 &&& (7 : Int32)) % (7 : Int32))), .val (.int ((f0_e1 p2) % (((p2 &&& (7 : Int32)) % (7 : Int32)) + (1 : Int32)))), .unset, .unset, .unset, .unset, .unset, .unset, .unset, .unset, .unset, .unset, .unset, .unset, .unset, .unset, .unset, .unset, .unset] [(.int (1 : Int32)), (.int ((p2.toUInt32 >>> ((6 : Int32) &&& 31).toUInt32).toInt32))])) _
    refine XS.iand X0.here hx rfl (hb hby at_27) rfl ?_
    exact kt)
  have pre3 : ∀ t, Steps p.tables e below (s₁.setTop (mkF m 36 #[.val (.long q0), .second, .val (.int p1), .val (.int p2), .val (.int ((p2 &&& (7 : Int32)) % (7 : Int32))), .val (.int ((f0_e1 p2) % (((p2 &&& (7 : Int32)) % (7 : Int32)) + (1 : Int32)))), .unset, .unset, .unset, .unset, .unset, .unset, .unset, .unset, .unset, .unset, .unset, .unset, .unset, .unset, .unset, .unset, .unset] [(.int (f0_s0_36001 p2))])) t → Steps p.tables e below (s₁.setTop (entryFrame m #[(.long q0), (.int p1), (.int p2)] maxLocals)) t := by
    intro t kt
    by_cases hc2 : (f0_e2 p2) = (0 : Int32)
    · have hj : (f0_s0_36001 p2) = (0 : Int32) := by unfold f0_s0_36001; rw [if_pos hc2]
      rw [hj] at kt
      refine pre1 t ?_
      show Steps p.tables e below (s₁.setTop (mkF m 28 #[.val (.long q0), .second, .val (.int p1), .val (.int p2), .val (.int ((p2 &&& (7 : Int32)) % (7 : Int32))), .val (.int ((f0_e1 p2) % (((p2 &&& (7 : Int32)) % (7 : Int32)) + (1 : Int32)))), .unset, .unset, .unset, .unset, .unset, .unset, .unset, .unset, .unset, .unset, .unset, .unset, .unset, .unset, .unset, .unset, .unset] [(.int (f0_e2 p2))])) _
      refine XS.ifYes X0.here hx rfl (pc0 := 28) (pc' := 35) rfl (hb hby at_28) rfl ((if0 _ _).trans (teq hc2).1) (by decide) (by decide) ?_
      show Steps p.tables e below (s₁.setTop (mkF m 35 #[.val (.long q0), .second, .val (.int p1), .val (.int p2), .val (.int ((p2 &&& (7 : Int32)) % (7 : Int32))), .val (.int ((f0_e1 p2) % (((p2 &&& (7 : Int32)) % (7 : Int32)) + (1 : Int32)))), .unset, .unset, .unset, .unset, .unset, .unset, .unset, .unset, .unset, .unset, .unset, .unset, .unset, .unset, .unset, .unset, .unset] [])) _
      refine XS.iconst X0.here hx rfl (hb hby at_35) ?_
      exact kt
    · have hj : (f0_s0_36001 p2) = (1 : Int32) := by unfold f0_s0_36001; rw [if_neg hc2]
      rw [hj] at kt
      refine pre1 t ?_
      show Steps p.tables e below (s₁.setTop (mkF m 28 #[.val (.long q0), .second, .val (.int p1), .val (.int p2), .val (.int ((p2 &&& (7 : Int32)) % (7 : Int32))), .val (.int ((f0_e1 p2) % (((p2 &&& (7 : Int32)) % (7 : Int32)) + (1 : Int32)))), .unset, .unset, .unset, .unset, .unset, .unset, .unset, .unset, .unset, .unset, .unset, .unset, .unset, .unset, .unset, .unset, .unset] [(.int (f0_e2 p2))])) _
      refine XS.ifNo X0.here hx rfl (hb hby at_28) rfl ((if0 _ _).trans (feq hc2).1) ?_
      show Steps p.tables e below (s₁.setTop (mkF m 31 #[.val (.long q0), .second, .val (.int p1), .val (.int p2), .val (.int ((p2 &&& (7 : Int32)) % (7 : Int32))), .val (.int ((f0_e1 p2) % (((p2 &&& (7 : Int32)) % (7 : Int32)) + (1 : Int32)))), .unset, .unset, .unset, .unset, .unset, .unset, .unset, .unset, .unset, .unset, .unset, .unset, .unset, .unset, .unset, .unset, .unset] [])) _
      refine XS.iconst X0.here hx rfl (hb hby at_31) ?_
      show Steps p.tables e below (s₁.setTop (mkF m 32 #[.val (.long q0), .second, .val (.int p1), .val (.int p2), .val (.int ((p2 &&& (7 : Int32)) % (7 : Int32))), .val (.int ((f0_e1 p2) % (((p2 &&& (7 : Int32)) % (7 : Int32)) + (1 : Int32)))), .unset, .unset, .unset, .unset, .unset, .unset, .unset, .unset, .unset, .unset, .unset, .unset, .unset, .unset, .unset, .unset, .unset] [(.int (1 : Int32))])) _
      refine XS.goto X0.here hx rfl (pc0 := 32) (pc' := 36) rfl (hb hby at_32) (by decide) (by decide) ?_
      exact kt
  obtain ⟨T4, h4, k4, X4, e4, E4, A4, st4⟩ := newP X0 hx hZ (hw _ (List.mem_of_getElem? (i := 0) rfl)) e0 (g := (mkF m 40 #[.val (.long q0), .second, .val (.int p1), .val (.int p2), .val (.int ((p2 &&& (7 : Int32)) % (7 : Int32))), .val (.int ((f0_e1 p2) % (((p2 &&& (7 : Int32)) % (7 : Int32)) + (1 : Int32)))), .val (.int (f0_s0_36001 p2)), .unset, .unset, .unset, .unset, .unset, .unset, .unset, .unset, .unset, .unset, .unset, .unset, .unset, .unset, .unset, .unset] [(.int (6 : Int32))])) rfl (hb hby at_40) rfl (by decide) (cap := 6) (by decide) (by decide) (by decide) (by decide)
  obtain ⟨b4, g4⟩ : ∃ z, z = h0.size := ⟨_, rfl⟩
  rw [← g4] at A4 st4
  have gn_b4 : n0 ≤ b4 := Nat.le_trans Z0 (Nat.le_of_eq g4.symm)
  have sz_b4 : h0.size ≤ b4 := Nat.le_trans K0.1 (Nat.le_of_eq g4.symm)
  have Zz4 := Nat.le_trans Z0 E4.1
  have K4 := K0.ext E4
  have V_b4 : Arv Z h4 b4 k4 .byte (6 : Int32) [(.int (0 : Int32)), (.int (0 : Int32)), (.int (0 : Int32)), (.int (0 : Int32)), (.int (0 : Int32)), (.int (0 : Int32))] (.int (0 : Int32)) := (Arv.new A4 (by decide)).pad (pad_rep [] (.int (0 : Int32)) 6)
  obtain ⟨cl5, Ar5, q5, S5, N5_, H5, G5⟩ := id V_b4
  have hin5 : ¬ ((0 : Int32) < 0 ∨ cl5.slots.size ≤ ((0 : Int32)).toNatClampNeg) := inb_of S5 ⟨by decide, by decide⟩
  obtain ⟨T5, h5, X5, e5, W5, st5⟩ := stB X4 hx hZ e4 Ar5 (j := (0 : Int32)) hin5 (g := (mkF m 47 #[.val (.long q0), .second, .val (.int p1), .val (.int p2), .val (.int ((p2 &&& (7 : Int32)) % (7 : Int32))), .val (.int ((f0_e1 p2) % (((p2 &&& (7 : Int32)) % (7 : Int32)) + (1 : Int32)))), .val (.int (f0_s0_36001 p2)), .unset, .unset, .unset, .unset, .unset, .unset, .unset, .unset, .unset, .unset, .unset, .unset, .unset, .unset, .unset, .unset] [(.int ((q0.toInt32).toInt8.toInt32)), (.int (0 : Int32)), (.ref b4), (.ref b4)])) rfl rfl (hb hby at_47)
  have V_b4_5 : Arv Z h5 b4 k4 .byte (6 : Int32) [(.int (((q0.toInt32).toInt8.toInt32).toInt8.toInt32)), (.int (0 : Int32)), (.int (0 : Int32)), (.int (0 : Int32)), (.int (0 : Int32)), (.int (0 : Int32))] (.int (0 : Int32)) := Arv.set Ar5 q5 S5 N5_ H5 G5 (fits_nar_byte _) W5 0 rfl (Nat.le_of_ble_eq_true rfl)
  have N5 := Fr.snoc X5 N0 gn_b4
  have Zz5 := Nat.le_trans Zz4 (Keep.of_wr W5).1
  have K5 : Keep h0 h5 [] := K4.wr W5 (Or.inr sz_b4)
  obtain ⟨cl6, Ar6, q6, S6, N6_, H6, G6⟩ := id V_b4_5
  have hin6 : ¬ ((1 : Int32) < 0 ∨ cl6.slots.size ≤ ((1 : Int32)).toNatClampNeg) := inb_of S6 ⟨by decide, by decide⟩
  obtain ⟨T6, h6, X6, e6, W6, st6⟩ := stB X5 hx hZ e5 Ar6 (j := (1 : Int32)) hin6 (g := (mkF m 56 #[.val (.long q0), .second, .val (.int p1), .val (.int p2), .val (.int ((p2 &&& (7 : Int32)) % (7 : Int32))), .val (.int ((f0_e1 p2) % (((p2 &&& (7 : Int32)) % (7 : Int32)) + (1 : Int32)))), .val (.int (f0_s0_36001 p2)), .unset, .unset, .unset, .unset, .unset, .unset, .unset, .unset, .unset, .unset, .unset, .unset, .unset, .unset, .unset, .unset] [(.int ((f0_e3 q0).toInt8.toInt32)), (.int (1 : Int32)), (.ref b4), (.ref b4)])) rfl rfl (hb hby at_56)
  have V_b4_6 : Arv Z h6 b4 k4 .byte (6 : Int32) [(.int (((q0.toInt32).toInt8.toInt32).toInt8.toInt32)), (.int (((f0_e3 q0).toInt8.toInt32).toInt8.toInt32)), (.int (0 : Int32)), (.int (0 : Int32)), (.int (0 : Int32)), (.int (0 : Int32))] (.int (0 : Int32)) := Arv.set Ar6 q6 S6 N6_ H6 G6 (fits_nar_byte _) W6 1 rfl (Nat.le_of_ble_eq_true rfl)
  have N6 := Fr.snoc X6 N5 gn_b4
  have Zz6 := Nat.le_trans Zz5 (Keep.of_wr W6).1
  have K6 : Keep h0 h6 [] := K5.wr W6 (Or.inr sz_b4)
  obtain ⟨cl7, Ar7, q7, S7, N7_, H7, G7⟩ := id V_b4_6
  have hin7 : ¬ ((2 : Int32) < 0 ∨ cl7.slots.size ≤ ((2 : Int32)).toNatClampNeg) := inb_of S7 ⟨by decide, by decide⟩
  obtain ⟨T7, h7, X7, e7, W7, st7⟩ := stB X6 hx hZ e6 Ar7 (j := (2 : Int32)) hin7 (g := (mkF m 65 #[.val (.long q0), .second, .val (.int p1), .val (.int p2), .val (.int ((p2 &&& (7 : Int32)) % (7 : Int32))), .val (.int ((f0_e1 p2) % (((p2 &&& (7 : Int32)) % (7 : Int32)) + (1 : Int32)))), .val (.int (f0_s0_36001 p2)), .unset, .unset, .unset, .unset, .unset, .unset, .unset, .unset, .unset, .unset, .unset, .unset, .unset, .unset, .unset, .unset] [(.int ((f0_e4 q0).toInt8.toInt32)), (.int (2 : Int32)), (.ref b4), (.ref b4)])) rfl rfl (hb hby at_65)
  have V_b4_7 : Arv Z h7 b4 k4 .byte (6 : Int32) [(.int (((q0.toInt32).toInt8.toInt32).toInt8.toInt32)), (.int (((f0_e3 q0).toInt8.toInt32).toInt8.toInt32)), (.int (((f0_e4 q0).toInt8.toInt32).toInt8.toInt32)), (.int (0 : Int32)), (.int (0 : Int32)), (.int (0 : Int32))] (.int (0 : Int32)) := Arv.set Ar7 q7 S7 N7_ H7 G7 (fits_nar_byte _) W7 2 rfl (Nat.le_of_ble_eq_true rfl)
  have N7 := Fr.snoc X7 N6 gn_b4
  have Zz7 := Nat.le_trans Zz6 (Keep.of_wr W7).1
  have K7 : Keep h0 h7 [] := K6.wr W7 (Or.inr sz_b4)
  obtain ⟨cl8, Ar8, q8, S8, N8_, H8, G8⟩ := id V_b4_7
  have hin8 : ¬ ((3 : Int32) < 0 ∨ cl8.slots.size ≤ ((3 : Int32)).toNatClampNeg) := inb_of S8 ⟨by decide, by decide⟩
  obtain ⟨T8, h8, X8, e8, W8, st8⟩ := stB X7 hx hZ e7 Ar8 (j := (3 : Int32)) hin8 (g := (mkF m 74 #[.val (.long q0), .second, .val (.int p1), .val (.int p2), .val (.int ((p2 &&& (7 : Int32)) % (7 : Int32))), .val (.int ((f0_e1 p2) % (((p2 &&& (7 : Int32)) % (7 : Int32)) + (1 : Int32)))), .val (.int (f0_s0_36001 p2)), .unset, .unset, .unset, .unset, .unset, .unset, .unset, .unset, .unset, .unset, .unset, .unset, .unset, .unset, .unset, .unset] [(.int ((f0_e5 q0).toInt8.toInt32)), (.int (3 : Int32)), (.ref b4), (.ref b4)])) rfl rfl (hb hby at_74)
  have V_b4_8 : Arv Z h8 b4 k4 .byte (6 : Int32) [(.int (((q0.toInt32).toInt8.toInt32).toInt8.toInt32)), (.int (((f0_e3 q0).toInt8.toInt32).toInt8.toInt32)), (.int (((f0_e4 q0).toInt8.toInt32).toInt8.toInt32)), (.int (((f0_e5 q0).toInt8.toInt32).toInt8.toInt32)), (.int (0 : Int32)), (.int (0 : Int32))] (.int (0 : Int32)) := Arv.set Ar8 q8 S8 N8_ H8 G8 (fits_nar_byte _) W8 3 rfl (Nat.le_of_ble_eq_true rfl)
  have N8 := Fr.snoc X8 N7 gn_b4
  have Zz8 := Nat.le_trans Zz7 (Keep.of_wr W8).1
  have K8 : Keep h0 h8 [] := K7.wr W8 (Or.inr sz_b4)
  obtain ⟨cl9, Ar9, q9, S9, N9_, H9, G9⟩ := id V_b4_8
  have hin9 : ¬ ((4 : Int32) < 0 ∨ cl9.slots.size ≤ ((4 : Int32)).toNatClampNeg) := inb_of S9 ⟨by decide, by decide⟩
  obtain ⟨T9, h9, X9, e9, W9, st9⟩ := stB X8 hx hZ e8 Ar9 (j := (4 : Int32)) hin9 (g := (mkF m 83 #[.val (.long q0), .second, .val (.int p1), .val (.int p2), .val (.int ((p2 &&& (7 : Int32)) % (7 : Int32))), .val (.int ((f0_e1 p2) % (((p2 &&& (7 : Int32)) % (7 : Int32)) + (1 : Int32)))), .val (.int (f0_s0_36001 p2)), .unset, .unset, .unset, .unset, .unset, .unset, .unset, .unset, .unset, .unset, .unset, .unset, .unset, .unset, .unset, .unset] [(.int ((f0_e6 q0).toInt8.toInt32)), (.int (4 : Int32)), (.ref b4), (.ref b4)])) rfl rfl (hb hby at_83)
  have V_b4_9 : Arv Z h9 b4 k4 .byte (6 : Int32) [(.int (((q0.toInt32).toInt8.toInt32).toInt8.toInt32)), (.int (((f0_e3 q0).toInt8.toInt32).toInt8.toInt32)), (.int (((f0_e4 q0).toInt8.toInt32).toInt8.toInt32)), (.int (((f0_e5 q0).toInt8.toInt32).toInt8.toInt32)), (.int (((f0_e6 q0).toInt8.toInt32).toInt8.toInt32)), (.int (0 : Int32))] (.int (0 : Int32)) := Arv.set Ar9 q9 S9 N9_ H9 G9 (fits_nar_byte _) W9 4 rfl (Nat.le_of_ble_eq_true rfl)
  have N9 := Fr.snoc X9 N8 gn_b4
  have Zz9 := Nat.le_trans Zz8 (Keep.of_wr W9).1
  have K9 : Keep h0 h9 [] := K8.wr W9 (Or.inr sz_b4)
  obtain ⟨cl10, Ar10, q10, S10, N10_, H10, G10⟩ := id V_b4_9
  have hin10 : ¬ ((5 : Int32) < 0 ∨ cl10.slots.size ≤ ((5 : Int32)).toNatClampNeg) := inb_of S10 ⟨by decide, by decide⟩
  obtain ⟨T10, h10, X10, e10, W10, st10⟩ := stB X9 hx hZ e9 Ar10 (j := (5 : Int32)) hin10 (g := (mkF m 92 #[.val (.long q0), .second, .val (.int p1), .val (.int p2), .val (.int ((p2 &&& (7 : Int32)) % (7 : Int32))), .val (.int ((f0_e1 p2) % (((p2 &&& (7 : Int32)) % (7 : Int32)) + (1 : Int32)))), .val (.int (f0_s0_36001 p2)), .unset, .unset, .unset, .unset, .unset, .unset, .unset, .unset, .unset, .unset, .unset, .unset, .unset, .unset, .unset, .unset] [(.int ((f0_e7 q0).toInt8.toInt32)), (.int (5 : Int32)), (.ref b4), (.ref b4)])) rfl rfl (hb hby at_92)
  have V_b4_10 : Arv Z h10 b4 k4 .byte (6 : Int32) [(.int (((q0.toInt32).toInt8.toInt32).toInt8.toInt32)), (.int (((f0_e3 q0).toInt8.toInt32).toInt8.toInt32)), (.int (((f0_e4 q0).toInt8.toInt32).toInt8.toInt32)), (.int (((f0_e5 q0).toInt8.toInt32).toInt8.toInt32)), (.int (((f0_e6 q0).toInt8.toInt32).toInt8.toInt32)), (.int (((f0_e7 q0).toInt8.toInt32).toInt8.toInt32))] (.int (0 : Int32)) := Arv.set Ar10 q10 S10 N10_ H10 G10 (fits_nar_byte _) W10 5 rfl (Nat.le_of_ble_eq_true rfl)
  have N10 := Fr.snoc X10 N9 gn_b4
  have Zz10 := Nat.le_trans Zz9 (Keep.of_wr W10).1
  have K10 : Keep h0 h10 [] := K9.wr W10 (Or.inr sz_b4)
  obtain ⟨T11, h11, X11, e11, E11, A11, D11, -, st11⟩ := newO X10 hx hZ hown (hw _ (List.mem_of_getElem? (i := 1) rfl)) (hw _ (List.mem_of_getElem? (i := 2) rfl)) (hw _ (List.mem_of_getElem? (i := 3) rfl)) e10 (g := (mkF m 95 #[.val (.long q0), .second, .val (.int p1), .val (.int p2), .val (.int ((p2 &&& (7 : Int32)) % (7 : Int32))), .val (.int ((f0_e1 p2) % (((p2 &&& (7 : Int32)) % (7 : Int32)) + (1 : Int32)))), .val (.int (f0_s0_36001 p2)), .val (.ref b4), .unset, .unset, .unset, .unset, .unset, .unset, .unset, .unset, .unset, .unset, .unset, .unset, .unset, .unset, .unset] [])) rfl (hb hby at_95) (by decide) (by decide)
  obtain ⟨b11, g11⟩ : ∃ z, z = h10.size := ⟨_, rfl⟩
  rw [← g11] at A11 D11 st11
  have ne_b4_b11 : b4 ≠ b11 := Nat.ne_of_lt (Nat.lt_of_lt_of_le V_b4_10.lt (Nat.le_of_eq g11.symm))
  have gn_b11 : n0 ≤ b11 := Nat.le_trans Zz10 (Nat.le_of_eq g11.symm)
  have sz_b11 : h0.size ≤ b11 := Nat.le_trans K10.1 (Nat.le_of_eq g11.symm)
  have V_b4_11 := V_b4_10.ext E11
  have Zz11 := Nat.le_trans Zz10 E11.1
  have K11 := K10.ext E11
  have F_odd_b11 : Fld Z h11 b11 "com/example/wireshape/wireshape/model/InternetChecksum" "odd" "Z" (.int (0 : Int32)) := D11 (Or.inl (hw _ (List.mem_of_getElem? (i := 24) rfl))) (ty := .boolean) (by decide)
  have F_sum_b11 : Fld Z h11 b11 "com/example/wireshape/wireshape/model/InternetChecksum" "sum" "J" (.long (0 : Int64)) := D11 (Or.inl (hw _ (List.mem_of_getElem? (i := 26) rfl))) (ty := .long) (by decide)
  obtain ⟨_, _, ⟨T12, L12, k12, n12⟩, -, X12, ⟨Lc12, hQ12, l12, y12, z12⟩, st12⟩ := X11.specialBack hx (y := (⟨"com/example/wireshape/wireshape/model/InternetChecksum", "<init>", "()V"⟩ : MethodName)) rfl hown (mvT hZ (hw _ (List.mem_of_getElem? (i := 4) rfl))) (mvT hZ (hw _ (List.mem_of_getElem? (i := 5) rfl))) (mvT hZ (hw _ (List.mem_of_getElem? (i := 6) rfl))) (by decide) (backOf (W := 1) (rm1 l Z a0 hw [] b11 (0 : Int32) (0 : Int64) h11 n0 Zz11 A11 gn_b11 F_odd_b11 F_sum_b11) hZ (hw _ (List.mem_of_getElem? (i := 6) rfl)) (hw _ (List.mem_of_getElem? (i := 3) rfl)) (by decide) (by decide)) (g := (mkF m 99 #[.val (.long q0), .second, .val (.int p1), .val (.int p2), .val (.int ((p2 &&& (7 : Int32)) % (7 : Int32))), .val (.int ((f0_e1 p2) % (((p2 &&& (7 : Int32)) % (7 : Int32)) + (1 : Int32)))), .val (.int (f0_s0_36001 p2)), .val (.ref b4), .unset, .unset, .unset, .unset, .unset, .unset, .unset, .unset, .unset, .unset, .unset, .unset, .unset, .unset, .unset] [(.ref b11), (.ref b11)])) rfl (by rw [hml]; rfl) (Steps.refl _) (a := b11) (argsL := []) (rest := [(.ref b11)]) (lenOf pd_5 rfl) rfl (by show 2 * 0 + _ ≤ _; exact Nat.le_of_eq rfl) (hb hby at_99) (fun _ _ => ⟨rfl, e11, (by decide : 2 + 0 ≤ _), (by decide : 8 + 0 ≤ _)⟩)
  dsimp only [Pt.U, Pt.locs, Pt.cells, Pt.slots] at X12 l12 y12 z12 st12 hQ12
  obtain rfl : k12 = 2 := y12
  obtain rfl : n12 = 8 := z12
  obtain ⟨rfl, N12q, e12⟩ := hQ12
  have N12 : Fr n0 L12 := by rw [l12]; exact Fr.app N10 N12q
  obtain ⟨cq13, kq13, q13a, q13b, q13c⟩ := isOf hZ e12 A11
  obtain ⟨_, _, ⟨T13, L13, k13, n13⟩, -, X13, ⟨Lc13, hQ13, l13, y13, z13⟩, st13⟩ := X12.virtualBack hx (y := (⟨"com/example/wireshape/wireshape/model/InternetChecksum", "update", "([BII)V"⟩ : MethodName)) (z := (⟨"com/example/wireshape/wireshape/model/InternetChecksum", "update", "([BII)V"⟩ : MethodName)) hown (mvT hZ (hw _ (List.mem_of_getElem? (i := 10) rfl))) (mvT hZ (hw _ (List.mem_of_getElem? (i := 11) rfl))) (notFace_of_selects (args := #[]) (mvT hZ (hw _ (List.mem_of_getElem? (i := 13) rfl)))) (mvT hZ (hw _ (List.mem_of_getElem? (i := 13) rfl))) (mvT hZ (hw _ (List.mem_of_getElem? (i := 12) rfl))) (by decide) (backOf (W := 0) (rm3 l Z a0 hw [] b11 b4 (0 : Int32) ((f0_e1 p2) % (((p2 &&& (7 : Int32)) % (7 : Int32)) + (1 : Int32))) (0 : Int32) (0 : Int64) k4 (own_vb q0) h11 n0 Zz11 A11 gn_b11 F_odd_b11 F_sum_b11 V_b4_11 ne_b4_b11 (by decide) (own_l1 p2).1 (own_l1 p2).2 (by decide) (by decide)) hZ (hw _ (List.mem_of_getElem? (i := 14) rfl)) (hw _ (List.mem_of_getElem? (i := 3) rfl)) (by decide) (by decide)) q13a q13c (g := (mkF m 111 #[.val (.long q0), .second, .val (.int p1), .val (.int p2), .val (.int ((p2 &&& (7 : Int32)) % (7 : Int32))), .val (.int ((f0_e1 p2) % (((p2 &&& (7 : Int32)) % (7 : Int32)) + (1 : Int32)))), .val (.int (f0_s0_36001 p2)), .val (.ref b4), .val (.ref b11), .unset, .unset, .unset, .unset, .unset, .unset, .unset, .unset, .unset, .unset, .unset, .unset, .unset, .unset] [(.int ((f0_e1 p2) % (((p2 &&& (7 : Int32)) % (7 : Int32)) + (1 : Int32)))), (.int (0 : Int32)), (.ref b4), (.ref b11)])) rfl (by rw [hml]; rfl) (Steps.refl _) (argsL := [(.ref b4), (.int (0 : Int32)), (.int ((f0_e1 p2) % (((p2 &&& (7 : Int32)) % (7 : Int32)) + (1 : Int32))))]) (rest := []) (lenOf pd_6 rfl) rfl (by show 2 * 0 + _ ≤ _; exact Nat.le_of_eq rfl) (hb hby at_111) (fun _ _ => ⟨rfl, e12, (by decide : 2 + 0 ≤ _), (by decide : 8 + 0 ≤ _)⟩)
  dsimp only [Pt.U, Pt.locs, Pt.cells, Pt.slots] at X13 l13 y13 z13 st13 hQ13
  obtain rfl : k13 = 2 := y13
  obtain rfl : n13 = 8 := z13
  obtain ⟨rfl, N13q, K13q, E13q, F13q_odd, F13q_sum⟩ := hQ13
  have V_b4_13 := V_b4_11.keep K13q (ninS ne_b4_b11 nin0)
  have F13n_odd : Fld Z T13.heap b11 "com/example/wireshape/wireshape/model/InternetChecksum" "odd" "Z" (.int (f0_e8 q0 p2)) := F13q_odd
  have F13n_sum : Fld Z T13.heap b11 "com/example/wireshape/wireshape/model/InternetChecksum" "sum" "J" (.long (f0_e9 q0 p2)) := F13q_sum
  have Zz13 := Nat.le_trans Zz11 K13q.1
  have K13 : Keep h0 T13.heap [] := K11.trans K13q (allS (Or.inr sz_b11) all0)
  have N13 : Fr n0 L13 := by rw [l13]; exact Fr.app N12 N13q
  have pre14 : ∀ t, Steps p.tables e below (T13.setTop (mkF m 116 #[.val (.long q0), .second, .val (.int p1), .val (.int p2), .val (.int ((p2 &&& (7 : Int32)) % (7 : Int32))), .val (.int ((f0_e1 p2) % (((p2 &&& (7 : Int32)) % (7 : Int32)) + (1 : Int32)))), .val (.int (f0_s0_36001 p2)), .val (.ref b4), .val (.ref b11), .unset, .unset, .unset, .unset, .unset, .unset, .unset, .unset, .unset, .unset, .unset, .unset, .unset, .unset] [(.int (f0_s0_36001 p2))])) t → Steps p.tables e below (s₁.setTop (entryFrame m #[(.long q0), (.int p1), (.int p2)] maxLocals)) t := fun t kt => pre3 t (by
    show Steps p.tables e below (s₁.setTop (mkF m 36 #[.val (.long q0), .second, .val (.int p1), .val (.int p2), .val (.int ((p2 &&& (7 : Int32)) % (7 : Int32))), .val (.int ((f0_e1 p2) % (((p2 &&& (7 : Int32)) % (7 : Int32)) + (1 : Int32)))), .unset, .unset, .unset, .unset, .unset, .unset, .unset, .unset, .unset, .unset, .unset, .unset, .unset, .unset, .unset, .unset, .unset] [(.int (f0_s0_36001 p2))])) _
    refine XS.istore X0.here hx rfl (hb hby at_36) rfl (l' := #[.val (.long q0), .second, .val (.int p1), .val (.int p2), .val (.int ((p2 &&& (7 : Int32)) % (7 : Int32))), .val (.int ((f0_e1 p2) % (((p2 &&& (7 : Int32)) % (7 : Int32)) + (1 : Int32)))), .val (.int (f0_s0_36001 p2)), .unset, .unset, .unset, .unset, .unset, .unset, .unset, .unset, .unset, .unset, .unset, .unset, .unset, .unset, .unset, .unset]) rfl ?_
    show Steps p.tables e below (s₁.setTop (mkF m 38 #[.val (.long q0), .second, .val (.int p1), .val (.int p2), .val (.int ((p2 &&& (7 : Int32)) % (7 : Int32))), .val (.int ((f0_e1 p2) % (((p2 &&& (7 : Int32)) % (7 : Int32)) + (1 : Int32)))), .val (.int (f0_s0_36001 p2)), .unset, .unset, .unset, .unset, .unset, .unset, .unset, .unset, .unset, .unset, .unset, .unset, .unset, .unset, .unset, .unset] [])) _
    refine XS.bipush X0.here hx rfl (hb hby at_38) ?_
    show Steps p.tables e below (s₁.setTop (mkF m 40 #[.val (.long q0), .second, .val (.int p1), .val (.int p2), .val (.int ((p2 &&& (7 : Int32)) % (7 : Int32))), .val (.int ((f0_e1 p2) % (((p2 &&& (7 : Int32)) % (7 : Int32)) + (1 : Int32)))), .val (.int (f0_s0_36001 p2)), .unset, .unset, .unset, .unset, .unset, .unset, .unset, .unset, .unset, .unset, .unset, .unset, .unset, .unset, .unset, .unset] [(.int (6 : Int32))])) _
    refine st4 _ ?_
    show Steps p.tables e below (T4.setTop (mkF m 42 #[.val (.long q0), .second, .val (.int p1), .val (.int p2), .val (.int ((p2 &&& (7 : Int32)) % (7 : Int32))), .val (.int ((f0_e1 p2) % (((p2 &&& (7 : Int32)) % (7 : Int32)) + (1 : Int32)))), .val (.int (f0_s0_36001 p2)), .unset, .unset, .unset, .unset, .unset, .unset, .unset, .unset, .unset, .unset, .unset, .unset, .unset, .unset, .unset, .unset] [(.ref b4)])) _
    refine XS.dup X4.here hx rfl (hb hby at_42) rfl rfl ?_
    show Steps p.tables e below (T4.setTop (mkF m 43 #[.val (.long q0), .second, .val (.int p1), .val (.int p2), .val (.int ((p2 &&& (7 : Int32)) % (7 : Int32))), .val (.int ((f0_e1 p2) % (((p2 &&& (7 : Int32)) % (7 : Int32)) + (1 : Int32)))), .val (.int (f0_s0_36001 p2)), .unset, .unset, .unset, .unset, .unset, .unset, .unset, .unset, .unset, .unset, .unset, .unset, .unset, .unset, .unset, .unset] [(.ref b4), (.ref b4)])) _
    refine XS.iconst X4.here hx rfl (hb hby at_43) ?_
    show Steps p.tables e below (T4.setTop (mkF m 44 #[.val (.long q0), .second, .val (.int p1), .val (.int p2), .val (.int ((p2 &&& (7 : Int32)) % (7 : Int32))), .val (.int ((f0_e1 p2) % (((p2 &&& (7 : Int32)) % (7 : Int32)) + (1 : Int32)))), .val (.int (f0_s0_36001 p2)), .unset, .unset, .unset, .unset, .unset, .unset, .unset, .unset, .unset, .unset, .unset, .unset, .unset, .unset, .unset, .unset] [(.int (0 : Int32)), (.ref b4), (.ref b4)])) _
    refine XS.lloadN X4.here hx rfl (hb hby at_44) rfl ?_
    show Steps p.tables e below (T4.setTop (mkF m 45 #[.val (.long q0), .second, .val (.int p1), .val (.int p2), .val (.int ((p2 &&& (7 : Int32)) % (7 : Int32))), .val (.int ((f0_e1 p2) % (((p2 &&& (7 : Int32)) % (7 : Int32)) + (1 : Int32)))), .val (.int (f0_s0_36001 p2)), .unset, .unset, .unset, .unset, .unset, .unset, .unset, .unset, .unset, .unset, .unset, .unset, .unset, .unset, .unset, .unset] [(.long q0), (.int (0 : Int32)), (.ref b4), (.ref b4)])) _
    refine XS.l2i X4.here hx rfl (hb hby at_45) rfl ?_
    show Steps p.tables e below (T4.setTop (mkF m 46 #[.val (.long q0), .second, .val (.int p1), .val (.int p2), .val (.int ((p2 &&& (7 : Int32)) % (7 : Int32))), .val (.int ((f0_e1 p2) % (((p2 &&& (7 : Int32)) % (7 : Int32)) + (1 : Int32)))), .val (.int (f0_s0_36001 p2)), .unset, .unset, .unset, .unset, .unset, .unset, .unset, .unset, .unset, .unset, .unset, .unset, .unset, .unset, .unset, .unset] [(.int (q0.toInt32)), (.int (0 : Int32)), (.ref b4), (.ref b4)])) _
    refine XS.i2b X4.here hx rfl (hb hby at_46) rfl ?_
    show Steps p.tables e below (T4.setTop (mkF m 47 #[.val (.long q0), .second, .val (.int p1), .val (.int p2), .val (.int ((p2 &&& (7 : Int32)) % (7 : Int32))), .val (.int ((f0_e1 p2) % (((p2 &&& (7 : Int32)) % (7 : Int32)) + (1 : Int32)))), .val (.int (f0_s0_36001 p2)), .unset, .unset, .unset, .unset, .unset, .unset, .unset, .unset, .unset, .unset, .unset, .unset, .unset, .unset, .unset, .unset] [(.int ((q0.toInt32).toInt8.toInt32)), (.int (0 : Int32)), (.ref b4), (.ref b4)])) _
    refine st5 _ ?_
    show Steps p.tables e below (T5.setTop (mkF m 48 #[.val (.long q0), .second, .val (.int p1), .val (.int p2), .val (.int ((p2 &&& (7 : Int32)) % (7 : Int32))), .val (.int ((f0_e1 p2) % (((p2 &&& (7 : Int32)) % (7 : Int32)) + (1 : Int32)))), .val (.int (f0_s0_36001 p2)), .unset, .unset, .unset, .unset, .unset, .unset, .unset, .unset, .unset, .unset, .unset, .unset, .unset, .unset, .unset, .unset] [(.ref b4)])) _
    refine XS.dup X5.here hx rfl (hb hby at_48) rfl rfl ?_
    show Steps p.tables e below (T5.setTop (mkF m 49 #[.val (.long q0), .second, .val (.int p1), .val (.int p2), .val (.int ((p2 &&& (7 : Int32)) % (7 : Int32))), .val (.int ((f0_e1 p2) % (((p2 &&& (7 : Int32)) % (7 : Int32)) + (1 : Int32)))), .val (.int (f0_s0_36001 p2)), .unset, .unset, .unset, .unset, .unset, .unset, .unset, .unset, .unset, .unset, .unset, .unset, .unset, .unset, .unset, .unset] [(.ref b4), (.ref b4)])) _
    refine XS.iconst X5.here hx rfl (hb hby at_49) ?_
    show Steps p.tables e below (T5.setTop (mkF m 50 #[.val (.long q0), .second, .val (.int p1), .val (.int p2), .val (.int ((p2 &&& (7 : Int32)) % (7 : Int32))), .val (.int ((f0_e1 p2) % (((p2 &&& (7 : Int32)) % (7 : Int32)) + (1 : Int32)))), .val (.int (f0_s0_36001 p2)), .unset, .unset, .unset, .unset, .unset, .unset, .unset, .unset, .unset, .unset, .unset, .unset, .unset, .unset, .unset, .unset] [(.int (1 : Int32)), (.ref b4), (.ref b4)])) _
    refine XS.lloadN X5.here hx rfl (hb hby at_50) rfl ?_
    show Steps p.tables e below (T5.setTop (mkF m 51 #[.val (.long q0), .second, .val (.int p1), .val (.int p2), .val (.int ((p2 &&& (7 : Int32)) % (7 : Int32))), .val (.int ((f0_e1 p2) % (((p2 &&& (7 : Int32)) % (7 : Int32)) + (1 : Int32)))), .val (.int (f0_s0_36001 p2)), .unset, .unset, .unset, .unset, .unset, .unset, .unset, .unset, .unset, .unset, .unset, .unset, .unset, .unset, .unset, .unset] [(.long q0), (.int (1 : Int32)), (.ref b4), (.ref b4)])) _
    refine XS.bipush X5.here hx rfl (hb hby at_51) ?_
    show Steps p.tables e below (T5.setTop (mkF m 53 #[.val (.long q0), .second, .val (.int p1), .val (.int p2), .val (.int ((p2 &&& (7 : Int32)) % (7 : Int32))), .val (.int ((f0_e1 p2) % (((p2 &&& (7 : Int32)) % (7 : Int32)) + (1 : Int32)))), .val (.int (f0_s0_36001 p2)), .unset, .unset, .unset, .unset, .unset, .unset, .unset, .unset, .unset, .unset, .unset, .unset, .unset, .unset, .unset, .unset] [(.int (8 : Int32)), (.long q0), (.int (1 : Int32)), (.ref b4), (.ref b4)])) _
    refine XS.lushr X5.here hx rfl (hb hby at_53) rfl ?_
    show Steps p.tables e below (T5.setTop (mkF m 54 #[.val (.long q0), .second, .val (.int p1), .val (.int p2), .val (.int ((p2 &&& (7 : Int32)) % (7 : Int32))), .val (.int ((f0_e1 p2) % (((p2 &&& (7 : Int32)) % (7 : Int32)) + (1 : Int32)))), .val (.int (f0_s0_36001 p2)), .unset, .unset, .unset, .unset, .unset, .unset, .unset, .unset, .unset, .unset, .unset, .unset, .unset, .unset, .unset, .unset] [(.long ((q0.toUInt64 >>> ((8 : Int32) &&& 0x3f).toInt64.toUInt64).toInt64)), (.int (1 : Int32)), (.ref b4), (.ref b4)])) _
    refine XS.l2i X5.here hx rfl (hb hby at_54) rfl ?_
    show Steps p.tables e below (T5.setTop (mkF m 55 #[.val (.long q0), .second, .val (.int p1), .val (.int p2), .val (.int ((p2 &&& (7 : Int32)) % (7 : Int32))), .val (.int ((f0_e1 p2) % (((p2 &&& (7 : Int32)) % (7 : Int32)) + (1 : Int32)))), .val (.int (f0_s0_36001 p2)), .unset, .unset, .unset, .unset, .unset, .unset, .unset, .unset, .unset, .unset, .unset, .unset, .unset, .unset, .unset, .unset] [(.int (f0_e3 q0)), (.int (1 : Int32)), (.ref b4), (.ref b4)])) _
    refine XS.i2b X5.here hx rfl (hb hby at_55) rfl ?_
    show Steps p.tables e below (T5.setTop (mkF m 56 #[.val (.long q0), .second, .val (.int p1), .val (.int p2), .val (.int ((p2 &&& (7 : Int32)) % (7 : Int32))), .val (.int ((f0_e1 p2) % (((p2 &&& (7 : Int32)) % (7 : Int32)) + (1 : Int32)))), .val (.int (f0_s0_36001 p2)), .unset, .unset, .unset, .unset, .unset, .unset, .unset, .unset, .unset, .unset, .unset, .unset, .unset, .unset, .unset, .unset] [(.int ((f0_e3 q0).toInt8.toInt32)), (.int (1 : Int32)), (.ref b4), (.ref b4)])) _
    refine st6 _ ?_
    show Steps p.tables e below (T6.setTop (mkF m 57 #[.val (.long q0), .second, .val (.int p1), .val (.int p2), .val (.int ((p2 &&& (7 : Int32)) % (7 : Int32))), .val (.int ((f0_e1 p2) % (((p2 &&& (7 : Int32)) % (7 : Int32)) + (1 : Int32)))), .val (.int (f0_s0_36001 p2)), .unset, .unset, .unset, .unset, .unset, .unset, .unset, .unset, .unset, .unset, .unset, .unset, .unset, .unset, .unset, .unset] [(.ref b4)])) _
    refine XS.dup X6.here hx rfl (hb hby at_57) rfl rfl ?_
    show Steps p.tables e below (T6.setTop (mkF m 58 #[.val (.long q0), .second, .val (.int p1), .val (.int p2), .val (.int ((p2 &&& (7 : Int32)) % (7 : Int32))), .val (.int ((f0_e1 p2) % (((p2 &&& (7 : Int32)) % (7 : Int32)) + (1 : Int32)))), .val (.int (f0_s0_36001 p2)), .unset, .unset, .unset, .unset, .unset, .unset, .unset, .unset, .unset, .unset, .unset, .unset, .unset, .unset, .unset, .unset] [(.ref b4), (.ref b4)])) _
    refine XS.iconst X6.here hx rfl (hb hby at_58) ?_
    show Steps p.tables e below (T6.setTop (mkF m 59 #[.val (.long q0), .second, .val (.int p1), .val (.int p2), .val (.int ((p2 &&& (7 : Int32)) % (7 : Int32))), .val (.int ((f0_e1 p2) % (((p2 &&& (7 : Int32)) % (7 : Int32)) + (1 : Int32)))), .val (.int (f0_s0_36001 p2)), .unset, .unset, .unset, .unset, .unset, .unset, .unset, .unset, .unset, .unset, .unset, .unset, .unset, .unset, .unset, .unset] [(.int (2 : Int32)), (.ref b4), (.ref b4)])) _
    refine XS.lloadN X6.here hx rfl (hb hby at_59) rfl ?_
    show Steps p.tables e below (T6.setTop (mkF m 60 #[.val (.long q0), .second, .val (.int p1), .val (.int p2), .val (.int ((p2 &&& (7 : Int32)) % (7 : Int32))), .val (.int ((f0_e1 p2) % (((p2 &&& (7 : Int32)) % (7 : Int32)) + (1 : Int32)))), .val (.int (f0_s0_36001 p2)), .unset, .unset, .unset, .unset, .unset, .unset, .unset, .unset, .unset, .unset, .unset, .unset, .unset, .unset, .unset, .unset] [(.long q0), (.int (2 : Int32)), (.ref b4), (.ref b4)])) _
    refine XS.bipush X6.here hx rfl (hb hby at_60) ?_
    show Steps p.tables e below (T6.setTop (mkF m 62 #[.val (.long q0), .second, .val (.int p1), .val (.int p2), .val (.int ((p2 &&& (7 : Int32)) % (7 : Int32))), .val (.int ((f0_e1 p2) % (((p2 &&& (7 : Int32)) % (7 : Int32)) + (1 : Int32)))), .val (.int (f0_s0_36001 p2)), .unset, .unset, .unset, .unset, .unset, .unset, .unset, .unset, .unset, .unset, .unset, .unset, .unset, .unset, .unset, .unset] [(.int (16 : Int32)), (.long q0), (.int (2 : Int32)), (.ref b4), (.ref b4)])) _
    refine XS.lushr X6.here hx rfl (hb hby at_62) rfl ?_
    show Steps p.tables e below (T6.setTop (mkF m 63 #[.val (.long q0), .second, .val (.int p1), .val (.int p2), .val (.int ((p2 &&& (7 : Int32)) % (7 : Int32))), .val (.int ((f0_e1 p2) % (((p2 &&& (7 : Int32)) % (7 : Int32)) + (1 : Int32)))), .val (.int (f0_s0_36001 p2)), .unset, .unset, .unset, .unset, .unset, .unset, .unset, .unset, .unset, .unset, .unset, .unset, .unset, .unset, .unset, .unset] [(.long ((q0.toUInt64 >>> ((16 : Int32) &&& 0x3f).toInt64.toUInt64).toInt64)), (.int (2 : Int32)), (.ref b4), (.ref b4)])) _
    refine XS.l2i X6.here hx rfl (hb hby at_63) rfl ?_
    show Steps p.tables e below (T6.setTop (mkF m 64 #[.val (.long q0), .second, .val (.int p1), .val (.int p2), .val (.int ((p2 &&& (7 : Int32)) % (7 : Int32))), .val (.int ((f0_e1 p2) % (((p2 &&& (7 : Int32)) % (7 : Int32)) + (1 : Int32)))), .val (.int (f0_s0_36001 p2)), .unset, .unset, .unset, .unset, .unset, .unset, .unset, .unset, .unset, .unset, .unset, .unset, .unset, .unset, .unset, .unset] [(.int (f0_e4 q0)), (.int (2 : Int32)), (.ref b4), (.ref b4)])) _
    refine XS.i2b X6.here hx rfl (hb hby at_64) rfl ?_
    show Steps p.tables e below (T6.setTop (mkF m 65 #[.val (.long q0), .second, .val (.int p1), .val (.int p2), .val (.int ((p2 &&& (7 : Int32)) % (7 : Int32))), .val (.int ((f0_e1 p2) % (((p2 &&& (7 : Int32)) % (7 : Int32)) + (1 : Int32)))), .val (.int (f0_s0_36001 p2)), .unset, .unset, .unset, .unset, .unset, .unset, .unset, .unset, .unset, .unset, .unset, .unset, .unset, .unset, .unset, .unset] [(.int ((f0_e4 q0).toInt8.toInt32)), (.int (2 : Int32)), (.ref b4), (.ref b4)])) _
    refine st7 _ ?_
    show Steps p.tables e below (T7.setTop (mkF m 66 #[.val (.long q0), .second, .val (.int p1), .val (.int p2), .val (.int ((p2 &&& (7 : Int32)) % (7 : Int32))), .val (.int ((f0_e1 p2) % (((p2 &&& (7 : Int32)) % (7 : Int32)) + (1 : Int32)))), .val (.int (f0_s0_36001 p2)), .unset, .unset, .unset, .unset, .unset, .unset, .unset, .unset, .unset, .unset, .unset, .unset, .unset, .unset, .unset, .unset] [(.ref b4)])) _
    refine XS.dup X7.here hx rfl (hb hby at_66) rfl rfl ?_
    show Steps p.tables e below (T7.setTop (mkF m 67 #[.val (.long q0), .second, .val (.int p1), .val (.int p2), .val (.int ((p2 &&& (7 : Int32)) % (7 : Int32))), .val (.int ((f0_e1 p2) % (((p2 &&& (7 : Int32)) % (7 : Int32)) + (1 : Int32)))), .val (.int (f0_s0_36001 p2)), .unset, .unset, .unset, .unset, .unset, .unset, .unset, .unset, .unset, .unset, .unset, .unset, .unset, .unset, .unset, .unset] [(.ref b4), (.ref b4)])) _
    refine XS.iconst X7.here hx rfl (hb hby at_67) ?_
    show Steps p.tables e below (T7.setTop (mkF m 68 #[.val (.long q0), .second, .val (.int p1), .val (.int p2), .val (.int ((p2 &&& (7 : Int32)) % (7 : Int32))), .val (.int ((f0_e1 p2) % (((p2 &&& (7 : Int32)) % (7 : Int32)) + (1 : Int32)))), .val (.int (f0_s0_36001 p2)), .unset, .unset, .unset, .unset, .unset, .unset, .unset, .unset, .unset, .unset, .unset, .unset, .unset, .unset, .unset, .unset] [(.int (3 : Int32)), (.ref b4), (.ref b4)])) _
    refine XS.lloadN X7.here hx rfl (hb hby at_68) rfl ?_
    show Steps p.tables e below (T7.setTop (mkF m 69 #[.val (.long q0), .second, .val (.int p1), .val (.int p2), .val (.int ((p2 &&& (7 : Int32)) % (7 : Int32))), .val (.int ((f0_e1 p2) % (((p2 &&& (7 : Int32)) % (7 : Int32)) + (1 : Int32)))), .val (.int (f0_s0_36001 p2)), .unset, .unset, .unset, .unset, .unset, .unset, .unset, .unset, .unset, .unset, .unset, .unset, .unset, .unset, .unset, .unset] [(.long q0), (.int (3 : Int32)), (.ref b4), (.ref b4)])) _
    refine XS.bipush X7.here hx rfl (hb hby at_69) ?_
    show Steps p.tables e below (T7.setTop (mkF m 71 #[.val (.long q0), .second, .val (.int p1), .val (.int p2), .val (.int ((p2 &&& (7 : Int32)) % (7 : Int32))), .val (.int ((f0_e1 p2) % (((p2 &&& (7 : Int32)) % (7 : Int32)) + (1 : Int32)))), .val (.int (f0_s0_36001 p2)), .unset, .unset, .unset, .unset, .unset, .unset, .unset, .unset, .unset, .unset, .unset, .unset, .unset, .unset, .unset, .unset] [(.int (24 : Int32)), (.long q0), (.int (3 : Int32)), (.ref b4), (.ref b4)])) _
    refine XS.lushr X7.here hx rfl (hb hby at_71) rfl ?_
    show Steps p.tables e below (T7.setTop (mkF m 72 #[.val (.long q0), .second, .val (.int p1), .val (.int p2), .val (.int ((p2 &&& (7 : Int32)) % (7 : Int32))), .val (.int ((f0_e1 p2) % (((p2 &&& (7 : Int32)) % (7 : Int32)) + (1 : Int32)))), .val (.int (f0_s0_36001 p2)), .unset, .unset, .unset, .unset, .unset, .unset, .unset, .unset, .unset, .unset, .unset, .unset, .unset, .unset, .unset, .unset] [(.long ((q0.toUInt64 >>> ((24 : Int32) &&& 0x3f).toInt64.toUInt64).toInt64)), (.int (3 : Int32)), (.ref b4), (.ref b4)])) _
    refine XS.l2i X7.here hx rfl (hb hby at_72) rfl ?_
    show Steps p.tables e below (T7.setTop (mkF m 73 #[.val (.long q0), .second, .val (.int p1), .val (.int p2), .val (.int ((p2 &&& (7 : Int32)) % (7 : Int32))), .val (.int ((f0_e1 p2) % (((p2 &&& (7 : Int32)) % (7 : Int32)) + (1 : Int32)))), .val (.int (f0_s0_36001 p2)), .unset, .unset, .unset, .unset, .unset, .unset, .unset, .unset, .unset, .unset, .unset, .unset, .unset, .unset, .unset, .unset] [(.int (f0_e5 q0)), (.int (3 : Int32)), (.ref b4), (.ref b4)])) _
    refine XS.i2b X7.here hx rfl (hb hby at_73) rfl ?_
    show Steps p.tables e below (T7.setTop (mkF m 74 #[.val (.long q0), .second, .val (.int p1), .val (.int p2), .val (.int ((p2 &&& (7 : Int32)) % (7 : Int32))), .val (.int ((f0_e1 p2) % (((p2 &&& (7 : Int32)) % (7 : Int32)) + (1 : Int32)))), .val (.int (f0_s0_36001 p2)), .unset, .unset, .unset, .unset, .unset, .unset, .unset, .unset, .unset, .unset, .unset, .unset, .unset, .unset, .unset, .unset] [(.int ((f0_e5 q0).toInt8.toInt32)), (.int (3 : Int32)), (.ref b4), (.ref b4)])) _
    refine st8 _ ?_
    show Steps p.tables e below (T8.setTop (mkF m 75 #[.val (.long q0), .second, .val (.int p1), .val (.int p2), .val (.int ((p2 &&& (7 : Int32)) % (7 : Int32))), .val (.int ((f0_e1 p2) % (((p2 &&& (7 : Int32)) % (7 : Int32)) + (1 : Int32)))), .val (.int (f0_s0_36001 p2)), .unset, .unset, .unset, .unset, .unset, .unset, .unset, .unset, .unset, .unset, .unset, .unset, .unset, .unset, .unset, .unset] [(.ref b4)])) _
    refine XS.dup X8.here hx rfl (hb hby at_75) rfl rfl ?_
    show Steps p.tables e below (T8.setTop (mkF m 76 #[.val (.long q0), .second, .val (.int p1), .val (.int p2), .val (.int ((p2 &&& (7 : Int32)) % (7 : Int32))), .val (.int ((f0_e1 p2) % (((p2 &&& (7 : Int32)) % (7 : Int32)) + (1 : Int32)))), .val (.int (f0_s0_36001 p2)), .unset, .unset, .unset, .unset, .unset, .unset, .unset, .unset, .unset, .unset, .unset, .unset, .unset, .unset, .unset, .unset] [(.ref b4), (.ref b4)])) _
    refine XS.iconst X8.here hx rfl (hb hby at_76) ?_
    show Steps p.tables e below (T8.setTop (mkF m 77 #[.val (.long q0), .second, .val (.int p1), .val (.int p2), .val (.int ((p2 &&& (7 : Int32)) % (7 : Int32))), .val (.int ((f0_e1 p2) % (((p2 &&& (7 : Int32)) % (7 : Int32)) + (1 : Int32)))), .val (.int (f0_s0_36001 p2)), .unset, .unset, .unset, .unset, .unset, .unset, .unset, .unset, .unset, .unset, .unset, .unset, .unset, .unset, .unset, .unset] [(.int (4 : Int32)), (.ref b4), (.ref b4)])) _
    refine XS.lloadN X8.here hx rfl (hb hby at_77) rfl ?_
    show Steps p.tables e below (T8.setTop (mkF m 78 #[.val (.long q0), .second, .val (.int p1), .val (.int p2), .val (.int ((p2 &&& (7 : Int32)) % (7 : Int32))), .val (.int ((f0_e1 p2) % (((p2 &&& (7 : Int32)) % (7 : Int32)) + (1 : Int32)))), .val (.int (f0_s0_36001 p2)), .unset, .unset, .unset, .unset, .unset, .unset, .unset, .unset, .unset, .unset, .unset, .unset, .unset, .unset, .unset, .unset] [(.long q0), (.int (4 : Int32)), (.ref b4), (.ref b4)])) _
    refine XS.bipush X8.here hx rfl (hb hby at_78) ?_
    show Steps p.tables e below (T8.setTop (mkF m 80 #[.val (.long q0), .second, .val (.int p1), .val (.int p2), .val (.int ((p2 &&& (7 : Int32)) % (7 : Int32))), .val (.int ((f0_e1 p2) % (((p2 &&& (7 : Int32)) % (7 : Int32)) + (1 : Int32)))), .val (.int (f0_s0_36001 p2)), .unset, .unset, .unset, .unset, .unset, .unset, .unset, .unset, .unset, .unset, .unset, .unset, .unset, .unset, .unset, .unset] [(.int (32 : Int32)), (.long q0), (.int (4 : Int32)), (.ref b4), (.ref b4)])) _
    refine XS.lushr X8.here hx rfl (hb hby at_80) rfl ?_
    show Steps p.tables e below (T8.setTop (mkF m 81 #[.val (.long q0), .second, .val (.int p1), .val (.int p2), .val (.int ((p2 &&& (7 : Int32)) % (7 : Int32))), .val (.int ((f0_e1 p2) % (((p2 &&& (7 : Int32)) % (7 : Int32)) + (1 : Int32)))), .val (.int (f0_s0_36001 p2)), .unset, .unset, .unset, .unset, .unset, .unset, .unset, .unset, .unset, .unset, .unset, .unset, .unset, .unset, .unset, .unset] [(.long ((q0.toUInt64 >>> ((32 : Int32) &&& 0x3f).toInt64.toUInt64).toInt64)), (.int (4 : Int32)), (.ref b4), (.ref b4)])) _
    refine XS.l2i X8.here hx rfl (hb hby at_81) rfl ?_
    show Steps p.tables e below (T8.setTop (mkF m 82 #[.val (.long q0), .second, .val (.int p1), .val (.int p2), .val (.int ((p2 &&& (7 : Int32)) % (7 : Int32))), .val (.int ((f0_e1 p2) % (((p2 &&& (7 : Int32)) % (7 : Int32)) + (1 : Int32)))), .val (.int (f0_s0_36001 p2)), .unset, .unset, .unset, .unset, .unset, .unset, .unset, .unset, .unset, .unset, .unset, .unset, .unset, .unset, .unset, .unset] [(.int (f0_e6 q0)), (.int (4 : Int32)), (.ref b4), (.ref b4)])) _
    refine XS.i2b X8.here hx rfl (hb hby at_82) rfl ?_
    show Steps p.tables e below (T8.setTop (mkF m 83 #[.val (.long q0), .second, .val (.int p1), .val (.int p2), .val (.int ((p2 &&& (7 : Int32)) % (7 : Int32))), .val (.int ((f0_e1 p2) % (((p2 &&& (7 : Int32)) % (7 : Int32)) + (1 : Int32)))), .val (.int (f0_s0_36001 p2)), .unset, .unset, .unset, .unset, .unset, .unset, .unset, .unset, .unset, .unset, .unset, .unset, .unset, .unset, .unset, .unset] [(.int ((f0_e6 q0).toInt8.toInt32)), (.int (4 : Int32)), (.ref b4), (.ref b4)])) _
    refine st9 _ ?_
    show Steps p.tables e below (T9.setTop (mkF m 84 #[.val (.long q0), .second, .val (.int p1), .val (.int p2), .val (.int ((p2 &&& (7 : Int32)) % (7 : Int32))), .val (.int ((f0_e1 p2) % (((p2 &&& (7 : Int32)) % (7 : Int32)) + (1 : Int32)))), .val (.int (f0_s0_36001 p2)), .unset, .unset, .unset, .unset, .unset, .unset, .unset, .unset, .unset, .unset, .unset, .unset, .unset, .unset, .unset, .unset] [(.ref b4)])) _
    refine XS.dup X9.here hx rfl (hb hby at_84) rfl rfl ?_
    show Steps p.tables e below (T9.setTop (mkF m 85 #[.val (.long q0), .second, .val (.int p1), .val (.int p2), .val (.int ((p2 &&& (7 : Int32)) % (7 : Int32))), .val (.int ((f0_e1 p2) % (((p2 &&& (7 : Int32)) % (7 : Int32)) + (1 : Int32)))), .val (.int (f0_s0_36001 p2)), .unset, .unset, .unset, .unset, .unset, .unset, .unset, .unset, .unset, .unset, .unset, .unset, .unset, .unset, .unset, .unset] [(.ref b4), (.ref b4)])) _
    refine XS.iconst X9.here hx rfl (hb hby at_85) ?_
    show Steps p.tables e below (T9.setTop (mkF m 86 #[.val (.long q0), .second, .val (.int p1), .val (.int p2), .val (.int ((p2 &&& (7 : Int32)) % (7 : Int32))), .val (.int ((f0_e1 p2) % (((p2 &&& (7 : Int32)) % (7 : Int32)) + (1 : Int32)))), .val (.int (f0_s0_36001 p2)), .unset, .unset, .unset, .unset, .unset, .unset, .unset, .unset, .unset, .unset, .unset, .unset, .unset, .unset, .unset, .unset] [(.int (5 : Int32)), (.ref b4), (.ref b4)])) _
    refine XS.lloadN X9.here hx rfl (hb hby at_86) rfl ?_
    show Steps p.tables e below (T9.setTop (mkF m 87 #[.val (.long q0), .second, .val (.int p1), .val (.int p2), .val (.int ((p2 &&& (7 : Int32)) % (7 : Int32))), .val (.int ((f0_e1 p2) % (((p2 &&& (7 : Int32)) % (7 : Int32)) + (1 : Int32)))), .val (.int (f0_s0_36001 p2)), .unset, .unset, .unset, .unset, .unset, .unset, .unset, .unset, .unset, .unset, .unset, .unset, .unset, .unset, .unset, .unset] [(.long q0), (.int (5 : Int32)), (.ref b4), (.ref b4)])) _
    refine XS.bipush X9.here hx rfl (hb hby at_87) ?_
    show Steps p.tables e below (T9.setTop (mkF m 89 #[.val (.long q0), .second, .val (.int p1), .val (.int p2), .val (.int ((p2 &&& (7 : Int32)) % (7 : Int32))), .val (.int ((f0_e1 p2) % (((p2 &&& (7 : Int32)) % (7 : Int32)) + (1 : Int32)))), .val (.int (f0_s0_36001 p2)), .unset, .unset, .unset, .unset, .unset, .unset, .unset, .unset, .unset, .unset, .unset, .unset, .unset, .unset, .unset, .unset] [(.int (40 : Int32)), (.long q0), (.int (5 : Int32)), (.ref b4), (.ref b4)])) _
    refine XS.lushr X9.here hx rfl (hb hby at_89) rfl ?_
    show Steps p.tables e below (T9.setTop (mkF m 90 #[.val (.long q0), .second, .val (.int p1), .val (.int p2), .val (.int ((p2 &&& (7 : Int32)) % (7 : Int32))), .val (.int ((f0_e1 p2) % (((p2 &&& (7 : Int32)) % (7 : Int32)) + (1 : Int32)))), .val (.int (f0_s0_36001 p2)), .unset, .unset, .unset, .unset, .unset, .unset, .unset, .unset, .unset, .unset, .unset, .unset, .unset, .unset, .unset, .unset] [(.long ((q0.toUInt64 >>> ((40 : Int32) &&& 0x3f).toInt64.toUInt64).toInt64)), (.int (5 : Int32)), (.ref b4), (.ref b4)])) _
    refine XS.l2i X9.here hx rfl (hb hby at_90) rfl ?_
    show Steps p.tables e below (T9.setTop (mkF m 91 #[.val (.long q0), .second, .val (.int p1), .val (.int p2), .val (.int ((p2 &&& (7 : Int32)) % (7 : Int32))), .val (.int ((f0_e1 p2) % (((p2 &&& (7 : Int32)) % (7 : Int32)) + (1 : Int32)))), .val (.int (f0_s0_36001 p2)), .unset, .unset, .unset, .unset, .unset, .unset, .unset, .unset, .unset, .unset, .unset, .unset, .unset, .unset, .unset, .unset] [(.int (f0_e7 q0)), (.int (5 : Int32)), (.ref b4), (.ref b4)])) _
    refine XS.i2b X9.here hx rfl (hb hby at_91) rfl ?_
    show Steps p.tables e below (T9.setTop (mkF m 92 #[.val (.long q0), .second, .val (.int p1), .val (.int p2), .val (.int ((p2 &&& (7 : Int32)) % (7 : Int32))), .val (.int ((f0_e1 p2) % (((p2 &&& (7 : Int32)) % (7 : Int32)) + (1 : Int32)))), .val (.int (f0_s0_36001 p2)), .unset, .unset, .unset, .unset, .unset, .unset, .unset, .unset, .unset, .unset, .unset, .unset, .unset, .unset, .unset, .unset] [(.int ((f0_e7 q0).toInt8.toInt32)), (.int (5 : Int32)), (.ref b4), (.ref b4)])) _
    refine st10 _ ?_
    show Steps p.tables e below (T10.setTop (mkF m 93 #[.val (.long q0), .second, .val (.int p1), .val (.int p2), .val (.int ((p2 &&& (7 : Int32)) % (7 : Int32))), .val (.int ((f0_e1 p2) % (((p2 &&& (7 : Int32)) % (7 : Int32)) + (1 : Int32)))), .val (.int (f0_s0_36001 p2)), .unset, .unset, .unset, .unset, .unset, .unset, .unset, .unset, .unset, .unset, .unset, .unset, .unset, .unset, .unset, .unset] [(.ref b4)])) _
    refine XS.astore X10.here hx rfl (hb hby at_93) rfl rfl (l' := #[.val (.long q0), .second, .val (.int p1), .val (.int p2), .val (.int ((p2 &&& (7 : Int32)) % (7 : Int32))), .val (.int ((f0_e1 p2) % (((p2 &&& (7 : Int32)) % (7 : Int32)) + (1 : Int32)))), .val (.int (f0_s0_36001 p2)), .val (.ref b4), .unset, .unset, .unset, .unset, .unset, .unset, .unset, .unset, .unset, .unset, .unset, .unset, .unset, .unset, .unset]) rfl ?_
    show Steps p.tables e below (T10.setTop (mkF m 95 #[.val (.long q0), .second, .val (.int p1), .val (.int p2), .val (.int ((p2 &&& (7 : Int32)) % (7 : Int32))), .val (.int ((f0_e1 p2) % (((p2 &&& (7 : Int32)) % (7 : Int32)) + (1 : Int32)))), .val (.int (f0_s0_36001 p2)), .val (.ref b4), .unset, .unset, .unset, .unset, .unset, .unset, .unset, .unset, .unset, .unset, .unset, .unset, .unset, .unset, .unset] [])) _
    refine st11 _ ?_
    show Steps p.tables e below (T11.setTop (mkF m 98 #[.val (.long q0), .second, .val (.int p1), .val (.int p2), .val (.int ((p2 &&& (7 : Int32)) % (7 : Int32))), .val (.int ((f0_e1 p2) % (((p2 &&& (7 : Int32)) % (7 : Int32)) + (1 : Int32)))), .val (.int (f0_s0_36001 p2)), .val (.ref b4), .unset, .unset, .unset, .unset, .unset, .unset, .unset, .unset, .unset, .unset, .unset, .unset, .unset, .unset, .unset] [(.ref b11)])) _
    refine XS.dup X11.here hx rfl (hb hby at_98) rfl rfl ?_
    show Steps p.tables e below (T11.setTop (mkF m 99 #[.val (.long q0), .second, .val (.int p1), .val (.int p2), .val (.int ((p2 &&& (7 : Int32)) % (7 : Int32))), .val (.int ((f0_e1 p2) % (((p2 &&& (7 : Int32)) % (7 : Int32)) + (1 : Int32)))), .val (.int (f0_s0_36001 p2)), .val (.ref b4), .unset, .unset, .unset, .unset, .unset, .unset, .unset, .unset, .unset, .unset, .unset, .unset, .unset, .unset, .unset] [(.ref b11), (.ref b11)])) _
    refine st12.trans ?_
    show Steps p.tables e below (T12.setTop (mkF m 102 #[.val (.long q0), .second, .val (.int p1), .val (.int p2), .val (.int ((p2 &&& (7 : Int32)) % (7 : Int32))), .val (.int ((f0_e1 p2) % (((p2 &&& (7 : Int32)) % (7 : Int32)) + (1 : Int32)))), .val (.int (f0_s0_36001 p2)), .val (.ref b4), .unset, .unset, .unset, .unset, .unset, .unset, .unset, .unset, .unset, .unset, .unset, .unset, .unset, .unset, .unset] [(.ref b11)])) _
    refine XS.astore X12.here hx rfl (hb hby at_102) rfl rfl (l' := #[.val (.long q0), .second, .val (.int p1), .val (.int p2), .val (.int ((p2 &&& (7 : Int32)) % (7 : Int32))), .val (.int ((f0_e1 p2) % (((p2 &&& (7 : Int32)) % (7 : Int32)) + (1 : Int32)))), .val (.int (f0_s0_36001 p2)), .val (.ref b4), .val (.ref b11), .unset, .unset, .unset, .unset, .unset, .unset, .unset, .unset, .unset, .unset, .unset, .unset, .unset, .unset]) rfl ?_
    show Steps p.tables e below (T12.setTop (mkF m 104 #[.val (.long q0), .second, .val (.int p1), .val (.int p2), .val (.int ((p2 &&& (7 : Int32)) % (7 : Int32))), .val (.int ((f0_e1 p2) % (((p2 &&& (7 : Int32)) % (7 : Int32)) + (1 : Int32)))), .val (.int (f0_s0_36001 p2)), .val (.ref b4), .val (.ref b11), .unset, .unset, .unset, .unset, .unset, .unset, .unset, .unset, .unset, .unset, .unset, .unset, .unset, .unset] [])) _
    refine XS.aload X12.here hx rfl (hb hby at_104) rfl rfl ?_
    show Steps p.tables e below (T12.setTop (mkF m 106 #[.val (.long q0), .second, .val (.int p1), .val (.int p2), .val (.int ((p2 &&& (7 : Int32)) % (7 : Int32))), .val (.int ((f0_e1 p2) % (((p2 &&& (7 : Int32)) % (7 : Int32)) + (1 : Int32)))), .val (.int (f0_s0_36001 p2)), .val (.ref b4), .val (.ref b11), .unset, .unset, .unset, .unset, .unset, .unset, .unset, .unset, .unset, .unset, .unset, .unset, .unset, .unset] [(.ref b11)])) _
    refine XS.aload X12.here hx rfl (hb hby at_106) rfl rfl ?_
    show Steps p.tables e below (T12.setTop (mkF m 108 #[.val (.long q0), .second, .val (.int p1), .val (.int p2), .val (.int ((p2 &&& (7 : Int32)) % (7 : Int32))), .val (.int ((f0_e1 p2) % (((p2 &&& (7 : Int32)) % (7 : Int32)) + (1 : Int32)))), .val (.int (f0_s0_36001 p2)), .val (.ref b4), .val (.ref b11), .unset, .unset, .unset, .unset, .unset, .unset, .unset, .unset, .unset, .unset, .unset, .unset, .unset, .unset] [(.ref b4), (.ref b11)])) _
    refine XS.iconst X12.here hx rfl (hb hby at_108) ?_
    show Steps p.tables e below (T12.setTop (mkF m 109 #[.val (.long q0), .second, .val (.int p1), .val (.int p2), .val (.int ((p2 &&& (7 : Int32)) % (7 : Int32))), .val (.int ((f0_e1 p2) % (((p2 &&& (7 : Int32)) % (7 : Int32)) + (1 : Int32)))), .val (.int (f0_s0_36001 p2)), .val (.ref b4), .val (.ref b11), .unset, .unset, .unset, .unset, .unset, .unset, .unset, .unset, .unset, .unset, .unset, .unset, .unset, .unset] [(.int (0 : Int32)), (.ref b4), (.ref b11)])) _
    refine XS.iload X12.here hx rfl (hb hby at_109) rfl ?_
    show Steps p.tables e below (T12.setTop (mkF m 111 #[.val (.long q0), .second, .val (.int p1), .val (.int p2), .val (.int ((p2 &&& (7 : Int32)) % (7 : Int32))), .val (.int ((f0_e1 p2) % (((p2 &&& (7 : Int32)) % (7 : Int32)) + (1 : Int32)))), .val (.int (f0_s0_36001 p2)), .val (.ref b4), .val (.ref b11), .unset, .unset, .unset, .unset, .unset, .unset, .unset, .unset, .unset, .unset, .unset, .unset, .unset, .unset] [(.int ((f0_e1 p2) % (((p2 &&& (7 : Int32)) % (7 : Int32)) + (1 : Int32)))), (.int (0 : Int32)), (.ref b4), (.ref b11)])) _
    refine st13.trans ?_
    show Steps p.tables e below (T13.setTop (mkF m 114 #[.val (.long q0), .second, .val (.int p1), .val (.int p2), .val (.int ((p2 &&& (7 : Int32)) % (7 : Int32))), .val (.int ((f0_e1 p2) % (((p2 &&& (7 : Int32)) % (7 : Int32)) + (1 : Int32)))), .val (.int (f0_s0_36001 p2)), .val (.ref b4), .val (.ref b11), .unset, .unset, .unset, .unset, .unset, .unset, .unset, .unset, .unset, .unset, .unset, .unset, .unset, .unset] [])) _
    refine XS.iload X13.here hx rfl (hb hby at_114) rfl ?_
    exact kt)
  by_cases hc15 : (f0_s0_36001 p2) = (0 : Int32)
  · obtain ⟨cq16, kq16, q16a, q16b, q16c⟩ := isOf hZ rfl E13q
    obtain ⟨_, _, ⟨T16, L16, k16, n16⟩, -, X16, ⟨Lc16, hQ16, l16, y16, z16⟩, st16⟩ := X13.virtualBack hx (y := (⟨"com/example/wireshape/wireshape/model/InternetChecksum", "update", "([BII)V"⟩ : MethodName)) (z := (⟨"com/example/wireshape/wireshape/model/InternetChecksum", "update", "([BII)V"⟩ : MethodName)) hown (mvT hZ (hw _ (List.mem_of_getElem? (i := 10) rfl))) (mvT hZ (hw _ (List.mem_of_getElem? (i := 11) rfl))) (notFace_of_selects (args := #[]) (mvT hZ (hw _ (List.mem_of_getElem? (i := 13) rfl)))) (mvT hZ (hw _ (List.mem_of_getElem? (i := 13) rfl))) (mvT hZ (hw _ (List.mem_of_getElem? (i := 12) rfl))) (by decide) (backOf (W := 0) (rm3 l Z a0 hw [] b11 b4 ((f0_e1 p2) % (((p2 &&& (7 : Int32)) % (7 : Int32)) + (1 : Int32))) (f0_e10 p2) (f0_e8 q0 p2) (f0_e9 q0 p2) k4 (own_vb q0) T13.heap n0 Zz13 E13q gn_b11 F13n_odd F13n_sum V_b4_13 ne_b4_b11 (own_l2 p2).1 (own_l2 p2).2.1 (own_l2 p2).2.2 (own_sb1 q0 p1 p2).1 (own_sb1 q0 p1 p2).2) hZ (hw _ (List.mem_of_getElem? (i := 14) rfl)) (hw _ (List.mem_of_getElem? (i := 3) rfl)) (by decide) (by decide)) q16a q16c (g := (mkF m 136 #[.val (.long q0), .second, .val (.int p1), .val (.int p2), .val (.int ((p2 &&& (7 : Int32)) % (7 : Int32))), .val (.int ((f0_e1 p2) % (((p2 &&& (7 : Int32)) % (7 : Int32)) + (1 : Int32)))), .val (.int (f0_s0_36001 p2)), .val (.ref b4), .val (.ref b11), .unset, .unset, .unset, .unset, .unset, .unset, .unset, .unset, .unset, .unset, .unset, .unset, .unset, .unset] [(.int (f0_e10 p2)), (.int ((f0_e1 p2) % (((p2 &&& (7 : Int32)) % (7 : Int32)) + (1 : Int32)))), (.ref b4), (.ref b11)])) rfl (by rw [hml]; rfl) (Steps.refl _) (argsL := [(.ref b4), (.int ((f0_e1 p2) % (((p2 &&& (7 : Int32)) % (7 : Int32)) + (1 : Int32)))), (.int (f0_e10 p2))]) (rest := []) (lenOf pd_6 rfl) rfl (by show 2 * 0 + _ ≤ _; exact Nat.le_of_eq rfl) (hb hby at_136) (fun _ _ => ⟨rfl, rfl, (by decide : 2 + 0 ≤ _), (by decide : 8 + 0 ≤ _)⟩)
    dsimp only [Pt.U, Pt.locs, Pt.cells, Pt.slots] at X16 l16 y16 z16 st16 hQ16
    obtain rfl : k16 = 2 := y16
    obtain rfl : n16 = 8 := z16
    obtain ⟨rfl, N16q, K16q, E16q, F16q_odd, F16q_sum⟩ := hQ16
    have V_b4_16 := V_b4_13.keep K16q (ninS ne_b4_b11 nin0)
    have F16n_odd : Fld Z T16.heap b11 "com/example/wireshape/wireshape/model/InternetChecksum" "odd" "Z" (.int (f0_e11 q0 p2)) := F16q_odd
    have F16n_sum : Fld Z T16.heap b11 "com/example/wireshape/wireshape/model/InternetChecksum" "sum" "J" (.long (f0_e12 q0 p2)) := F16q_sum
    have Zz16 := Nat.le_trans Zz13 K16q.1
    have K16 : Keep h0 T16.heap [] := K13.trans K16q (allS (Or.inr sz_b11) all0)
    have N16 : Fr n0 L16 := by rw [l16]; exact Fr.app N13 N16q
    obtain ⟨cq17, kq17, q17a, q17b, q17c⟩ := isOf hZ rfl E16q
    obtain ⟨_, _, ⟨T17, L17, k17, n17⟩, -, X17, ⟨Lc17, hQ17, l17, y17, z17⟩, st17⟩ := X16.virtualBack hx (y := (⟨"com/example/wireshape/wireshape/model/InternetChecksum", "getValue", "()J"⟩ : MethodName)) (z := (⟨"com/example/wireshape/wireshape/model/InternetChecksum", "getValue", "()J"⟩ : MethodName)) hown (mvT hZ (hw _ (List.mem_of_getElem? (i := 35) rfl))) (mvT hZ (hw _ (List.mem_of_getElem? (i := 36) rfl))) (notFace_of_selects (args := #[]) (mvT hZ (hw _ (List.mem_of_getElem? (i := 38) rfl)))) (mvT hZ (hw _ (List.mem_of_getElem? (i := 38) rfl))) (mvT hZ (hw _ (List.mem_of_getElem? (i := 37) rfl))) (by decide) (backOf (W := 0) (rm8 l Z a0 hw [] b11 (f0_e11 q0 p2) (f0_e12 q0 p2) T16.heap n0 Zz16 E16q gn_b11 F16n_odd F16n_sum) hZ (hw _ (List.mem_of_getElem? (i := 39) rfl)) (hw _ (List.mem_of_getElem? (i := 3) rfl)) (by decide) (by decide)) q17a q17c (g := (mkF m 141 #[.val (.long q0), .second, .val (.int p1), .val (.int p2), .val (.int ((p2 &&& (7 : Int32)) % (7 : Int32))), .val (.int ((f0_e1 p2) % (((p2 &&& (7 : Int32)) % (7 : Int32)) + (1 : Int32)))), .val (.int (f0_s0_36001 p2)), .val (.ref b4), .val (.ref b11), .unset, .unset, .unset, .unset, .unset, .unset, .unset, .unset, .unset, .unset, .unset, .unset, .unset, .unset] [(.ref b11)])) rfl (by rw [hml]; rfl) (Steps.refl _) (argsL := []) (rest := []) (lenOf pd_7 rfl) rfl (by show 2 * 0 + _ ≤ _; exact Nat.le_of_eq rfl) (hb hby at_141) (fun _ _ => ⟨rfl, rfl, (by decide : 2 + 0 ≤ _), (by decide : 8 + 0 ≤ _)⟩)
    dsimp only [Pt.U, Pt.locs, Pt.cells, Pt.slots] at X17 l17 y17 z17 st17 hQ17
    obtain rfl : k17 = 2 := y17
    obtain rfl : n17 = 8 := z17
    obtain ⟨rfl, N17q, e17⟩ := hQ17
    have N17 : Fr n0 L17 := by rw [l17]; exact Fr.app N16 N17q
    obtain ⟨_, _, ⟨T18, L18, k18, n18⟩, -, X18, ⟨Lc18, hQ18, l18, y18, z18⟩, st18⟩ := Jvm.LawKit.callS X17 hx (y := (⟨"com/example/wireshape/wireshape/model/InternetChecksumGetValuePinLaw", "at", "(IJIIZI)I"⟩ : MethodName)) hown (mvT hZ (hw _ (List.mem_of_getElem? (i := 42) rfl))) (mvT hZ (hw _ (List.mem_of_getElem? (i := 43) rfl))) (mvT hZ (hw _ (List.mem_of_getElem? (i := 44) rfl))) (mvT hZ (hw _ (List.mem_of_getElem? (i := 45) rfl))) (by decide) (backOf (W := 0) (rm9 l Z a0 hw [] (0 : Int32) q0 ((f0_e1 p2) % (((p2 &&& (7 : Int32)) % (7 : Int32)) + (1 : Int32))) ((p2 &&& (7 : Int32)) % (7 : Int32)) (f0_s0_36001 p2) p1 T16.heap n0 Zz16) hZ (hw _ (List.mem_of_getElem? (i := 45) rfl)) (hw _ (List.mem_of_getElem? (i := 44) rfl)) (by decide) (by decide)) (g := (mkF m 155 #[.val (.long q0), .second, .val (.int p1), .val (.int p2), .val (.int ((p2 &&& (7 : Int32)) % (7 : Int32))), .val (.int ((f0_e1 p2) % (((p2 &&& (7 : Int32)) % (7 : Int32)) + (1 : Int32)))), .val (.int (f0_s0_36001 p2)), .val (.ref b4), .val (.ref b11), .val (.long (f8 (f0_e11 q0 p2) (f0_e12 q0 p2))), .second, .unset, .unset, .unset, .unset, .unset, .unset, .unset, .unset, .unset, .unset, .unset, .unset] [(.int p1), (.int (f0_s0_36001 p2)), (.int ((p2 &&& (7 : Int32)) % (7 : Int32))), (.int ((f0_e1 p2) % (((p2 &&& (7 : Int32)) % (7 : Int32)) + (1 : Int32)))), (.long q0), (.int (0 : Int32))])) rfl (by rw [hml]; rfl) (argsL := [(.int (0 : Int32)), (.long q0), (.int ((f0_e1 p2) % (((p2 &&& (7 : Int32)) % (7 : Int32)) + (1 : Int32)))), (.int ((p2 &&& (7 : Int32)) % (7 : Int32))), (.int (f0_s0_36001 p2)), (.int p1)]) (rest := []) (lenOf pd_8 rfl) rfl (by show 2 * 0 + _ ≤ _; exact Nat.le_of_eq rfl) (hb hby at_155) (fun _ _ => ⟨rfl, e17, (by decide : 2 + 0 ≤ _), (by decide : 8 + 0 ≤ _)⟩)
    dsimp only [Pt.U, Pt.locs, Pt.cells, Pt.slots] at X18 l18 y18 z18 st18 hQ18
    obtain rfl : k18 = 2 := y18
    obtain rfl : n18 = 8 := z18
    obtain ⟨rfl, N18q, e18⟩ := hQ18
    have N18 : Fr n0 L18 := by rw [l18]; exact Fr.app N17 N18q
    obtain ⟨_, _, ⟨T19, L19, k19, n19⟩, -, X19, ⟨Lc19, hQ19, l19, y19, z19⟩, st19⟩ := Jvm.LawKit.callS X18 hx (y := (⟨"com/example/wireshape/wireshape/model/InternetChecksumGetValuePinLaw", "at", "(IJIIZI)I"⟩ : MethodName)) hown (mvT hZ (hw _ (List.mem_of_getElem? (i := 42) rfl))) (mvT hZ (hw _ (List.mem_of_getElem? (i := 43) rfl))) (mvT hZ (hw _ (List.mem_of_getElem? (i := 44) rfl))) (mvT hZ (hw _ (List.mem_of_getElem? (i := 45) rfl))) (by decide) (backOf (W := 1) (rm9 l Z a0 hw [] (1 : Int32) q0 ((f0_e1 p2) % (((p2 &&& (7 : Int32)) % (7 : Int32)) + (1 : Int32))) ((p2 &&& (7 : Int32)) % (7 : Int32)) (f0_s0_36001 p2) p1 T16.heap n0 Zz16) hZ (hw _ (List.mem_of_getElem? (i := 45) rfl)) (hw _ (List.mem_of_getElem? (i := 44) rfl)) (by decide) (by decide)) (g := (mkF m 170 #[.val (.long q0), .second, .val (.int p1), .val (.int p2), .val (.int ((p2 &&& (7 : Int32)) % (7 : Int32))), .val (.int ((f0_e1 p2) % (((p2 &&& (7 : Int32)) % (7 : Int32)) + (1 : Int32)))), .val (.int (f0_s0_36001 p2)), .val (.ref b4), .val (.ref b11), .val (.long (f8 (f0_e11 q0 p2) (f0_e12 q0 p2))), .second, .unset, .unset, .unset, .unset, .unset, .unset, .unset, .unset, .unset, .unset, .unset, .unset] [(.int p1), (.int (f0_s0_36001 p2)), (.int ((p2 &&& (7 : Int32)) % (7 : Int32))), (.int ((f0_e1 p2) % (((p2 &&& (7 : Int32)) % (7 : Int32)) + (1 : Int32)))), (.long q0), (.int (1 : Int32)), (.int ((f0_e13 q0 p1 p2) <<< ((8 : Int32) &&& 31)))])) rfl (by rw [hml]; rfl) (argsL := [(.int (1 : Int32)), (.long q0), (.int ((f0_e1 p2) % (((p2 &&& (7 : Int32)) % (7 : Int32)) + (1 : Int32)))), (.int ((p2 &&& (7 : Int32)) % (7 : Int32))), (.int (f0_s0_36001 p2)), (.int p1)]) (rest := [(.int ((f0_e13 q0 p1 p2) <<< ((8 : Int32) &&& 31)))]) (lenOf pd_8 rfl) rfl (by show 2 * 0 + _ ≤ _; exact Nat.le_of_eq rfl) (hb hby at_170) (fun _ _ => ⟨rfl, e18, (by decide : 2 + 0 ≤ _), (by decide : 8 + 0 ≤ _)⟩)
    dsimp only [Pt.U, Pt.locs, Pt.cells, Pt.slots] at X19 l19 y19 z19 st19 hQ19
    obtain rfl : k19 = 2 := y19
    obtain rfl : n19 = 8 := z19
    obtain ⟨rfl, N19q, e19⟩ := hQ19
    have N19 : Fr n0 L19 := by rw [l19]; exact Fr.app N18 N19q
    obtain ⟨_, _, ⟨T20, L20, k20, n20⟩, -, X20, ⟨Lc20, hQ20, l20, y20, z20⟩, st20⟩ := Jvm.LawKit.callS X19 hx (y := (⟨"com/example/wireshape/wireshape/model/InternetChecksumGetValuePinLaw", "at", "(IJIIZI)I"⟩ : MethodName)) hown (mvT hZ (hw _ (List.mem_of_getElem? (i := 42) rfl))) (mvT hZ (hw _ (List.mem_of_getElem? (i := 43) rfl))) (mvT hZ (hw _ (List.mem_of_getElem? (i := 44) rfl))) (mvT hZ (hw _ (List.mem_of_getElem? (i := 45) rfl))) (by decide) (backOf (W := 0) (rm9 l Z a0 hw [] (2 : Int32) q0 ((f0_e1 p2) % (((p2 &&& (7 : Int32)) % (7 : Int32)) + (1 : Int32))) ((p2 &&& (7 : Int32)) % (7 : Int32)) (f0_s0_36001 p2) p1 T16.heap n0 Zz16) hZ (hw _ (List.mem_of_getElem? (i := 45) rfl)) (hw _ (List.mem_of_getElem? (i := 44) rfl)) (by decide) (by decide)) (g := (mkF m 186 #[.val (.long q0), .second, .val (.int p1), .val (.int p2), .val (.int ((p2 &&& (7 : Int32)) % (7 : Int32))), .val (.int ((f0_e1 p2) % (((p2 &&& (7 : Int32)) % (7 : Int32)) + (1 : Int32)))), .val (.int (f0_s0_36001 p2)), .val (.ref b4), .val (.ref b11), .val (.long (f8 (f0_e11 q0 p2) (f0_e12 q0 p2))), .second, .val (.long (f0_e15 q0 p1 p2)), .second, .unset, .unset, .unset, .unset, .unset, .unset, .unset, .unset, .unset, .unset] [(.int p1), (.int (f0_s0_36001 p2)), (.int ((p2 &&& (7 : Int32)) % (7 : Int32))), (.int ((f0_e1 p2) % (((p2 &&& (7 : Int32)) % (7 : Int32)) + (1 : Int32)))), (.long q0), (.int (2 : Int32))])) rfl (by rw [hml]; rfl) (argsL := [(.int (2 : Int32)), (.long q0), (.int ((f0_e1 p2) % (((p2 &&& (7 : Int32)) % (7 : Int32)) + (1 : Int32)))), (.int ((p2 &&& (7 : Int32)) % (7 : Int32))), (.int (f0_s0_36001 p2)), (.int p1)]) (rest := []) (lenOf pd_8 rfl) rfl (by show 2 * 0 + _ ≤ _; exact Nat.le_of_eq rfl) (hb hby at_186) (fun _ _ => ⟨rfl, e19, (by decide : 2 + 0 ≤ _), (by decide : 8 + 0 ≤ _)⟩)
    dsimp only [Pt.U, Pt.locs, Pt.cells, Pt.slots] at X20 l20 y20 z20 st20 hQ20
    obtain rfl : k20 = 2 := y20
    obtain rfl : n20 = 8 := z20
    obtain ⟨rfl, N20q, e20⟩ := hQ20
    have N20 : Fr n0 L20 := by rw [l20]; exact Fr.app N19 N20q
    obtain ⟨_, _, ⟨T21, L21, k21, n21⟩, -, X21, ⟨Lc21, hQ21, l21, y21, z21⟩, st21⟩ := Jvm.LawKit.callS X20 hx (y := (⟨"com/example/wireshape/wireshape/model/InternetChecksumGetValuePinLaw", "at", "(IJIIZI)I"⟩ : MethodName)) hown (mvT hZ (hw _ (List.mem_of_getElem? (i := 42) rfl))) (mvT hZ (hw _ (List.mem_of_getElem? (i := 43) rfl))) (mvT hZ (hw _ (List.mem_of_getElem? (i := 44) rfl))) (mvT hZ (hw _ (List.mem_of_getElem? (i := 45) rfl))) (by decide) (backOf (W := 1) (rm9 l Z a0 hw [] (3 : Int32) q0 ((f0_e1 p2) % (((p2 &&& (7 : Int32)) % (7 : Int32)) + (1 : Int32))) ((p2 &&& (7 : Int32)) % (7 : Int32)) (f0_s0_36001 p2) p1 T16.heap n0 Zz16) hZ (hw _ (List.mem_of_getElem? (i := 45) rfl)) (hw _ (List.mem_of_getElem? (i := 44) rfl)) (by decide) (by decide)) (g := (mkF m 201 #[.val (.long q0), .second, .val (.int p1), .val (.int p2), .val (.int ((p2 &&& (7 : Int32)) % (7 : Int32))), .val (.int ((f0_e1 p2) % (((p2 &&& (7 : Int32)) % (7 : Int32)) + (1 : Int32)))), .val (.int (f0_s0_36001 p2)), .val (.ref b4), .val (.ref b11), .val (.long (f8 (f0_e11 q0 p2) (f0_e12 q0 p2))), .second, .val (.long (f0_e15 q0 p1 p2)), .second, .unset, .unset, .unset, .unset, .unset, .unset, .unset, .unset, .unset, .unset] [(.int p1), (.int (f0_s0_36001 p2)), (.int ((p2 &&& (7 : Int32)) % (7 : Int32))), (.int ((f0_e1 p2) % (((p2 &&& (7 : Int32)) % (7 : Int32)) + (1 : Int32)))), (.long q0), (.int (3 : Int32)), (.int ((f0_e16 q0 p1 p2) <<< ((8 : Int32) &&& 31)))])) rfl (by rw [hml]; rfl) (argsL := [(.int (3 : Int32)), (.long q0), (.int ((f0_e1 p2) % (((p2 &&& (7 : Int32)) % (7 : Int32)) + (1 : Int32)))), (.int ((p2 &&& (7 : Int32)) % (7 : Int32))), (.int (f0_s0_36001 p2)), (.int p1)]) (rest := [(.int ((f0_e16 q0 p1 p2) <<< ((8 : Int32) &&& 31)))]) (lenOf pd_8 rfl) rfl (by show 2 * 0 + _ ≤ _; exact Nat.le_of_eq rfl) (hb hby at_201) (fun _ _ => ⟨rfl, e20, (by decide : 2 + 0 ≤ _), (by decide : 8 + 0 ≤ _)⟩)
    dsimp only [Pt.U, Pt.locs, Pt.cells, Pt.slots] at X21 l21 y21 z21 st21 hQ21
    obtain rfl : k21 = 2 := y21
    obtain rfl : n21 = 8 := z21
    obtain ⟨rfl, N21q, e21⟩ := hQ21
    have N21 : Fr n0 L21 := by rw [l21]; exact Fr.app N20 N21q
    obtain ⟨_, _, ⟨T22, L22, k22, n22⟩, -, X22, ⟨Lc22, hQ22, l22, y22, z22⟩, st22⟩ := Jvm.LawKit.callS X21 hx (y := (⟨"com/example/wireshape/wireshape/model/InternetChecksumGetValuePinLaw", "at", "(IJIIZI)I"⟩ : MethodName)) hown (mvT hZ (hw _ (List.mem_of_getElem? (i := 42) rfl))) (mvT hZ (hw _ (List.mem_of_getElem? (i := 43) rfl))) (mvT hZ (hw _ (List.mem_of_getElem? (i := 44) rfl))) (mvT hZ (hw _ (List.mem_of_getElem? (i := 45) rfl))) (by decide) (backOf (W := 0) (rm9 l Z a0 hw [] (4 : Int32) q0 ((f0_e1 p2) % (((p2 &&& (7 : Int32)) % (7 : Int32)) + (1 : Int32))) ((p2 &&& (7 : Int32)) % (7 : Int32)) (f0_s0_36001 p2) p1 T16.heap n0 Zz16) hZ (hw _ (List.mem_of_getElem? (i := 45) rfl)) (hw _ (List.mem_of_getElem? (i := 44) rfl)) (by decide) (by decide)) (g := (mkF m 217 #[.val (.long q0), .second, .val (.int p1), .val (.int p2), .val (.int ((p2 &&& (7 : Int32)) % (7 : Int32))), .val (.int ((f0_e1 p2) % (((p2 &&& (7 : Int32)) % (7 : Int32)) + (1 : Int32)))), .val (.int (f0_s0_36001 p2)), .val (.ref b4), .val (.ref b11), .val (.long (f8 (f0_e11 q0 p2) (f0_e12 q0 p2))), .second, .val (.long (f0_e15 q0 p1 p2)), .second, .val (.long (f0_e18 q0 p1 p2)), .second, .unset, .unset, .unset, .unset, .unset, .unset, .unset, .unset] [(.int p1), (.int (f0_s0_36001 p2)), (.int ((p2 &&& (7 : Int32)) % (7 : Int32))), (.int ((f0_e1 p2) % (((p2 &&& (7 : Int32)) % (7 : Int32)) + (1 : Int32)))), (.long q0), (.int (4 : Int32))])) rfl (by rw [hml]; rfl) (argsL := [(.int (4 : Int32)), (.long q0), (.int ((f0_e1 p2) % (((p2 &&& (7 : Int32)) % (7 : Int32)) + (1 : Int32)))), (.int ((p2 &&& (7 : Int32)) % (7 : Int32))), (.int (f0_s0_36001 p2)), (.int p1)]) (rest := []) (lenOf pd_8 rfl) rfl (by show 2 * 0 + _ ≤ _; exact Nat.le_of_eq rfl) (hb hby at_217) (fun _ _ => ⟨rfl, e21, (by decide : 2 + 0 ≤ _), (by decide : 8 + 0 ≤ _)⟩)
    dsimp only [Pt.U, Pt.locs, Pt.cells, Pt.slots] at X22 l22 y22 z22 st22 hQ22
    obtain rfl : k22 = 2 := y22
    obtain rfl : n22 = 8 := z22
    obtain ⟨rfl, N22q, e22⟩ := hQ22
    have N22 : Fr n0 L22 := by rw [l22]; exact Fr.app N21 N22q
    obtain ⟨_, _, ⟨T23, L23, k23, n23⟩, -, X23, ⟨Lc23, hQ23, l23, y23, z23⟩, st23⟩ := Jvm.LawKit.callS X22 hx (y := (⟨"com/example/wireshape/wireshape/model/InternetChecksumGetValuePinLaw", "at", "(IJIIZI)I"⟩ : MethodName)) hown (mvT hZ (hw _ (List.mem_of_getElem? (i := 42) rfl))) (mvT hZ (hw _ (List.mem_of_getElem? (i := 43) rfl))) (mvT hZ (hw _ (List.mem_of_getElem? (i := 44) rfl))) (mvT hZ (hw _ (List.mem_of_getElem? (i := 45) rfl))) (by decide) (backOf (W := 1) (rm9 l Z a0 hw [] (5 : Int32) q0 ((f0_e1 p2) % (((p2 &&& (7 : Int32)) % (7 : Int32)) + (1 : Int32))) ((p2 &&& (7 : Int32)) % (7 : Int32)) (f0_s0_36001 p2) p1 T16.heap n0 Zz16) hZ (hw _ (List.mem_of_getElem? (i := 45) rfl)) (hw _ (List.mem_of_getElem? (i := 44) rfl)) (by decide) (by decide)) (g := (mkF m 232 #[.val (.long q0), .second, .val (.int p1), .val (.int p2), .val (.int ((p2 &&& (7 : Int32)) % (7 : Int32))), .val (.int ((f0_e1 p2) % (((p2 &&& (7 : Int32)) % (7 : Int32)) + (1 : Int32)))), .val (.int (f0_s0_36001 p2)), .val (.ref b4), .val (.ref b11), .val (.long (f8 (f0_e11 q0 p2) (f0_e12 q0 p2))), .second, .val (.long (f0_e15 q0 p1 p2)), .second, .val (.long (f0_e18 q0 p1 p2)), .second, .unset, .unset, .unset, .unset, .unset, .unset, .unset, .unset] [(.int p1), (.int (f0_s0_36001 p2)), (.int ((p2 &&& (7 : Int32)) % (7 : Int32))), (.int ((f0_e1 p2) % (((p2 &&& (7 : Int32)) % (7 : Int32)) + (1 : Int32)))), (.long q0), (.int (5 : Int32)), (.int ((f0_e19 q0 p1 p2) <<< ((8 : Int32) &&& 31)))])) rfl (by rw [hml]; rfl) (argsL := [(.int (5 : Int32)), (.long q0), (.int ((f0_e1 p2) % (((p2 &&& (7 : Int32)) % (7 : Int32)) + (1 : Int32)))), (.int ((p2 &&& (7 : Int32)) % (7 : Int32))), (.int (f0_s0_36001 p2)), (.int p1)]) (rest := [(.int ((f0_e19 q0 p1 p2) <<< ((8 : Int32) &&& 31)))]) (lenOf pd_8 rfl) rfl (by show 2 * 0 + _ ≤ _; exact Nat.le_of_eq rfl) (hb hby at_232) (fun _ _ => ⟨rfl, e22, (by decide : 2 + 0 ≤ _), (by decide : 8 + 0 ≤ _)⟩)
    dsimp only [Pt.U, Pt.locs, Pt.cells, Pt.slots] at X23 l23 y23 z23 st23 hQ23
    obtain rfl : k23 = 2 := y23
    obtain rfl : n23 = 8 := z23
    obtain ⟨rfl, N23q, e23⟩ := hQ23
    have N23 : Fr n0 L23 := by rw [l23]; exact Fr.app N22 N23q
    obtain ⟨_, _, ⟨T24, L24, k24, n24⟩, -, X24, ⟨Lc24, hQ24, l24, y24, z24⟩, st24⟩ := Jvm.LawKit.callS X23 hx (y := (⟨"com/example/wireshape/wireshape/model/InternetChecksumGetValuePinLaw", "at", "(IJIIZI)I"⟩ : MethodName)) hown (mvT hZ (hw _ (List.mem_of_getElem? (i := 42) rfl))) (mvT hZ (hw _ (List.mem_of_getElem? (i := 43) rfl))) (mvT hZ (hw _ (List.mem_of_getElem? (i := 44) rfl))) (mvT hZ (hw _ (List.mem_of_getElem? (i := 45) rfl))) (by decide) (backOf (W := 0) (rm9 l Z a0 hw [] (6 : Int32) q0 ((f0_e1 p2) % (((p2 &&& (7 : Int32)) % (7 : Int32)) + (1 : Int32))) ((p2 &&& (7 : Int32)) % (7 : Int32)) (f0_s0_36001 p2) p1 T16.heap n0 Zz16) hZ (hw _ (List.mem_of_getElem? (i := 45) rfl)) (hw _ (List.mem_of_getElem? (i := 44) rfl)) (by decide) (by decide)) (g := (mkF m 249 #[.val (.long q0), .second, .val (.int p1), .val (.int p2), .val (.int ((p2 &&& (7 : Int32)) % (7 : Int32))), .val (.int ((f0_e1 p2) % (((p2 &&& (7 : Int32)) % (7 : Int32)) + (1 : Int32)))), .val (.int (f0_s0_36001 p2)), .val (.ref b4), .val (.ref b11), .val (.long (f8 (f0_e11 q0 p2) (f0_e12 q0 p2))), .second, .val (.long (f0_e15 q0 p1 p2)), .second, .val (.long (f0_e18 q0 p1 p2)), .second, .val (.long (f0_e21 q0 p1 p2)), .second, .unset, .unset, .unset, .unset, .unset, .unset] [(.int p1), (.int (f0_s0_36001 p2)), (.int ((p2 &&& (7 : Int32)) % (7 : Int32))), (.int ((f0_e1 p2) % (((p2 &&& (7 : Int32)) % (7 : Int32)) + (1 : Int32)))), (.long q0), (.int (6 : Int32))])) rfl (by rw [hml]; rfl) (argsL := [(.int (6 : Int32)), (.long q0), (.int ((f0_e1 p2) % (((p2 &&& (7 : Int32)) % (7 : Int32)) + (1 : Int32)))), (.int ((p2 &&& (7 : Int32)) % (7 : Int32))), (.int (f0_s0_36001 p2)), (.int p1)]) (rest := []) (lenOf pd_8 rfl) rfl (by show 2 * 0 + _ ≤ _; exact Nat.le_of_eq rfl) (hb hby at_249) (fun _ _ => ⟨rfl, e23, (by decide : 2 + 0 ≤ _), (by decide : 8 + 0 ≤ _)⟩)
    dsimp only [Pt.U, Pt.locs, Pt.cells, Pt.slots] at X24 l24 y24 z24 st24 hQ24
    obtain rfl : k24 = 2 := y24
    obtain rfl : n24 = 8 := z24
    obtain ⟨rfl, N24q, e24⟩ := hQ24
    have N24 : Fr n0 L24 := by rw [l24]; exact Fr.app N23 N24q
    obtain ⟨_, _, ⟨T25, L25, k25, n25⟩, -, X25, ⟨Lc25, hQ25, l25, y25, z25⟩, st25⟩ := Jvm.LawKit.callS X24 hx (y := (⟨"com/example/wireshape/wireshape/model/InternetChecksumGetValuePinLaw", "at", "(IJIIZI)I"⟩ : MethodName)) hown (mvT hZ (hw _ (List.mem_of_getElem? (i := 42) rfl))) (mvT hZ (hw _ (List.mem_of_getElem? (i := 43) rfl))) (mvT hZ (hw _ (List.mem_of_getElem? (i := 44) rfl))) (mvT hZ (hw _ (List.mem_of_getElem? (i := 45) rfl))) (by decide) (backOf (W := 1) (rm9 l Z a0 hw [] (7 : Int32) q0 ((f0_e1 p2) % (((p2 &&& (7 : Int32)) % (7 : Int32)) + (1 : Int32))) ((p2 &&& (7 : Int32)) % (7 : Int32)) (f0_s0_36001 p2) p1 T16.heap n0 Zz16) hZ (hw _ (List.mem_of_getElem? (i := 45) rfl)) (hw _ (List.mem_of_getElem? (i := 44) rfl)) (by decide) (by decide)) (g := (mkF m 265 #[.val (.long q0), .second, .val (.int p1), .val (.int p2), .val (.int ((p2 &&& (7 : Int32)) % (7 : Int32))), .val (.int ((f0_e1 p2) % (((p2 &&& (7 : Int32)) % (7 : Int32)) + (1 : Int32)))), .val (.int (f0_s0_36001 p2)), .val (.ref b4), .val (.ref b11), .val (.long (f8 (f0_e11 q0 p2) (f0_e12 q0 p2))), .second, .val (.long (f0_e15 q0 p1 p2)), .second, .val (.long (f0_e18 q0 p1 p2)), .second, .val (.long (f0_e21 q0 p1 p2)), .second, .unset, .unset, .unset, .unset, .unset, .unset] [(.int p1), (.int (f0_s0_36001 p2)), (.int ((p2 &&& (7 : Int32)) % (7 : Int32))), (.int ((f0_e1 p2) % (((p2 &&& (7 : Int32)) % (7 : Int32)) + (1 : Int32)))), (.long q0), (.int (7 : Int32)), (.int ((f0_e22 q0 p1 p2) <<< ((8 : Int32) &&& 31)))])) rfl (by rw [hml]; rfl) (argsL := [(.int (7 : Int32)), (.long q0), (.int ((f0_e1 p2) % (((p2 &&& (7 : Int32)) % (7 : Int32)) + (1 : Int32)))), (.int ((p2 &&& (7 : Int32)) % (7 : Int32))), (.int (f0_s0_36001 p2)), (.int p1)]) (rest := [(.int ((f0_e22 q0 p1 p2) <<< ((8 : Int32) &&& 31)))]) (lenOf pd_8 rfl) rfl (by show 2 * 0 + _ ≤ _; exact Nat.le_of_eq rfl) (hb hby at_265) (fun _ _ => ⟨rfl, e24, (by decide : 2 + 0 ≤ _), (by decide : 8 + 0 ≤ _)⟩)
    dsimp only [Pt.U, Pt.locs, Pt.cells, Pt.slots] at X25 l25 y25 z25 st25 hQ25
    obtain rfl : k25 = 2 := y25
    obtain rfl : n25 = 8 := z25
    obtain ⟨rfl, N25q, e25⟩ := hQ25
    have N25 : Fr n0 L25 := by rw [l25]; exact Fr.app N24 N25q
    have pre26 : ∀ t, Steps p.tables e below (T25.setTop (mkF m 330 #[.val (.long q0), .second, .val (.int p1), .val (.int p2), .val (.int ((p2 &&& (7 : Int32)) % (7 : Int32))), .val (.int ((f0_e1 p2) % (((p2 &&& (7 : Int32)) % (7 : Int32)) + (1 : Int32)))), .val (.int (f0_s0_36001 p2)), .val (.ref b4), .val (.ref b11), .val (.long (f8 (f0_e11 q0 p2) (f0_e12 q0 p2))), .second, .val (.long (f0_e15 q0 p1 p2)), .second, .val (.long (f0_e18 q0 p1 p2)), .second, .val (.long (f0_e21 q0 p1 p2)), .second, .val (.long (f0_e24 q0 p1 p2)), .second, .val (.long ((f0_e27 q0 p1 p2) + (f0_e28 q0 p1 p2))), .second, .val (.long (f0_e29 q0 p1 p2)), .second] [(.int (lcmpW (f8 (f0_e11 q0 p2) (f0_e12 q0 p2)) (f0_e29 q0 p1 p2)))])) t → Steps p.tables e below (s₁.setTop (entryFrame m #[(.long q0), (.int p1), (.int p2)] maxLocals)) t := fun t kt => pre14 t (by
      show Steps p.tables e below (T13.setTop (mkF m 116 #[.val (.long q0), .second, .val (.int p1), .val (.int p2), .val (.int ((p2 &&& (7 : Int32)) % (7 : Int32))), .val (.int ((f0_e1 p2) % (((p2 &&& (7 : Int32)) % (7 : Int32)) + (1 : Int32)))), .val (.int (f0_s0_36001 p2)), .val (.ref b4), .val (.ref b11), .unset, .unset, .unset, .unset, .unset, .unset, .unset, .unset, .unset, .unset, .unset, .unset, .unset, .unset] [(.int (f0_s0_36001 p2))])) _
      refine XS.ifYes X13.here hx rfl (pc0 := 116) (pc' := 125) rfl (hb hby at_116) rfl ((if0 _ _).trans (teq hc15).1) (by decide) (by decide) ?_
      show Steps p.tables e below (T13.setTop (mkF m 125 #[.val (.long q0), .second, .val (.int p1), .val (.int p2), .val (.int ((p2 &&& (7 : Int32)) % (7 : Int32))), .val (.int ((f0_e1 p2) % (((p2 &&& (7 : Int32)) % (7 : Int32)) + (1 : Int32)))), .val (.int (f0_s0_36001 p2)), .val (.ref b4), .val (.ref b11), .unset, .unset, .unset, .unset, .unset, .unset, .unset, .unset, .unset, .unset, .unset, .unset, .unset, .unset] [])) _
      refine XS.aload X13.here hx rfl (hb hby at_125) rfl rfl ?_
      show Steps p.tables e below (T13.setTop (mkF m 127 #[.val (.long q0), .second, .val (.int p1), .val (.int p2), .val (.int ((p2 &&& (7 : Int32)) % (7 : Int32))), .val (.int ((f0_e1 p2) % (((p2 &&& (7 : Int32)) % (7 : Int32)) + (1 : Int32)))), .val (.int (f0_s0_36001 p2)), .val (.ref b4), .val (.ref b11), .unset, .unset, .unset, .unset, .unset, .unset, .unset, .unset, .unset, .unset, .unset, .unset, .unset, .unset] [(.ref b11)])) _
      refine XS.aload X13.here hx rfl (hb hby at_127) rfl rfl ?_
      show Steps p.tables e below (T13.setTop (mkF m 129 #[.val (.long q0), .second, .val (.int p1), .val (.int p2), .val (.int ((p2 &&& (7 : Int32)) % (7 : Int32))), .val (.int ((f0_e1 p2) % (((p2 &&& (7 : Int32)) % (7 : Int32)) + (1 : Int32)))), .val (.int (f0_s0_36001 p2)), .val (.ref b4), .val (.ref b11), .unset, .unset, .unset, .unset, .unset, .unset, .unset, .unset, .unset, .unset, .unset, .unset, .unset, .unset] [(.ref b4), (.ref b11)])) _
      refine XS.iload X13.here hx rfl (hb hby at_129) rfl ?_
      show Steps p.tables e below (T13.setTop (mkF m 131 #[.val (.long q0), .second, .val (.int p1), .val (.int p2), .val (.int ((p2 &&& (7 : Int32)) % (7 : Int32))), .val (.int ((f0_e1 p2) % (((p2 &&& (7 : Int32)) % (7 : Int32)) + (1 : Int32)))), .val (.int (f0_s0_36001 p2)), .val (.ref b4), .val (.ref b11), .unset, .unset, .unset, .unset, .unset, .unset, .unset, .unset, .unset, .unset, .unset, .unset, .unset, .unset] [(.int ((f0_e1 p2) % (((p2 &&& (7 : Int32)) % (7 : Int32)) + (1 : Int32)))), (.ref b4), (.ref b11)])) _
      refine XS.iload X13.here hx rfl (hb hby at_131) rfl ?_
      show Steps p.tables e below (T13.setTop (mkF m 133 #[.val (.long q0), .second, .val (.int p1), .val (.int p2), .val (.int ((p2 &&& (7 : Int32)) % (7 : Int32))), .val (.int ((f0_e1 p2) % (((p2 &&& (7 : Int32)) % (7 : Int32)) + (1 : Int32)))), .val (.int (f0_s0_36001 p2)), .val (.ref b4), .val (.ref b11), .unset, .unset, .unset, .unset, .unset, .unset, .unset, .unset, .unset, .unset, .unset, .unset, .unset, .unset] [(.int ((p2 &&& (7 : Int32)) % (7 : Int32))), (.int ((f0_e1 p2) % (((p2 &&& (7 : Int32)) % (7 : Int32)) + (1 : Int32)))), (.ref b4), (.ref b11)])) _
      refine XS.iload X13.here hx rfl (hb hby at_133) rfl ?_
      show Steps p.tables e below (T13.setTop (mkF m 135 #[.val (.long q0), .second, .val (.int p1), .val (.int p2), .val (.int ((p2 &&& (7 : Int32)) % (7 : Int32))), .val (.int ((f0_e1 p2) % (((p2 &&& (7 : Int32)) % (7 : Int32)) + (1 : Int32)))), .val (.int (f0_s0_36001 p2)), .val (.ref b4), .val (.ref b11), .unset, .unset, .unset, .unset, .unset, .unset, .unset, .unset, .unset, .unset, .unset, .unset, .unset, .unset] [(.int ((f0_e1 p2) % (((p2 &&& (7 : Int32)) % (7 : Int32)) + (1 : Int32)))), (.int ((p2 &&& (7 : Int32)) % (7 : Int32))), (.int ((f0_e1 p2) % (((p2 &&& (7 : Int32)) % (7 : Int32)) + (1 : Int32)))), (.ref b4), (.ref b11)])) _
      refine XS.isub X13.here hx rfl (hb hby at_135) rfl ?_
      show Steps p.tables e below (T13.setTop (mkF m 136 #[.val (.long q0), .second, .val (.int p1), .val (.int p2), .val (.int ((p2 &&& (7 : Int32)) % (7 : Int32))), .val (.int ((f0_e1 p2) % (((p2 &&& (7 : Int32)) % (7 : Int32)) + (1 : Int32)))), .val (.int (f0_s0_36001 p2)), .val (.ref b4), .val (.ref b11), .unset, .unset, .unset, .unset, .unset, .unset, .unset, .unset, .unset, .unset, .unset, .unset, .unset, .unset] [(.int (f0_e10 p2)), (.int ((f0_e1 p2) % (((p2 &&& (7 : Int32)) % (7 : Int32)) + (1 : Int32)))), (.ref b4), (.ref b11)])) _
      refine st16.trans ?_
      show Steps p.tables e below (T16.setTop (mkF m 139 #[.val (.long q0), .second, .val (.int p1), .val (.int p2), .val (.int ((p2 &&& (7 : Int32)) % (7 : Int32))), .val (.int ((f0_e1 p2) % (((p2 &&& (7 : Int32)) % (7 : Int32)) + (1 : Int32)))), .val (.int (f0_s0_36001 p2)), .val (.ref b4), .val (.ref b11), .unset, .unset, .unset, .unset, .unset, .unset, .unset, .unset, .unset, .unset, .unset, .unset, .unset, .unset] [])) _
      refine XS.aload X16.here hx rfl (hb hby at_139) rfl rfl ?_
      show Steps p.tables e below (T16.setTop (mkF m 141 #[.val (.long q0), .second, .val (.int p1), .val (.int p2), .val (.int ((p2 &&& (7 : Int32)) % (7 : Int32))), .val (.int ((f0_e1 p2) % (((p2 &&& (7 : Int32)) % (7 : Int32)) + (1 : Int32)))), .val (.int (f0_s0_36001 p2)), .val (.ref b4), .val (.ref b11), .unset, .unset, .unset, .unset, .unset, .unset, .unset, .unset, .unset, .unset, .unset, .unset, .unset, .unset] [(.ref b11)])) _
      refine st17.trans ?_
      show Steps p.tables e below (T17.setTop (mkF m 144 #[.val (.long q0), .second, .val (.int p1), .val (.int p2), .val (.int ((p2 &&& (7 : Int32)) % (7 : Int32))), .val (.int ((f0_e1 p2) % (((p2 &&& (7 : Int32)) % (7 : Int32)) + (1 : Int32)))), .val (.int (f0_s0_36001 p2)), .val (.ref b4), .val (.ref b11), .unset, .unset, .unset, .unset, .unset, .unset, .unset, .unset, .unset, .unset, .unset, .unset, .unset, .unset] [(.long (f8 (f0_e11 q0 p2) (f0_e12 q0 p2)))])) _
      refine XS.lstore X17.here hx rfl (hb hby at_144) rfl (l' := #[.val (.long q0), .second, .val (.int p1), .val (.int p2), .val (.int ((p2 &&& (7 : Int32)) % (7 : Int32))), .val (.int ((f0_e1 p2) % (((p2 &&& (7 : Int32)) % (7 : Int32)) + (1 : Int32)))), .val (.int (f0_s0_36001 p2)), .val (.ref b4), .val (.ref b11), .val (.long (f8 (f0_e11 q0 p2) (f0_e12 q0 p2))), .second, .unset, .unset, .unset, .unset, .unset, .unset, .unset, .unset, .unset, .unset, .unset, .unset]) rfl ?_
      show Steps p.tables e below (T17.setTop (mkF m 146 #[.val (.long q0), .second, .val (.int p1), .val (.int p2), .val (.int ((p2 &&& (7 : Int32)) % (7 : Int32))), .val (.int ((f0_e1 p2) % (((p2 &&& (7 : Int32)) % (7 : Int32)) + (1 : Int32)))), .val (.int (f0_s0_36001 p2)), .val (.ref b4), .val (.ref b11), .val (.long (f8 (f0_e11 q0 p2) (f0_e12 q0 p2))), .second, .unset, .unset, .unset, .unset, .unset, .unset, .unset, .unset, .unset, .unset, .unset, .unset] [])) _
      refine XS.iconst X17.here hx rfl (hb hby at_146) ?_
      show Steps p.tables e below (T17.setTop (mkF m 147 #[.val (.long q0), .second, .val (.int p1), .val (.int p2), .val (.int ((p2 &&& (7 : Int32)) % (7 : Int32))), .val (.int ((f0_e1 p2) % (((p2 &&& (7 : Int32)) % (7 : Int32)) + (1 : Int32)))), .val (.int (f0_s0_36001 p2)), .val (.ref b4), .val (.ref b11), .val (.long (f8 (f0_e11 q0 p2) (f0_e12 q0 p2))), .second, .unset, .unset, .unset, .unset, .unset, .unset, .unset, .unset, .unset, .unset, .unset, .unset] [(.int (0 : Int32))])) _
      refine XS.lloadN X17.here hx rfl (hb hby at_147) rfl ?_
      show Steps p.tables e below (T17.setTop (mkF m 148 #[.val (.long q0), .second, .val (.int p1), .val (.int p2), .val (.int ((p2 &&& (7 : Int32)) % (7 : Int32))), .val (.int ((f0_e1 p2) % (((p2 &&& (7 : Int32)) % (7 : Int32)) + (1 : Int32)))), .val (.int (f0_s0_36001 p2)), .val (.ref b4), .val (.ref b11), .val (.long (f8 (f0_e11 q0 p2) (f0_e12 q0 p2))), .second, .unset, .unset, .unset, .unset, .unset, .unset, .unset, .unset, .unset, .unset, .unset, .unset] [(.long q0), (.int (0 : Int32))])) _
      refine XS.iload X17.here hx rfl (hb hby at_148) rfl ?_
      show Steps p.tables e below (T17.setTop (mkF m 150 #[.val (.long q0), .second, .val (.int p1), .val (.int p2), .val (.int ((p2 &&& (7 : Int32)) % (7 : Int32))), .val (.int ((f0_e1 p2) % (((p2 &&& (7 : Int32)) % (7 : Int32)) + (1 : Int32)))), .val (.int (f0_s0_36001 p2)), .val (.ref b4), .val (.ref b11), .val (.long (f8 (f0_e11 q0 p2) (f0_e12 q0 p2))), .second, .unset, .unset, .unset, .unset, .unset, .unset, .unset, .unset, .unset, .unset, .unset, .unset] [(.int ((f0_e1 p2) % (((p2 &&& (7 : Int32)) % (7 : Int32)) + (1 : Int32)))), (.long q0), (.int (0 : Int32))])) _
      refine XS.iload X17.here hx rfl (hb hby at_150) rfl ?_
      show Steps p.tables e below (T17.setTop (mkF m 152 #[.val (.long q0), .second, .val (.int p1), .val (.int p2), .val (.int ((p2 &&& (7 : Int32)) % (7 : Int32))), .val (.int ((f0_e1 p2) % (((p2 &&& (7 : Int32)) % (7 : Int32)) + (1 : Int32)))), .val (.int (f0_s0_36001 p2)), .val (.ref b4), .val (.ref b11), .val (.long (f8 (f0_e11 q0 p2) (f0_e12 q0 p2))), .second, .unset, .unset, .unset, .unset, .unset, .unset, .unset, .unset, .unset, .unset, .unset, .unset] [(.int ((p2 &&& (7 : Int32)) % (7 : Int32))), (.int ((f0_e1 p2) % (((p2 &&& (7 : Int32)) % (7 : Int32)) + (1 : Int32)))), (.long q0), (.int (0 : Int32))])) _
      refine XS.iload X17.here hx rfl (hb hby at_152) rfl ?_
      show Steps p.tables e below (T17.setTop (mkF m 154 #[.val (.long q0), .second, .val (.int p1), .val (.int p2), .val (.int ((p2 &&& (7 : Int32)) % (7 : Int32))), .val (.int ((f0_e1 p2) % (((p2 &&& (7 : Int32)) % (7 : Int32)) + (1 : Int32)))), .val (.int (f0_s0_36001 p2)), .val (.ref b4), .val (.ref b11), .val (.long (f8 (f0_e11 q0 p2) (f0_e12 q0 p2))), .second, .unset, .unset, .unset, .unset, .unset, .unset, .unset, .unset, .unset, .unset, .unset, .unset] [(.int (f0_s0_36001 p2)), (.int ((p2 &&& (7 : Int32)) % (7 : Int32))), (.int ((f0_e1 p2) % (((p2 &&& (7 : Int32)) % (7 : Int32)) + (1 : Int32)))), (.long q0), (.int (0 : Int32))])) _
      refine XS.iloadN X17.here hx rfl (hb hby at_154) rfl ?_
      show Steps p.tables e below (T17.setTop (mkF m 155 #[.val (.long q0), .second, .val (.int p1), .val (.int p2), .val (.int ((p2 &&& (7 : Int32)) % (7 : Int32))), .val (.int ((f0_e1 p2) % (((p2 &&& (7 : Int32)) % (7 : Int32)) + (1 : Int32)))), .val (.int (f0_s0_36001 p2)), .val (.ref b4), .val (.ref b11), .val (.long (f8 (f0_e11 q0 p2) (f0_e12 q0 p2))), .second, .unset, .unset, .unset, .unset, .unset, .unset, .unset, .unset, .unset, .unset, .unset, .unset] [(.int p1), (.int (f0_s0_36001 p2)), (.int ((p2 &&& (7 : Int32)) % (7 : Int32))), (.int ((f0_e1 p2) % (((p2 &&& (7 : Int32)) % (7 : Int32)) + (1 : Int32)))), (.long q0), (.int (0 : Int32))])) _
      refine st18 _ ?_
      show Steps p.tables e below (T18.setTop (mkF m 158 #[.val (.long q0), .second, .val (.int p1), .val (.int p2), .val (.int ((p2 &&& (7 : Int32)) % (7 : Int32))), .val (.int ((f0_e1 p2) % (((p2 &&& (7 : Int32)) % (7 : Int32)) + (1 : Int32)))), .val (.int (f0_s0_36001 p2)), .val (.ref b4), .val (.ref b11), .val (.long (f8 (f0_e11 q0 p2) (f0_e12 q0 p2))), .second, .unset, .unset, .unset, .unset, .unset, .unset, .unset, .unset, .unset, .unset, .unset, .unset] [(.int (f0_e13 q0 p1 p2))])) _
      refine XS.bipush X18.here hx rfl (hb hby at_158) ?_
      show Steps p.tables e below (T18.setTop (mkF m 160 #[.val (.long q0), .second, .val (.int p1), .val (.int p2), .val (.int ((p2 &&& (7 : Int32)) % (7 : Int32))), .val (.int ((f0_e1 p2) % (((p2 &&& (7 : Int32)) % (7 : Int32)) + (1 : Int32)))), .val (.int (f0_s0_36001 p2)), .val (.ref b4), .val (.ref b11), .val (.long (f8 (f0_e11 q0 p2) (f0_e12 q0 p2))), .second, .unset, .unset, .unset, .unset, .unset, .unset, .unset, .unset, .unset, .unset, .unset, .unset] [(.int (8 : Int32)), (.int (f0_e13 q0 p1 p2))])) _
      refine XS.ishl X18.here hx rfl (hb hby at_160) rfl ?_
      show Steps p.tables e below (T18.setTop (mkF m 161 #[.val (.long q0), .second, .val (.int p1), .val (.int p2), .val (.int ((p2 &&& (7 : Int32)) % (7 : Int32))), .val (.int ((f0_e1 p2) % (((p2 &&& (7 : Int32)) % (7 : Int32)) + (1 : Int32)))), .val (.int (f0_s0_36001 p2)), .val (.ref b4), .val (.ref b11), .val (.long (f8 (f0_e11 q0 p2) (f0_e12 q0 p2))), .second, .unset, .unset, .unset, .unset, .unset, .unset, .unset, .unset, .unset, .unset, .unset, .unset] [(.int ((f0_e13 q0 p1 p2) <<< ((8 : Int32) &&& 31)))])) _
      refine XS.iconst X18.here hx rfl (hb hby at_161) ?_
      show Steps p.tables e below (T18.setTop (mkF m 162 #[.val (.long q0), .second, .val (.int p1), .val (.int p2), .val (.int ((p2 &&& (7 : Int32)) % (7 : Int32))), .val (.int ((f0_e1 p2) % (((p2 &&& (7 : Int32)) % (7 : Int32)) + (1 : Int32)))), .val (.int (f0_s0_36001 p2)), .val (.ref b4), .val (.ref b11), .val (.long (f8 (f0_e11 q0 p2) (f0_e12 q0 p2))), .second, .unset, .unset, .unset, .unset, .unset, .unset, .unset, .unset, .unset, .unset, .unset, .unset] [(.int (1 : Int32)), (.int ((f0_e13 q0 p1 p2) <<< ((8 : Int32) &&& 31)))])) _
      refine XS.lloadN X18.here hx rfl (hb hby at_162) rfl ?_
      show Steps p.tables e below (T18.setTop (mkF m 163 #[.val (.long q0), .second, .val (.int p1), .val (.int p2), .val (.int ((p2 &&& (7 : Int32)) % (7 : Int32))), .val (.int ((f0_e1 p2) % (((p2 &&& (7 : Int32)) % (7 : Int32)) + (1 : Int32)))), .val (.int (f0_s0_36001 p2)), .val (.ref b4), .val (.ref b11), .val (.long (f8 (f0_e11 q0 p2) (f0_e12 q0 p2))), .second, .unset, .unset, .unset, .unset, .unset, .unset, .unset, .unset, .unset, .unset, .unset, .unset] [(.long q0), (.int (1 : Int32)), (.int ((f0_e13 q0 p1 p2) <<< ((8 : Int32) &&& 31)))])) _
      refine XS.iload X18.here hx rfl (hb hby at_163) rfl ?_
      show Steps p.tables e below (T18.setTop (mkF m 165 #[.val (.long q0), .second, .val (.int p1), .val (.int p2), .val (.int ((p2 &&& (7 : Int32)) % (7 : Int32))), .val (.int ((f0_e1 p2) % (((p2 &&& (7 : Int32)) % (7 : Int32)) + (1 : Int32)))), .val (.int (f0_s0_36001 p2)), .val (.ref b4), .val (.ref b11), .val (.long (f8 (f0_e11 q0 p2) (f0_e12 q0 p2))), .second, .unset, .unset, .unset, .unset, .unset, .unset, .unset, .unset, .unset, .unset, .unset, .unset] [(.int ((f0_e1 p2) % (((p2 &&& (7 : Int32)) % (7 : Int32)) + (1 : Int32)))), (.long q0), (.int (1 : Int32)), (.int ((f0_e13 q0 p1 p2) <<< ((8 : Int32) &&& 31)))])) _
      refine XS.iload X18.here hx rfl (hb hby at_165) rfl ?_
      show Steps p.tables e below (T18.setTop (mkF m 167 #[.val (.long q0), .second, .val (.int p1), .val (.int p2), .val (.int ((p2 &&& (7 : Int32)) % (7 : Int32))), .val (.int ((f0_e1 p2) % (((p2 &&& (7 : Int32)) % (7 : Int32)) + (1 : Int32)))), .val (.int (f0_s0_36001 p2)), .val (.ref b4), .val (.ref b11), .val (.long (f8 (f0_e11 q0 p2) (f0_e12 q0 p2))), .second, .unset, .unset, .unset, .unset, .unset, .unset, .unset, .unset, .unset, .unset, .unset, .unset] [(.int ((p2 &&& (7 : Int32)) % (7 : Int32))), (.int ((f0_e1 p2) % (((p2 &&& (7 : Int32)) % (7 : Int32)) + (1 : Int32)))), (.long q0), (.int (1 : Int32)), (.int ((f0_e13 q0 p1 p2) <<< ((8 : Int32) &&& 31)))])) _
      refine XS.iload X18.here hx rfl (hb hby at_167) rfl ?_
      show Steps p.tables e below (T18.setTop (mkF m 169 #[.val (.long q0), .second, .val (.int p1), .val (.int p2), .val (.int ((p2 &&& (7 : Int32)) % (7 : Int32))), .val (.int ((f0_e1 p2) % (((p2 &&& (7 : Int32)) % (7 : Int32)) + (1 : Int32)))), .val (.int (f0_s0_36001 p2)), .val (.ref b4), .val (.ref b11), .val (.long (f8 (f0_e11 q0 p2) (f0_e12 q0 p2))), .second, .unset, .unset, .unset, .unset, .unset, .unset, .unset, .unset, .unset, .unset, .unset, .unset] [(.int (f0_s0_36001 p2)), (.int ((p2 &&& (7 : Int32)) % (7 : Int32))), (.int ((f0_e1 p2) % (((p2 &&& (7 : Int32)) % (7 : Int32)) + (1 : Int32)))), (.long q0), (.int (1 : Int32)), (.int ((f0_e13 q0 p1 p2) <<< ((8 : Int32) &&& 31)))])) _
      refine XS.iloadN X18.here hx rfl (hb hby at_169) rfl ?_
      show Steps p.tables e below (T18.setTop (mkF m 170 #[.val (.long q0), .second, .val (.int p1), .val (.int p2), .val (.int ((p2 &&& (7 : Int32)) % (7 : Int32))), .val (.int ((f0_e1 p2) % (((p2 &&& (7 : Int32)) % (7 : Int32)) + (1 : Int32)))), .val (.int (f0_s0_36001 p2)), .val (.ref b4), .val (.ref b11), .val (.long (f8 (f0_e11 q0 p2) (f0_e12 q0 p2))), .second, .unset, .unset, .unset, .unset, .unset, .unset, .unset, .unset, .unset, .unset, .unset, .unset] [(.int p1), (.int (f0_s0_36001 p2)), (.int ((p2 &&& (7 : Int32)) % (7 : Int32))), (.int ((f0_e1 p2) % (((p2 &&& (7 : Int32)) % (7 : Int32)) + (1 : Int32)))), (.long q0), (.int (1 : Int32)), (.int ((f0_e13 q0 p1 p2) <<< ((8 : Int32) &&& 31)))])) _
      refine st19 _ ?_
      show Steps p.tables e below (T19.setTop (mkF m 173 #[.val (.long q0), .second, .val (.int p1), .val (.int p2), .val (.int ((p2 &&& (7 : Int32)) % (7 : Int32))), .val (.int ((f0_e1 p2) % (((p2 &&& (7 : Int32)) % (7 : Int32)) + (1 : Int32)))), .val (.int (f0_s0_36001 p2)), .val (.ref b4), .val (.ref b11), .val (.long (f8 (f0_e11 q0 p2) (f0_e12 q0 p2))), .second, .unset, .unset, .unset, .unset, .unset, .unset, .unset, .unset, .unset, .unset, .unset, .unset] [(.int (f0_e14 q0 p1 p2)), (.int ((f0_e13 q0 p1 p2) <<< ((8 : Int32) &&& 31)))])) _
      refine XS.ior X19.here hx rfl (hb hby at_173) rfl ?_
      show Steps p.tables e below (T19.setTop (mkF m 174 #[.val (.long q0), .second, .val (.int p1), .val (.int p2), .val (.int ((p2 &&& (7 : Int32)) % (7 : Int32))), .val (.int ((f0_e1 p2) % (((p2 &&& (7 : Int32)) % (7 : Int32)) + (1 : Int32)))), .val (.int (f0_s0_36001 p2)), .val (.ref b4), .val (.ref b11), .val (.long (f8 (f0_e11 q0 p2) (f0_e12 q0 p2))), .second, .unset, .unset, .unset, .unset, .unset, .unset, .unset, .unset, .unset, .unset, .unset, .unset] [(.int (((f0_e13 q0 p1 p2) <<< ((8 : Int32) &&& 31)) ||| (f0_e14 q0 p1 p2)))])) _
      refine XS.i2l X19.here hx rfl (hb hby at_174) rfl ?_
      show Steps p.tables e below (T19.setTop (mkF m 175 #[.val (.long q0), .second, .val (.int p1), .val (.int p2), .val (.int ((p2 &&& (7 : Int32)) % (7 : Int32))), .val (.int ((f0_e1 p2) % (((p2 &&& (7 : Int32)) % (7 : Int32)) + (1 : Int32)))), .val (.int (f0_s0_36001 p2)), .val (.ref b4), .val (.ref b11), .val (.long (f8 (f0_e11 q0 p2) (f0_e12 q0 p2))), .second, .unset, .unset, .unset, .unset, .unset, .unset, .unset, .unset, .unset, .unset, .unset, .unset] [(.long (f0_e15 q0 p1 p2))])) _
      refine XS.lstore X19.here hx rfl (hb hby at_175) rfl (l' := #[.val (.long q0), .second, .val (.int p1), .val (.int p2), .val (.int ((p2 &&& (7 : Int32)) % (7 : Int32))), .val (.int ((f0_e1 p2) % (((p2 &&& (7 : Int32)) % (7 : Int32)) + (1 : Int32)))), .val (.int (f0_s0_36001 p2)), .val (.ref b4), .val (.ref b11), .val (.long (f8 (f0_e11 q0 p2) (f0_e12 q0 p2))), .second, .val (.long (f0_e15 q0 p1 p2)), .second, .unset, .unset, .unset, .unset, .unset, .unset, .unset, .unset, .unset, .unset]) rfl ?_
      show Steps p.tables e below (T19.setTop (mkF m 177 #[.val (.long q0), .second, .val (.int p1), .val (.int p2), .val (.int ((p2 &&& (7 : Int32)) % (7 : Int32))), .val (.int ((f0_e1 p2) % (((p2 &&& (7 : Int32)) % (7 : Int32)) + (1 : Int32)))), .val (.int (f0_s0_36001 p2)), .val (.ref b4), .val (.ref b11), .val (.long (f8 (f0_e11 q0 p2) (f0_e12 q0 p2))), .second, .val (.long (f0_e15 q0 p1 p2)), .second, .unset, .unset, .unset, .unset, .unset, .unset, .unset, .unset, .unset, .unset] [])) _
      refine XS.iconst X19.here hx rfl (hb hby at_177) ?_
      show Steps p.tables e below (T19.setTop (mkF m 178 #[.val (.long q0), .second, .val (.int p1), .val (.int p2), .val (.int ((p2 &&& (7 : Int32)) % (7 : Int32))), .val (.int ((f0_e1 p2) % (((p2 &&& (7 : Int32)) % (7 : Int32)) + (1 : Int32)))), .val (.int (f0_s0_36001 p2)), .val (.ref b4), .val (.ref b11), .val (.long (f8 (f0_e11 q0 p2) (f0_e12 q0 p2))), .second, .val (.long (f0_e15 q0 p1 p2)), .second, .unset, .unset, .unset, .unset, .unset, .unset, .unset, .unset, .unset, .unset] [(.int (2 : Int32))])) _
      refine XS.lloadN X19.here hx rfl (hb hby at_178) rfl ?_
      show Steps p.tables e below (T19.setTop (mkF m 179 #[.val (.long q0), .second, .val (.int p1), .val (.int p2), .val (.int ((p2 &&& (7 : Int32)) % (7 : Int32))), .val (.int ((f0_e1 p2) % (((p2 &&& (7 : Int32)) % (7 : Int32)) + (1 : Int32)))), .val (.int (f0_s0_36001 p2)), .val (.ref b4), .val (.ref b11), .val (.long (f8 (f0_e11 q0 p2) (f0_e12 q0 p2))), .second, .val (.long (f0_e15 q0 p1 p2)), .second, .unset, .unset, .unset, .unset, .unset, .unset, .unset, .unset, .unset, .unset] [(.long q0), (.int (2 : Int32))])) _
      refine XS.iload X19.here hx rfl (hb hby at_179) rfl ?_
      show Steps p.tables e below (T19.setTop (mkF m 181 #[.val (.long q0), .second, .val (.int p1), .val (.int p2), .val (.int ((p2 &&& (7 : Int32)) % (7 : Int32))), .val (.int ((f0_e1 p2) % (((p2 &&& (7 : Int32)) % (7 : Int32)) + (1 : Int32)))), .val (.int (f0_s0_36001 p2)), .val (.ref b4), .val (.ref b11), .val (.long (f8 (f0_e11 q0 p2) (f0_e12 q0 p2))), .second, .val (.long (f0_e15 q0 p1 p2)), .second, .unset, .unset, .unset, .unset, .unset, .unset, .unset, .unset, .unset, .unset] [(.int ((f0_e1 p2) % (((p2 &&& (7 : Int32)) % (7 : Int32)) + (1 : Int32)))), (.long q0), (.int (2 : Int32))])) _
      refine XS.iload X19.here hx rfl (hb hby at_181) rfl ?_
      show Steps p.tables e below (T19.setTop (mkF m 183 #[.val (.long q0), .second, .val (.int p1), .val (.int p2), .val (.int ((p2 &&& (7 : Int32)) % (7 : Int32))), .val (.int ((f0_e1 p2) % (((p2 &&& (7 : Int32)) % (7 : Int32)) + (1 : Int32)))), .val (.int (f0_s0_36001 p2)), .val (.ref b4), .val (.ref b11), .val (.long (f8 (f0_e11 q0 p2) (f0_e12 q0 p2))), .second, .val (.long (f0_e15 q0 p1 p2)), .second, .unset, .unset, .unset, .unset, .unset, .unset, .unset, .unset, .unset, .unset] [(.int ((p2 &&& (7 : Int32)) % (7 : Int32))), (.int ((f0_e1 p2) % (((p2 &&& (7 : Int32)) % (7 : Int32)) + (1 : Int32)))), (.long q0), (.int (2 : Int32))])) _
      refine XS.iload X19.here hx rfl (hb hby at_183) rfl ?_
      show Steps p.tables e below (T19.setTop (mkF m 185 #[.val (.long q0), .second, .val (.int p1), .val (.int p2), .val (.int ((p2 &&& (7 : Int32)) % (7 : Int32))), .val (.int ((f0_e1 p2) % (((p2 &&& (7 : Int32)) % (7 : Int32)) + (1 : Int32)))), .val (.int (f0_s0_36001 p2)), .val (.ref b4), .val (.ref b11), .val (.long (f8 (f0_e11 q0 p2) (f0_e12 q0 p2))), .second, .val (.long (f0_e15 q0 p1 p2)), .second, .unset, .unset, .unset, .unset, .unset, .unset, .unset, .unset, .unset, .unset] [(.int (f0_s0_36001 p2)), (.int ((p2 &&& (7 : Int32)) % (7 : Int32))), (.int ((f0_e1 p2) % (((p2 &&& (7 : Int32)) % (7 : Int32)) + (1 : Int32)))), (.long q0), (.int (2 : Int32))])) _
      refine XS.iloadN X19.here hx rfl (hb hby at_185) rfl ?_
      show Steps p.tables e below (T19.setTop (mkF m 186 #[.val (.long q0), .second, .val (.int p1), .val (.int p2), .val (.int ((p2 &&& (7 : Int32)) % (7 : Int32))), .val (.int ((f0_e1 p2) % (((p2 &&& (7 : Int32)) % (7 : Int32)) + (1 : Int32)))), .val (.int (f0_s0_36001 p2)), .val (.ref b4), .val (.ref b11), .val (.long (f8 (f0_e11 q0 p2) (f0_e12 q0 p2))), .second, .val (.long (f0_e15 q0 p1 p2)), .second, .unset, .unset, .unset, .unset, .unset, .unset, .unset, .unset, .unset, .unset] [(.int p1), (.int (f0_s0_36001 p2)), (.int ((p2 &&& (7 : Int32)) % (7 : Int32))), (.int ((f0_e1 p2) % (((p2 &&& (7 : Int32)) % (7 : Int32)) + (1 : Int32)))), (.long q0), (.int (2 : Int32))])) _
      refine st20 _ ?_
      show Steps p.tables e below (T20.setTop (mkF m 189 #[.val (.long q0), .second, .val (.int p1), .val (.int p2), .val (.int ((p2 &&& (7 : Int32)) % (7 : Int32))), .val (.int ((f0_e1 p2) % (((p2 &&& (7 : Int32)) % (7 : Int32)) + (1 : Int32)))), .val (.int (f0_s0_36001 p2)), .val (.ref b4), .val (.ref b11), .val (.long (f8 (f0_e11 q0 p2) (f0_e12 q0 p2))), .second, .val (.long (f0_e15 q0 p1 p2)), .second, .unset, .unset, .unset, .unset, .unset, .unset, .unset, .unset, .unset, .unset] [(.int (f0_e16 q0 p1 p2))])) _
      refine XS.bipush X20.here hx rfl (hb hby at_189) ?_
      show Steps p.tables e below (T20.setTop (mkF m 191 #[.val (.long q0), .second, .val (.int p1), .val (.int p2), .val (.int ((p2 &&& (7 : Int32)) % (7 : Int32))), .val (.int ((f0_e1 p2) % (((p2 &&& (7 : Int32)) % (7 : Int32)) + (1 : Int32)))), .val (.int (f0_s0_36001 p2)), .val (.ref b4), .val (.ref b11), .val (.long (f8 (f0_e11 q0 p2) (f0_e12 q0 p2))), .second, .val (.long (f0_e15 q0 p1 p2)), .second, .unset, .unset, .unset, .unset, .unset, .unset, .unset, .unset, .unset, .unset] [(.int (8 : Int32)), (.int (f0_e16 q0 p1 p2))])) _
      refine XS.ishl X20.here hx rfl (hb hby at_191) rfl ?_
      show Steps p.tables e below (T20.setTop (mkF m 192 #[.val (.long q0), .second, .val (.int p1), .val (.int p2), .val (.int ((p2 &&& (7 : Int32)) % (7 : Int32))), .val (.int ((f0_e1 p2) % (((p2 &&& (7 : Int32)) % (7 : Int32)) + (1 : Int32)))), .val (.int (f0_s0_36001 p2)), .val (.ref b4), .val (.ref b11), .val (.long (f8 (f0_e11 q0 p2) (f0_e12 q0 p2))), .second, .val (.long (f0_e15 q0 p1 p2)), .second, .unset, .unset, .unset, .unset, .unset, .unset, .unset, .unset, .unset, .unset] [(.int ((f0_e16 q0 p1 p2) <<< ((8 : Int32) &&& 31)))])) _
      refine XS.iconst X20.here hx rfl (hb hby at_192) ?_
      show Steps p.tables e below (T20.setTop (mkF m 193 #[.val (.long q0), .second, .val (.int p1), .val (.int p2), .val (.int ((p2 &&& (7 : Int32)) % (7 : Int32))), .val (.int ((f0_e1 p2) % (((p2 &&& (7 : Int32)) % (7 : Int32)) + (1 : Int32)))), .val (.int (f0_s0_36001 p2)), .val (.ref b4), .val (.ref b11), .val (.long (f8 (f0_e11 q0 p2) (f0_e12 q0 p2))), .second, .val (.long (f0_e15 q0 p1 p2)), .second, .unset, .unset, .unset, .unset, .unset, .unset, .unset, .unset, .unset, .unset] [(.int (3 : Int32)), (.int ((f0_e16 q0 p1 p2) <<< ((8 : Int32) &&& 31)))])) _
      refine XS.lloadN X20.here hx rfl (hb hby at_193) rfl ?_
      show Steps p.tables e below (T20.setTop (mkF m 194 #[.val (.long q0), .second, .val (.int p1), .val (.int p2), .val (.int ((p2 &&& (7 : Int32)) % (7 : Int32))), .val (.int ((f0_e1 p2) % (((p2 &&& (7 : Int32)) % (7 : Int32)) + (1 : Int32)))), .val (.int (f0_s0_36001 p2)), .val (.ref b4), .val (.ref b11), .val (.long (f8 (f0_e11 q0 p2) (f0_e12 q0 p2))), .second, .val (.long (f0_e15 q0 p1 p2)), .second, .unset, .unset, .unset, .unset, .unset, .unset, .unset, .unset, .unset, .unset] [(.long q0), (.int (3 : Int32)), (.int ((f0_e16 q0 p1 p2) <<< ((8 : Int32) &&& 31)))])) _
      refine XS.iload X20.here hx rfl (hb hby at_194) rfl ?_
      show Steps p.tables e below (T20.setTop (mkF m 196 #[.val (.long q0), .second, .val (.int p1), .val (.int p2), .val (.int ((p2 &&& (7 : Int32)) % (7 : Int32))), .val (.int ((f0_e1 p2) % (((p2 &&& (7 : Int32)) % (7 : Int32)) + (1 : Int32)))), .val (.int (f0_s0_36001 p2)), .val (.ref b4), .val (.ref b11), .val (.long (f8 (f0_e11 q0 p2) (f0_e12 q0 p2))), .second, .val (.long (f0_e15 q0 p1 p2)), .second, .unset, .unset, .unset, .unset, .unset, .unset, .unset, .unset, .unset, .unset] [(.int ((f0_e1 p2) % (((p2 &&& (7 : Int32)) % (7 : Int32)) + (1 : Int32)))), (.long q0), (.int (3 : Int32)), (.int ((f0_e16 q0 p1 p2) <<< ((8 : Int32) &&& 31)))])) _
      refine XS.iload X20.here hx rfl (hb hby at_196) rfl ?_
      show Steps p.tables e below (T20.setTop (mkF m 198 #[.val (.long q0), .second, .val (.int p1), .val (.int p2), .val (.int ((p2 &&& (7 : Int32)) % (7 : Int32))), .val (.int ((f0_e1 p2) % (((p2 &&& (7 : Int32)) % (7 : Int32)) + (1 : Int32)))), .val (.int (f0_s0_36001 p2)), .val (.ref b4), .val (.ref b11), .val (.long (f8 (f0_e11 q0 p2) (f0_e12 q0 p2))), .second, .val (.long (f0_e15 q0 p1 p2)), .second, .unset, .unset, .unset, .unset, .unset, .unset, .unset, .unset, .unset, .unset] [(.int ((p2 &&& (7 : Int32)) % (7 : Int32))), (.int ((f0_e1 p2) % (((p2 &&& (7 : Int32)) % (7 : Int32)) + (1 : Int32)))), (.long q0), (.int (3 : Int32)), (.int ((f0_e16 q0 p1 p2) <<< ((8 : Int32) &&& 31)))])) _
      refine XS.iload X20.here hx rfl (hb hby at_198) rfl ?_
      show Steps p.tables e below (T20.setTop (mkF m 200 #[.val (.long q0), .second, .val (.int p1), .val (.int p2), .val (.int ((p2 &&& (7 : Int32)) % (7 : Int32))), .val (.int ((f0_e1 p2) % (((p2 &&& (7 : Int32)) % (7 : Int32)) + (1 : Int32)))), .val (.int (f0_s0_36001 p2)), .val (.ref b4), .val (.ref b11), .val (.long (f8 (f0_e11 q0 p2) (f0_e12 q0 p2))), .second, .val (.long (f0_e15 q0 p1 p2)), .second, .unset, .unset, .unset, .unset, .unset, .unset, .unset, .unset, .unset, .unset] [(.int (f0_s0_36001 p2)), (.int ((p2 &&& (7 : Int32)) % (7 : Int32))), (.int ((f0_e1 p2) % (((p2 &&& (7 : Int32)) % (7 : Int32)) + (1 : Int32)))), (.long q0), (.int (3 : Int32)), (.int ((f0_e16 q0 p1 p2) <<< ((8 : Int32) &&& 31)))])) _
      refine XS.iloadN X20.here hx rfl (hb hby at_200) rfl ?_
      show Steps p.tables e below (T20.setTop (mkF m 201 #[.val (.long q0), .second, .val (.int p1), .val (.int p2), .val (.int ((p2 &&& (7 : Int32)) % (7 : Int32))), .val (.int ((f0_e1 p2) % (((p2 &&& (7 : Int32)) % (7 : Int32)) + (1 : Int32)))), .val (.int (f0_s0_36001 p2)), .val (.ref b4), .val (.ref b11), .val (.long (f8 (f0_e11 q0 p2) (f0_e12 q0 p2))), .second, .val (.long (f0_e15 q0 p1 p2)), .second, .unset, .unset, .unset, .unset, .unset, .unset, .unset, .unset, .unset, .unset] [(.int p1), (.int (f0_s0_36001 p2)), (.int ((p2 &&& (7 : Int32)) % (7 : Int32))), (.int ((f0_e1 p2) % (((p2 &&& (7 : Int32)) % (7 : Int32)) + (1 : Int32)))), (.long q0), (.int (3 : Int32)), (.int ((f0_e16 q0 p1 p2) <<< ((8 : Int32) &&& 31)))])) _
      refine st21 _ ?_
      show Steps p.tables e below (T21.setTop (mkF m 204 #[.val (.long q0), .second, .val (.int p1), .val (.int p2), .val (.int ((p2 &&& (7 : Int32)) % (7 : Int32))), .val (.int ((f0_e1 p2) % (((p2 &&& (7 : Int32)) % (7 : Int32)) + (1 : Int32)))), .val (.int (f0_s0_36001 p2)), .val (.ref b4), .val (.ref b11), .val (.long (f8 (f0_e11 q0 p2) (f0_e12 q0 p2))), .second, .val (.long (f0_e15 q0 p1 p2)), .second, .unset, .unset, .unset, .unset, .unset, .unset, .unset, .unset, .unset, .unset] [(.int (f0_e17 q0 p1 p2)), (.int ((f0_e16 q0 p1 p2) <<< ((8 : Int32) &&& 31)))])) _
      refine XS.ior X21.here hx rfl (hb hby at_204) rfl ?_
      show Steps p.tables e below (T21.setTop (mkF m 205 #[.val (.long q0), .second, .val (.int p1), .val (.int p2), .val (.int ((p2 &&& (7 : Int32)) % (7 : Int32))), .val (.int ((f0_e1 p2) % (((p2 &&& (7 : Int32)) % (7 : Int32)) + (1 : Int32)))), .val (.int (f0_s0_36001 p2)), .val (.ref b4), .val (.ref b11), .val (.long (f8 (f0_e11 q0 p2) (f0_e12 q0 p2))), .second, .val (.long (f0_e15 q0 p1 p2)), .second, .unset, .unset, .unset, .unset, .unset, .unset, .unset, .unset, .unset, .unset] [(.int (((f0_e16 q0 p1 p2) <<< ((8 : Int32) &&& 31)) ||| (f0_e17 q0 p1 p2)))])) _
      refine XS.i2l X21.here hx rfl (hb hby at_205) rfl ?_
      show Steps p.tables e below (T21.setTop (mkF m 206 #[.val (.long q0), .second, .val (.int p1), .val (.int p2), .val (.int ((p2 &&& (7 : Int32)) % (7 : Int32))), .val (.int ((f0_e1 p2) % (((p2 &&& (7 : Int32)) % (7 : Int32)) + (1 : Int32)))), .val (.int (f0_s0_36001 p2)), .val (.ref b4), .val (.ref b11), .val (.long (f8 (f0_e11 q0 p2) (f0_e12 q0 p2))), .second, .val (.long (f0_e15 q0 p1 p2)), .second, .unset, .unset, .unset, .unset, .unset, .unset, .unset, .unset, .unset, .unset] [(.long (f0_e18 q0 p1 p2))])) _
      refine XS.lstore X21.here hx rfl (hb hby at_206) rfl (l' := #[.val (.long q0), .second, .val (.int p1), .val (.int p2), .val (.int ((p2 &&& (7 : Int32)) % (7 : Int32))), .val (.int ((f0_e1 p2) % (((p2 &&& (7 : Int32)) % (7 : Int32)) + (1 : Int32)))), .val (.int (f0_s0_36001 p2)), .val (.ref b4), .val (.ref b11), .val (.long (f8 (f0_e11 q0 p2) (f0_e12 q0 p2))), .second, .val (.long (f0_e15 q0 p1 p2)), .second, .val (.long (f0_e18 q0 p1 p2)), .second, .unset, .unset, .unset, .unset, .unset, .unset, .unset, .unset]) rfl ?_
      show Steps p.tables e below (T21.setTop (mkF m 208 #[.val (.long q0), .second, .val (.int p1), .val (.int p2), .val (.int ((p2 &&& (7 : Int32)) % (7 : Int32))), .val (.int ((f0_e1 p2) % (((p2 &&& (7 : Int32)) % (7 : Int32)) + (1 : Int32)))), .val (.int (f0_s0_36001 p2)), .val (.ref b4), .val (.ref b11), .val (.long (f8 (f0_e11 q0 p2) (f0_e12 q0 p2))), .second, .val (.long (f0_e15 q0 p1 p2)), .second, .val (.long (f0_e18 q0 p1 p2)), .second, .unset, .unset, .unset, .unset, .unset, .unset, .unset, .unset] [])) _
      refine XS.iconst X21.here hx rfl (hb hby at_208) ?_
      show Steps p.tables e below (T21.setTop (mkF m 209 #[.val (.long q0), .second, .val (.int p1), .val (.int p2), .val (.int ((p2 &&& (7 : Int32)) % (7 : Int32))), .val (.int ((f0_e1 p2) % (((p2 &&& (7 : Int32)) % (7 : Int32)) + (1 : Int32)))), .val (.int (f0_s0_36001 p2)), .val (.ref b4), .val (.ref b11), .val (.long (f8 (f0_e11 q0 p2) (f0_e12 q0 p2))), .second, .val (.long (f0_e15 q0 p1 p2)), .second, .val (.long (f0_e18 q0 p1 p2)), .second, .unset, .unset, .unset, .unset, .unset, .unset, .unset, .unset] [(.int (4 : Int32))])) _
      refine XS.lloadN X21.here hx rfl (hb hby at_209) rfl ?_
      show Steps p.tables e below (T21.setTop (mkF m 210 #[.val (.long q0), .second, .val (.int p1), .val (.int p2), .val (.int ((p2 &&& (7 : Int32)) % (7 : Int32))), .val (.int ((f0_e1 p2) % (((p2 &&& (7 : Int32)) % (7 : Int32)) + (1 : Int32)))), .val (.int (f0_s0_36001 p2)), .val (.ref b4), .val (.ref b11), .val (.long (f8 (f0_e11 q0 p2) (f0_e12 q0 p2))), .second, .val (.long (f0_e15 q0 p1 p2)), .second, .val (.long (f0_e18 q0 p1 p2)), .second, .unset, .unset, .unset, .unset, .unset, .unset, .unset, .unset] [(.long q0), (.int (4 : Int32))])) _
      refine XS.iload X21.here hx rfl (hb hby at_210) rfl ?_
      show Steps p.tables e below (T21.setTop (mkF m 212 #[.val (.long q0), .second, .val (.int p1), .val (.int p2), .val (.int ((p2 &&& (7 : Int32)) % (7 : Int32))), .val (.int ((f0_e1 p2) % (((p2 &&& (7 : Int32)) % (7 : Int32)) + (1 : Int32)))), .val (.int (f0_s0_36001 p2)), .val (.ref b4), .val (.ref b11), .val (.long (f8 (f0_e11 q0 p2) (f0_e12 q0 p2))), .second, .val (.long (f0_e15 q0 p1 p2)), .second, .val (.long (f0_e18 q0 p1 p2)), .second, .unset, .unset, .unset, .unset, .unset, .unset, .unset, .unset] [(.int ((f0_e1 p2) % (((p2 &&& (7 : Int32)) % (7 : Int32)) + (1 : Int32)))), (.long q0), (.int (4 : Int32))])) _
      refine XS.iload X21.here hx rfl (hb hby at_212) rfl ?_
      show Steps p.tables e below (T21.setTop (mkF m 214 #[.val (.long q0), .second, .val (.int p1), .val (.int p2), .val (.int ((p2 &&& (7 : Int32)) % (7 : Int32))), .val (.int ((f0_e1 p2) % (((p2 &&& (7 : Int32)) % (7 : Int32)) + (1 : Int32)))), .val (.int (f0_s0_36001 p2)), .val (.ref b4), .val (.ref b11), .val (.long (f8 (f0_e11 q0 p2) (f0_e12 q0 p2))), .second, .val (.long (f0_e15 q0 p1 p2)), .second, .val (.long (f0_e18 q0 p1 p2)), .second, .unset, .unset, .unset, .unset, .unset, .unset, .unset, .unset] [(.int ((p2 &&& (7 : Int32)) % (7 : Int32))), (.int ((f0_e1 p2) % (((p2 &&& (7 : Int32)) % (7 : Int32)) + (1 : Int32)))), (.long q0), (.int (4 : Int32))])) _
      refine XS.iload X21.here hx rfl (hb hby at_214) rfl ?_
      show Steps p.tables e below (T21.setTop (mkF m 216 #[.val (.long q0), .second, .val (.int p1), .val (.int p2), .val (.int ((p2 &&& (7 : Int32)) % (7 : Int32))), .val (.int ((f0_e1 p2) % (((p2 &&& (7 : Int32)) % (7 : Int32)) + (1 : Int32)))), .val (.int (f0_s0_36001 p2)), .val (.ref b4), .val (.ref b11), .val (.long (f8 (f0_e11 q0 p2) (f0_e12 q0 p2))), .second, .val (.long (f0_e15 q0 p1 p2)), .second, .val (.long (f0_e18 q0 p1 p2)), .second, .unset, .unset, .unset, .unset, .unset, .unset, .unset, .unset] [(.int (f0_s0_36001 p2)), (.int ((p2 &&& (7 : Int32)) % (7 : Int32))), (.int ((f0_e1 p2) % (((p2 &&& (7 : Int32)) % (7 : Int32)) + (1 : Int32)))), (.long q0), (.int (4 : Int32))])) _
      refine XS.iloadN X21.here hx rfl (hb hby at_216) rfl ?_
      show Steps p.tables e below (T21.setTop (mkF m 217 #[.val (.long q0), .second, .val (.int p1), .val (.int p2), .val (.int ((p2 &&& (7 : Int32)) % (7 : Int32))), .val (.int ((f0_e1 p2) % (((p2 &&& (7 : Int32)) % (7 : Int32)) + (1 : Int32)))), .val (.int (f0_s0_36001 p2)), .val (.ref b4), .val (.ref b11), .val (.long (f8 (f0_e11 q0 p2) (f0_e12 q0 p2))), .second, .val (.long (f0_e15 q0 p1 p2)), .second, .val (.long (f0_e18 q0 p1 p2)), .second, .unset, .unset, .unset, .unset, .unset, .unset, .unset, .unset] [(.int p1), (.int (f0_s0_36001 p2)), (.int ((p2 &&& (7 : Int32)) % (7 : Int32))), (.int ((f0_e1 p2) % (((p2 &&& (7 : Int32)) % (7 : Int32)) + (1 : Int32)))), (.long q0), (.int (4 : Int32))])) _
      refine st22 _ ?_
      show Steps p.tables e below (T22.setTop (mkF m 220 #[.val (.long q0), .second, .val (.int p1), .val (.int p2), .val (.int ((p2 &&& (7 : Int32)) % (7 : Int32))), .val (.int ((f0_e1 p2) % (((p2 &&& (7 : Int32)) % (7 : Int32)) + (1 : Int32)))), .val (.int (f0_s0_36001 p2)), .val (.ref b4), .val (.ref b11), .val (.long (f8 (f0_e11 q0 p2) (f0_e12 q0 p2))), .second, .val (.long (f0_e15 q0 p1 p2)), .second, .val (.long (f0_e18 q0 p1 p2)), .second, .unset, .unset, .unset, .unset, .unset, .unset, .unset, .unset] [(.int (f0_e19 q0 p1 p2))])) _
      refine XS.bipush X22.here hx rfl (hb hby at_220) ?_
      show Steps p.tables e below (T22.setTop (mkF m 222 #[.val (.long q0), .second, .val (.int p1), .val (.int p2), .val (.int ((p2 &&& (7 : Int32)) % (7 : Int32))), .val (.int ((f0_e1 p2) % (((p2 &&& (7 : Int32)) % (7 : Int32)) + (1 : Int32)))), .val (.int (f0_s0_36001 p2)), .val (.ref b4), .val (.ref b11), .val (.long (f8 (f0_e11 q0 p2) (f0_e12 q0 p2))), .second, .val (.long (f0_e15 q0 p1 p2)), .second, .val (.long (f0_e18 q0 p1 p2)), .second, .unset, .unset, .unset, .unset, .unset, .unset, .unset, .unset] [(.int (8 : Int32)), (.int (f0_e19 q0 p1 p2))])) _
      refine XS.ishl X22.here hx rfl (hb hby at_222) rfl ?_
      show Steps p.tables e below (T22.setTop (mkF m 223 #[.val (.long q0), .second, .val (.int p1), .val (.int p2), .val (.int ((p2 &&& (7 : Int32)) % (7 : Int32))), .val (.int ((f0_e1 p2) % (((p2 &&& (7 : Int32)) % (7 : Int32)) + (1 : Int32)))), .val (.int (f0_s0_36001 p2)), .val (.ref b4), .val (.ref b11), .val (.long (f8 (f0_e11 q0 p2) (f0_e12 q0 p2))), .second, .val (.long (f0_e15 q0 p1 p2)), .second, .val (.long (f0_e18 q0 p1 p2)), .second, .unset, .unset, .unset, .unset, .unset, .unset, .unset, .unset] [(.int ((f0_e19 q0 p1 p2) <<< ((8 : Int32) &&& 31)))])) _
      refine XS.iconst X22.here hx rfl (hb hby at_223) ?_
      show Steps p.tables e below (T22.setTop (mkF m 224 #[.val (.long q0), .second, .val (.int p1), .val (.int p2), .val (.int ((p2 &&& (7 : Int32)) % (7 : Int32))), .val (.int ((f0_e1 p2) % (((p2 &&& (7 : Int32)) % (7 : Int32)) + (1 : Int32)))), .val (.int (f0_s0_36001 p2)), .val (.ref b4), .val (.ref b11), .val (.long (f8 (f0_e11 q0 p2) (f0_e12 q0 p2))), .second, .val (.long (f0_e15 q0 p1 p2)), .second, .val (.long (f0_e18 q0 p1 p2)), .second, .unset, .unset, .unset, .unset, .unset, .unset, .unset, .unset] [(.int (5 : Int32)), (.int ((f0_e19 q0 p1 p2) <<< ((8 : Int32) &&& 31)))])) _
      refine XS.lloadN X22.here hx rfl (hb hby at_224) rfl ?_
      show Steps p.tables e below (T22.setTop (mkF m 225 #[.val (.long q0), .second, .val (.int p1), .val (.int p2), .val (.int ((p2 &&& (7 : Int32)) % (7 : Int32))), .val (.int ((f0_e1 p2) % (((p2 &&& (7 : Int32)) % (7 : Int32)) + (1 : Int32)))), .val (.int (f0_s0_36001 p2)), .val (.ref b4), .val (.ref b11), .val (.long (f8 (f0_e11 q0 p2) (f0_e12 q0 p2))), .second, .val (.long (f0_e15 q0 p1 p2)), .second, .val (.long (f0_e18 q0 p1 p2)), .second, .unset, .unset, .unset, .unset, .unset, .unset, .unset, .unset] [(.long q0), (.int (5 : Int32)), (.int ((f0_e19 q0 p1 p2) <<< ((8 : Int32) &&& 31)))])) _
      refine XS.iload X22.here hx rfl (hb hby at_225) rfl ?_
      show Steps p.tables e below (T22.setTop (mkF m 227 #[.val (.long q0), .second, .val (.int p1), .val (.int p2), .val (.int ((p2 &&& (7 : Int32)) % (7 : Int32))), .val (.int ((f0_e1 p2) % (((p2 &&& (7 : Int32)) % (7 : Int32)) + (1 : Int32)))), .val (.int (f0_s0_36001 p2)), .val (.ref b4), .val (.ref b11), .val (.long (f8 (f0_e11 q0 p2) (f0_e12 q0 p2))), .second, .val (.long (f0_e15 q0 p1 p2)), .second, .val (.long (f0_e18 q0 p1 p2)), .second, .unset, .unset, .unset, .unset, .unset, .unset, .unset, .unset] [(.int ((f0_e1 p2) % (((p2 &&& (7 : Int32)) % (7 : Int32)) + (1 : Int32)))), (.long q0), (.int (5 : Int32)), (.int ((f0_e19 q0 p1 p2) <<< ((8 : Int32) &&& 31)))])) _
      refine XS.iload X22.here hx rfl (hb hby at_227) rfl ?_
      show Steps p.tables e below (T22.setTop (mkF m 229 #[.val (.long q0), .second, .val (.int p1), .val (.int p2), .val (.int ((p2 &&& (7 : Int32)) % (7 : Int32))), .val (.int ((f0_e1 p2) % (((p2 &&& (7 : Int32)) % (7 : Int32)) + (1 : Int32)))), .val (.int (f0_s0_36001 p2)), .val (.ref b4), .val (.ref b11), .val (.long (f8 (f0_e11 q0 p2) (f0_e12 q0 p2))), .second, .val (.long (f0_e15 q0 p1 p2)), .second, .val (.long (f0_e18 q0 p1 p2)), .second, .unset, .unset, .unset, .unset, .unset, .unset, .unset, .unset] [(.int ((p2 &&& (7 : Int32)) % (7 : Int32))), (.int ((f0_e1 p2) % (((p2 &&& (7 : Int32)) % (7 : Int32)) + (1 : Int32)))), (.long q0), (.int (5 : Int32)), (.int ((f0_e19 q0 p1 p2) <<< ((8 : Int32) &&& 31)))])) _
      refine XS.iload X22.here hx rfl (hb hby at_229) rfl ?_
      show Steps p.tables e below (T22.setTop (mkF m 231 #[.val (.long q0), .second, .val (.int p1), .val (.int p2), .val (.int ((p2 &&& (7 : Int32)) % (7 : Int32))), .val (.int ((f0_e1 p2) % (((p2 &&& (7 : Int32)) % (7 : Int32)) + (1 : Int32)))), .val (.int (f0_s0_36001 p2)), .val (.ref b4), .val (.ref b11), .val (.long (f8 (f0_e11 q0 p2) (f0_e12 q0 p2))), .second, .val (.long (f0_e15 q0 p1 p2)), .second, .val (.long (f0_e18 q0 p1 p2)), .second, .unset, .unset, .unset, .unset, .unset, .unset, .unset, .unset] [(.int (f0_s0_36001 p2)), (.int ((p2 &&& (7 : Int32)) % (7 : Int32))), (.int ((f0_e1 p2) % (((p2 &&& (7 : Int32)) % (7 : Int32)) + (1 : Int32)))), (.long q0), (.int (5 : Int32)), (.int ((f0_e19 q0 p1 p2) <<< ((8 : Int32) &&& 31)))])) _
      refine XS.iloadN X22.here hx rfl (hb hby at_231) rfl ?_
      show Steps p.tables e below (T22.setTop (mkF m 232 #[.val (.long q0), .second, .val (.int p1), .val (.int p2), .val (.int ((p2 &&& (7 : Int32)) % (7 : Int32))), .val (.int ((f0_e1 p2) % (((p2 &&& (7 : Int32)) % (7 : Int32)) + (1 : Int32)))), .val (.int (f0_s0_36001 p2)), .val (.ref b4), .val (.ref b11), .val (.long (f8 (f0_e11 q0 p2) (f0_e12 q0 p2))), .second, .val (.long (f0_e15 q0 p1 p2)), .second, .val (.long (f0_e18 q0 p1 p2)), .second, .unset, .unset, .unset, .unset, .unset, .unset, .unset, .unset] [(.int p1), (.int (f0_s0_36001 p2)), (.int ((p2 &&& (7 : Int32)) % (7 : Int32))), (.int ((f0_e1 p2) % (((p2 &&& (7 : Int32)) % (7 : Int32)) + (1 : Int32)))), (.long q0), (.int (5 : Int32)), (.int ((f0_e19 q0 p1 p2) <<< ((8 : Int32) &&& 31)))])) _
      refine st23 _ ?_
      show Steps p.tables e below (T23.setTop (mkF m 235 #[.val (.long q0), .second, .val (.int p1), .val (.int p2), .val (.int ((p2 &&& (7 : Int32)) % (7 : Int32))), .val (.int ((f0_e1 p2) % (((p2 &&& (7 : Int32)) % (7 : Int32)) + (1 : Int32)))), .val (.int (f0_s0_36001 p2)), .val (.ref b4), .val (.ref b11), .val (.long (f8 (f0_e11 q0 p2) (f0_e12 q0 p2))), .second, .val (.long (f0_e15 q0 p1 p2)), .second, .val (.long (f0_e18 q0 p1 p2)), .second, .unset, .unset, .unset, .unset, .unset, .unset, .unset, .unset] [(.int (f0_e20 q0 p1 p2)), (.int ((f0_e19 q0 p1 p2) <<< ((8 : Int32) &&& 31)))])) _
      refine XS.ior X23.here hx rfl (hb hby at_235) rfl ?_
      show Steps p.tables e below (T23.setTop (mkF m 236 #[.val (.long q0), .second, .val (.int p1), .val (.int p2), .val (.int ((p2 &&& (7 : Int32)) % (7 : Int32))), .val (.int ((f0_e1 p2) % (((p2 &&& (7 : Int32)) % (7 : Int32)) + (1 : Int32)))), .val (.int (f0_s0_36001 p2)), .val (.ref b4), .val (.ref b11), .val (.long (f8 (f0_e11 q0 p2) (f0_e12 q0 p2))), .second, .val (.long (f0_e15 q0 p1 p2)), .second, .val (.long (f0_e18 q0 p1 p2)), .second, .unset, .unset, .unset, .unset, .unset, .unset, .unset, .unset] [(.int (((f0_e19 q0 p1 p2) <<< ((8 : Int32) &&& 31)) ||| (f0_e20 q0 p1 p2)))])) _
      refine XS.i2l X23.here hx rfl (hb hby at_236) rfl ?_
      show Steps p.tables e below (T23.setTop (mkF m 237 #[.val (.long q0), .second, .val (.int p1), .val (.int p2), .val (.int ((p2 &&& (7 : Int32)) % (7 : Int32))), .val (.int ((f0_e1 p2) % (((p2 &&& (7 : Int32)) % (7 : Int32)) + (1 : Int32)))), .val (.int (f0_s0_36001 p2)), .val (.ref b4), .val (.ref b11), .val (.long (f8 (f0_e11 q0 p2) (f0_e12 q0 p2))), .second, .val (.long (f0_e15 q0 p1 p2)), .second, .val (.long (f0_e18 q0 p1 p2)), .second, .unset, .unset, .unset, .unset, .unset, .unset, .unset, .unset] [(.long (f0_e21 q0 p1 p2))])) _
      refine XS.lstore X23.here hx rfl (hb hby at_237) rfl (l' := #[.val (.long q0), .second, .val (.int p1), .val (.int p2), .val (.int ((p2 &&& (7 : Int32)) % (7 : Int32))), .val (.int ((f0_e1 p2) % (((p2 &&& (7 : Int32)) % (7 : Int32)) + (1 : Int32)))), .val (.int (f0_s0_36001 p2)), .val (.ref b4), .val (.ref b11), .val (.long (f8 (f0_e11 q0 p2) (f0_e12 q0 p2))), .second, .val (.long (f0_e15 q0 p1 p2)), .second, .val (.long (f0_e18 q0 p1 p2)), .second, .val (.long (f0_e21 q0 p1 p2)), .second, .unset, .unset, .unset, .unset, .unset, .unset]) rfl ?_
      show Steps p.tables e below (T23.setTop (mkF m 239 #[.val (.long q0), .second, .val (.int p1), .val (.int p2), .val (.int ((p2 &&& (7 : Int32)) % (7 : Int32))), .val (.int ((f0_e1 p2) % (((p2 &&& (7 : Int32)) % (7 : Int32)) + (1 : Int32)))), .val (.int (f0_s0_36001 p2)), .val (.ref b4), .val (.ref b11), .val (.long (f8 (f0_e11 q0 p2) (f0_e12 q0 p2))), .second, .val (.long (f0_e15 q0 p1 p2)), .second, .val (.long (f0_e18 q0 p1 p2)), .second, .val (.long (f0_e21 q0 p1 p2)), .second, .unset, .unset, .unset, .unset, .unset, .unset] [])) _
      refine XS.bipush X23.here hx rfl (hb hby at_239) ?_
      show Steps p.tables e below (T23.setTop (mkF m 241 #[.val (.long q0), .second, .val (.int p1), .val (.int p2), .val (.int ((p2 &&& (7 : Int32)) % (7 : Int32))), .val (.int ((f0_e1 p2) % (((p2 &&& (7 : Int32)) % (7 : Int32)) + (1 : Int32)))), .val (.int (f0_s0_36001 p2)), .val (.ref b4), .val (.ref b11), .val (.long (f8 (f0_e11 q0 p2) (f0_e12 q0 p2))), .second, .val (.long (f0_e15 q0 p1 p2)), .second, .val (.long (f0_e18 q0 p1 p2)), .second, .val (.long (f0_e21 q0 p1 p2)), .second, .unset, .unset, .unset, .unset, .unset, .unset] [(.int (6 : Int32))])) _
      refine XS.lloadN X23.here hx rfl (hb hby at_241) rfl ?_
      show Steps p.tables e below (T23.setTop (mkF m 242 #[.val (.long q0), .second, .val (.int p1), .val (.int p2), .val (.int ((p2 &&& (7 : Int32)) % (7 : Int32))), .val (.int ((f0_e1 p2) % (((p2 &&& (7 : Int32)) % (7 : Int32)) + (1 : Int32)))), .val (.int (f0_s0_36001 p2)), .val (.ref b4), .val (.ref b11), .val (.long (f8 (f0_e11 q0 p2) (f0_e12 q0 p2))), .second, .val (.long (f0_e15 q0 p1 p2)), .second, .val (.long (f0_e18 q0 p1 p2)), .second, .val (.long (f0_e21 q0 p1 p2)), .second, .unset, .unset, .unset, .unset, .unset, .unset] [(.long q0), (.int (6 : Int32))])) _
      refine XS.iload X23.here hx rfl (hb hby at_242) rfl ?_
      show Steps p.tables e below (T23.setTop (mkF m 244 #[.val (.long q0), .second, .val (.int p1), .val (.int p2), .val (.int ((p2 &&& (7 : Int32)) % (7 : Int32))), .val (.int ((f0_e1 p2) % (((p2 &&& (7 : Int32)) % (7 : Int32)) + (1 : Int32)))), .val (.int (f0_s0_36001 p2)), .val (.ref b4), .val (.ref b11), .val (.long (f8 (f0_e11 q0 p2) (f0_e12 q0 p2))), .second, .val (.long (f0_e15 q0 p1 p2)), .second, .val (.long (f0_e18 q0 p1 p2)), .second, .val (.long (f0_e21 q0 p1 p2)), .second, .unset, .unset, .unset, .unset, .unset, .unset] [(.int ((f0_e1 p2) % (((p2 &&& (7 : Int32)) % (7 : Int32)) + (1 : Int32)))), (.long q0), (.int (6 : Int32))])) _
      refine XS.iload X23.here hx rfl (hb hby at_244) rfl ?_
      show Steps p.tables e below (T23.setTop (mkF m 246 #[.val (.long q0), .second, .val (.int p1), .val (.int p2), .val (.int ((p2 &&& (7 : Int32)) % (7 : Int32))), .val (.int ((f0_e1 p2) % (((p2 &&& (7 : Int32)) % (7 : Int32)) + (1 : Int32)))), .val (.int (f0_s0_36001 p2)), .val (.ref b4), .val (.ref b11), .val (.long (f8 (f0_e11 q0 p2) (f0_e12 q0 p2))), .second, .val (.long (f0_e15 q0 p1 p2)), .second, .val (.long (f0_e18 q0 p1 p2)), .second, .val (.long (f0_e21 q0 p1 p2)), .second, .unset, .unset, .unset, .unset, .unset, .unset] [(.int ((p2 &&& (7 : Int32)) % (7 : Int32))), (.int ((f0_e1 p2) % (((p2 &&& (7 : Int32)) % (7 : Int32)) + (1 : Int32)))), (.long q0), (.int (6 : Int32))])) _
      refine XS.iload X23.here hx rfl (hb hby at_246) rfl ?_
      show Steps p.tables e below (T23.setTop (mkF m 248 #[.val (.long q0), .second, .val (.int p1), .val (.int p2), .val (.int ((p2 &&& (7 : Int32)) % (7 : Int32))), .val (.int ((f0_e1 p2) % (((p2 &&& (7 : Int32)) % (7 : Int32)) + (1 : Int32)))), .val (.int (f0_s0_36001 p2)), .val (.ref b4), .val (.ref b11), .val (.long (f8 (f0_e11 q0 p2) (f0_e12 q0 p2))), .second, .val (.long (f0_e15 q0 p1 p2)), .second, .val (.long (f0_e18 q0 p1 p2)), .second, .val (.long (f0_e21 q0 p1 p2)), .second, .unset, .unset, .unset, .unset, .unset, .unset] [(.int (f0_s0_36001 p2)), (.int ((p2 &&& (7 : Int32)) % (7 : Int32))), (.int ((f0_e1 p2) % (((p2 &&& (7 : Int32)) % (7 : Int32)) + (1 : Int32)))), (.long q0), (.int (6 : Int32))])) _
      refine XS.iloadN X23.here hx rfl (hb hby at_248) rfl ?_
      show Steps p.tables e below (T23.setTop (mkF m 249 #[.val (.long q0), .second, .val (.int p1), .val (.int p2), .val (.int ((p2 &&& (7 : Int32)) % (7 : Int32))), .val (.int ((f0_e1 p2) % (((p2 &&& (7 : Int32)) % (7 : Int32)) + (1 : Int32)))), .val (.int (f0_s0_36001 p2)), .val (.ref b4), .val (.ref b11), .val (.long (f8 (f0_e11 q0 p2) (f0_e12 q0 p2))), .second, .val (.long (f0_e15 q0 p1 p2)), .second, .val (.long (f0_e18 q0 p1 p2)), .second, .val (.long (f0_e21 q0 p1 p2)), .second, .unset, .unset, .unset, .unset, .unset, .unset] [(.int p1), (.int (f0_s0_36001 p2)), (.int ((p2 &&& (7 : Int32)) % (7 : Int32))), (.int ((f0_e1 p2) % (((p2 &&& (7 : Int32)) % (7 : Int32)) + (1 : Int32)))), (.long q0), (.int (6 : Int32))])) _
      refine st24 _ ?_
      show Steps p.tables e below (T24.setTop (mkF m 252 #[.val (.long q0), .second, .val (.int p1), .val (.int p2), .val (.int ((p2 &&& (7 : Int32)) % (7 : Int32))), .val (.int ((f0_e1 p2) % (((p2 &&& (7 : Int32)) % (7 : Int32)) + (1 : Int32)))), .val (.int (f0_s0_36001 p2)), .val (.ref b4), .val (.ref b11), .val (.long (f8 (f0_e11 q0 p2) (f0_e12 q0 p2))), .second, .val (.long (f0_e15 q0 p1 p2)), .second, .val (.long (f0_e18 q0 p1 p2)), .second, .val (.long (f0_e21 q0 p1 p2)), .second, .unset, .unset, .unset, .unset, .unset, .unset] [(.int (f0_e22 q0 p1 p2))])) _
      refine XS.bipush X24.here hx rfl (hb hby at_252) ?_
      show Steps p.tables e below (T24.setTop (mkF m 254 #[.val (.long q0), .second, .val (.int p1), .val (.int p2), .val (.int ((p2 &&& (7 : Int32)) % (7 : Int32))), .val (.int ((f0_e1 p2) % (((p2 &&& (7 : Int32)) % (7 : Int32)) + (1 : Int32)))), .val (.int (f0_s0_36001 p2)), .val (.ref b4), .val (.ref b11), .val (.long (f8 (f0_e11 q0 p2) (f0_e12 q0 p2))), .second, .val (.long (f0_e15 q0 p1 p2)), .second, .val (.long (f0_e18 q0 p1 p2)), .second, .val (.long (f0_e21 q0 p1 p2)), .second, .unset, .unset, .unset, .unset, .unset, .unset] [(.int (8 : Int32)), (.int (f0_e22 q0 p1 p2))])) _
      refine XS.ishl X24.here hx rfl (hb hby at_254) rfl ?_
      show Steps p.tables e below (T24.setTop (mkF m 255 #[.val (.long q0), .second, .val (.int p1), .val (.int p2), .val (.int ((p2 &&& (7 : Int32)) % (7 : Int32))), .val (.int ((f0_e1 p2) % (((p2 &&& (7 : Int32)) % (7 : Int32)) + (1 : Int32)))), .val (.int (f0_s0_36001 p2)), .val (.ref b4), .val (.ref b11), .val (.long (f8 (f0_e11 q0 p2) (f0_e12 q0 p2))), .second, .val (.long (f0_e15 q0 p1 p2)), .second, .val (.long (f0_e18 q0 p1 p2)), .second, .val (.long (f0_e21 q0 p1 p2)), .second, .unset, .unset, .unset, .unset, .unset, .unset] [(.int ((f0_e22 q0 p1 p2) <<< ((8 : Int32) &&& 31)))])) _
      refine XS.bipush X24.here hx rfl (hb hby at_255) ?_
      show Steps p.tables e below (T24.setTop (mkF m 257 #[.val (.long q0), .second, .val (.int p1), .val (.int p2), .val (.int ((p2 &&& (7 : Int32)) % (7 : Int32))), .val (.int ((f0_e1 p2) % (((p2 &&& (7 : Int32)) % (7 : Int32)) + (1 : Int32)))), .val (.int (f0_s0_36001 p2)), .val (.ref b4), .val (.ref b11), .val (.long (f8 (f0_e11 q0 p2) (f0_e12 q0 p2))), .second, .val (.long (f0_e15 q0 p1 p2)), .second, .val (.long (f0_e18 q0 p1 p2)), .second, .val (.long (f0_e21 q0 p1 p2)), .second, .unset, .unset, .unset, .unset, .unset, .unset] [(.int (7 : Int32)), (.int ((f0_e22 q0 p1 p2) <<< ((8 : Int32) &&& 31)))])) _
      refine XS.lloadN X24.here hx rfl (hb hby at_257) rfl ?_
      show Steps p.tables e below (T24.setTop (mkF m 258 #[.val (.long q0), .second, .val (.int p1), .val (.int p2), .val (.int ((p2 &&& (7 : Int32)) % (7 : Int32))), .val (.int ((f0_e1 p2) % (((p2 &&& (7 : Int32)) % (7 : Int32)) + (1 : Int32)))), .val (.int (f0_s0_36001 p2)), .val (.ref b4), .val (.ref b11), .val (.long (f8 (f0_e11 q0 p2) (f0_e12 q0 p2))), .second, .val (.long (f0_e15 q0 p1 p2)), .second, .val (.long (f0_e18 q0 p1 p2)), .second, .val (.long (f0_e21 q0 p1 p2)), .second, .unset, .unset, .unset, .unset, .unset, .unset] [(.long q0), (.int (7 : Int32)), (.int ((f0_e22 q0 p1 p2) <<< ((8 : Int32) &&& 31)))])) _
      refine XS.iload X24.here hx rfl (hb hby at_258) rfl ?_
      show Steps p.tables e below (T24.setTop (mkF m 260 #[.val (.long q0), .second, .val (.int p1), .val (.int p2), .val (.int ((p2 &&& (7 : Int32)) % (7 : Int32))), .val (.int ((f0_e1 p2) % (((p2 &&& (7 : Int32)) % (7 : Int32)) + (1 : Int32)))), .val (.int (f0_s0_36001 p2)), .val (.ref b4), .val (.ref b11), .val (.long (f8 (f0_e11 q0 p2) (f0_e12 q0 p2))), .second, .val (.long (f0_e15 q0 p1 p2)), .second, .val (.long (f0_e18 q0 p1 p2)), .second, .val (.long (f0_e21 q0 p1 p2)), .second, .unset, .unset, .unset, .unset, .unset, .unset] [(.int ((f0_e1 p2) % (((p2 &&& (7 : Int32)) % (7 : Int32)) + (1 : Int32)))), (.long q0), (.int (7 : Int32)), (.int ((f0_e22 q0 p1 p2) <<< ((8 : Int32) &&& 31)))])) _
      refine XS.iload X24.here hx rfl (hb hby at_260) rfl ?_
      show Steps p.tables e below (T24.setTop (mkF m 262 #[.val (.long q0), .second, .val (.int p1), .val (.int p2), .val (.int ((p2 &&& (7 : Int32)) % (7 : Int32))), .val (.int ((f0_e1 p2) % (((p2 &&& (7 : Int32)) % (7 : Int32)) + (1 : Int32)))), .val (.int (f0_s0_36001 p2)), .val (.ref b4), .val (.ref b11), .val (.long (f8 (f0_e11 q0 p2) (f0_e12 q0 p2))), .second, .val (.long (f0_e15 q0 p1 p2)), .second, .val (.long (f0_e18 q0 p1 p2)), .second, .val (.long (f0_e21 q0 p1 p2)), .second, .unset, .unset, .unset, .unset, .unset, .unset] [(.int ((p2 &&& (7 : Int32)) % (7 : Int32))), (.int ((f0_e1 p2) % (((p2 &&& (7 : Int32)) % (7 : Int32)) + (1 : Int32)))), (.long q0), (.int (7 : Int32)), (.int ((f0_e22 q0 p1 p2) <<< ((8 : Int32) &&& 31)))])) _
      refine XS.iload X24.here hx rfl (hb hby at_262) rfl ?_
      show Steps p.tables e below (T24.setTop (mkF m 264 #[.val (.long q0), .second, .val (.int p1), .val (.int p2), .val (.int ((p2 &&& (7 : Int32)) % (7 : Int32))), .val (.int ((f0_e1 p2) % (((p2 &&& (7 : Int32)) % (7 : Int32)) + (1 : Int32)))), .val (.int (f0_s0_36001 p2)), .val (.ref b4), .val (.ref b11), .val (.long (f8 (f0_e11 q0 p2) (f0_e12 q0 p2))), .second, .val (.long (f0_e15 q0 p1 p2)), .second, .val (.long (f0_e18 q0 p1 p2)), .second, .val (.long (f0_e21 q0 p1 p2)), .second, .unset, .unset, .unset, .unset, .unset, .unset] [(.int (f0_s0_36001 p2)), (.int ((p2 &&& (7 : Int32)) % (7 : Int32))), (.int ((f0_e1 p2) % (((p2 &&& (7 : Int32)) % (7 : Int32)) + (1 : Int32)))), (.long q0), (.int (7 : Int32)), (.int ((f0_e22 q0 p1 p2) <<< ((8 : Int32) &&& 31)))])) _
      refine XS.iloadN X24.here hx rfl (hb hby at_264) rfl ?_
      show Steps p.tables e below (T24.setTop (mkF m 265 #[.val (.long q0), .second, .val (.int p1), .val (.int p2), .val (.int ((p2 &&& (7 : Int32)) % (7 : Int32))), .val (.int ((f0_e1 p2) % (((p2 &&& (7 : Int32)) % (7 : Int32)) + (1 : Int32)))), .val (.int (f0_s0_36001 p2)), .val (.ref b4), .val (.ref b11), .val (.long (f8 (f0_e11 q0 p2) (f0_e12 q0 p2))), .second, .val (.long (f0_e15 q0 p1 p2)), .second, .val (.long (f0_e18 q0 p1 p2)), .second, .val (.long (f0_e21 q0 p1 p2)), .second, .unset, .unset, .unset, .unset, .unset, .unset] [(.int p1), (.int (f0_s0_36001 p2)), (.int ((p2 &&& (7 : Int32)) % (7 : Int32))), (.int ((f0_e1 p2) % (((p2 &&& (7 : Int32)) % (7 : Int32)) + (1 : Int32)))), (.long q0), (.int (7 : Int32)), (.int ((f0_e22 q0 p1 p2) <<< ((8 : Int32) &&& 31)))])) _
      refine st25 _ ?_
      show Steps p.tables e below (T25.setTop (mkF m 268 #[.val (.long q0), .second, .val (.int p1), .val (.int p2), .val (.int ((p2 &&& (7 : Int32)) % (7 : Int32))), .val (.int ((f0_e1 p2) % (((p2 &&& (7 : Int32)) % (7 : Int32)) + (1 : Int32)))), .val (.int (f0_s0_36001 p2)), .val (.ref b4), .val (.ref b11), .val (.long (f8 (f0_e11 q0 p2) (f0_e12 q0 p2))), .second, .val (.long (f0_e15 q0 p1 p2)), .second, .val (.long (f0_e18 q0 p1 p2)), .second, .val (.long (f0_e21 q0 p1 p2)), .second, .unset, .unset, .unset, .unset, .unset, .unset] [(.int (f0_e23 q0 p1 p2)), (.int ((f0_e22 q0 p1 p2) <<< ((8 : Int32) &&& 31)))])) _
      refine XS.ior X25.here hx rfl (hb hby at_268) rfl ?_
      show Steps p.tables e below (T25.setTop (mkF m 269 #[.val (.long q0), .second, .val (.int p1), .val (.int p2), .val (.int ((p2 &&& (7 : Int32)) % (7 : Int32))), .val (.int ((f0_e1 p2) % (((p2 &&& (7 : Int32)) % (7 : Int32)) + (1 : Int32)))), .val (.int (f0_s0_36001 p2)), .val (.ref b4), .val (.ref b11), .val (.long (f8 (f0_e11 q0 p2) (f0_e12 q0 p2))), .second, .val (.long (f0_e15 q0 p1 p2)), .second, .val (.long (f0_e18 q0 p1 p2)), .second, .val (.long (f0_e21 q0 p1 p2)), .second, .unset, .unset, .unset, .unset, .unset, .unset] [(.int (((f0_e22 q0 p1 p2) <<< ((8 : Int32) &&& 31)) ||| (f0_e23 q0 p1 p2)))])) _
      refine XS.i2l X25.here hx rfl (hb hby at_269) rfl ?_
      show Steps p.tables e below (T25.setTop (mkF m 270 #[.val (.long q0), .second, .val (.int p1), .val (.int p2), .val (.int ((p2 &&& (7 : Int32)) % (7 : Int32))), .val (.int ((f0_e1 p2) % (((p2 &&& (7 : Int32)) % (7 : Int32)) + (1 : Int32)))), .val (.int (f0_s0_36001 p2)), .val (.ref b4), .val (.ref b11), .val (.long (f8 (f0_e11 q0 p2) (f0_e12 q0 p2))), .second, .val (.long (f0_e15 q0 p1 p2)), .second, .val (.long (f0_e18 q0 p1 p2)), .second, .val (.long (f0_e21 q0 p1 p2)), .second, .unset, .unset, .unset, .unset, .unset, .unset] [(.long (f0_e24 q0 p1 p2))])) _
      refine XS.lstore X25.here hx rfl (hb hby at_270) rfl (l' := #[.val (.long q0), .second, .val (.int p1), .val (.int p2), .val (.int ((p2 &&& (7 : Int32)) % (7 : Int32))), .val (.int ((f0_e1 p2) % (((p2 &&& (7 : Int32)) % (7 : Int32)) + (1 : Int32)))), .val (.int (f0_s0_36001 p2)), .val (.ref b4), .val (.ref b11), .val (.long (f8 (f0_e11 q0 p2) (f0_e12 q0 p2))), .second, .val (.long (f0_e15 q0 p1 p2)), .second, .val (.long (f0_e18 q0 p1 p2)), .second, .val (.long (f0_e21 q0 p1 p2)), .second, .val (.long (f0_e24 q0 p1 p2)), .second, .unset, .unset, .unset, .unset]) rfl ?_
      show Steps p.tables e below (T25.setTop (mkF m 272 #[.val (.long q0), .second, .val (.int p1), .val (.int p2), .val (.int ((p2 &&& (7 : Int32)) % (7 : Int32))), .val (.int ((f0_e1 p2) % (((p2 &&& (7 : Int32)) % (7 : Int32)) + (1 : Int32)))), .val (.int (f0_s0_36001 p2)), .val (.ref b4), .val (.ref b11), .val (.long (f8 (f0_e11 q0 p2) (f0_e12 q0 p2))), .second, .val (.long (f0_e15 q0 p1 p2)), .second, .val (.long (f0_e18 q0 p1 p2)), .second, .val (.long (f0_e21 q0 p1 p2)), .second, .val (.long (f0_e24 q0 p1 p2)), .second, .unset, .unset, .unset, .unset] [])) _
      refine XS.lload X25.here hx rfl (hb hby at_272) rfl ?_
      show Steps p.tables e below (T25.setTop (mkF m 274 #[.val (.long q0), .second, .val (.int p1), .val (.int p2), .val (.int ((p2 &&& (7 : Int32)) % (7 : Int32))), .val (.int ((f0_e1 p2) % (((p2 &&& (7 : Int32)) % (7 : Int32)) + (1 : Int32)))), .val (.int (f0_s0_36001 p2)), .val (.ref b4), .val (.ref b11), .val (.long (f8 (f0_e11 q0 p2) (f0_e12 q0 p2))), .second, .val (.long (f0_e15 q0 p1 p2)), .second, .val (.long (f0_e18 q0 p1 p2)), .second, .val (.long (f0_e21 q0 p1 p2)), .second, .val (.long (f0_e24 q0 p1 p2)), .second, .unset, .unset, .unset, .unset] [(.long (f0_e15 q0 p1 p2))])) _
      refine XS.lload X25.here hx rfl (hb hby at_274) rfl ?_
      show Steps p.tables e below (T25.setTop (mkF m 276 #[.val (.long q0), .second, .val (.int p1), .val (.int p2), .val (.int ((p2 &&& (7 : Int32)) % (7 : Int32))), .val (.int ((f0_e1 p2) % (((p2 &&& (7 : Int32)) % (7 : Int32)) + (1 : Int32)))), .val (.int (f0_s0_36001 p2)), .val (.ref b4), .val (.ref b11), .val (.long (f8 (f0_e11 q0 p2) (f0_e12 q0 p2))), .second, .val (.long (f0_e15 q0 p1 p2)), .second, .val (.long (f0_e18 q0 p1 p2)), .second, .val (.long (f0_e21 q0 p1 p2)), .second, .val (.long (f0_e24 q0 p1 p2)), .second, .unset, .unset, .unset, .unset] [(.long (f0_e18 q0 p1 p2)), (.long (f0_e15 q0 p1 p2))])) _
      refine XS.ladd X25.here hx rfl (hb hby at_276) rfl ?_
      show Steps p.tables e below (T25.setTop (mkF m 277 #[.val (.long q0), .second, .val (.int p1), .val (.int p2), .val (.int ((p2 &&& (7 : Int32)) % (7 : Int32))), .val (.int ((f0_e1 p2) % (((p2 &&& (7 : Int32)) % (7 : Int32)) + (1 : Int32)))), .val (.int (f0_s0_36001 p2)), .val (.ref b4), .val (.ref b11), .val (.long (f8 (f0_e11 q0 p2) (f0_e12 q0 p2))), .second, .val (.long (f0_e15 q0 p1 p2)), .second, .val (.long (f0_e18 q0 p1 p2)), .second, .val (.long (f0_e21 q0 p1 p2)), .second, .val (.long (f0_e24 q0 p1 p2)), .second, .unset, .unset, .unset, .unset] [(.long ((f0_e15 q0 p1 p2) + (f0_e18 q0 p1 p2)))])) _
      refine XS.lload X25.here hx rfl (hb hby at_277) rfl ?_
      show Steps p.tables e below (T25.setTop (mkF m 279 #[.val (.long q0), .second, .val (.int p1), .val (.int p2), .val (.int ((p2 &&& (7 : Int32)) % (7 : Int32))), .val (.int ((f0_e1 p2) % (((p2 &&& (7 : Int32)) % (7 : Int32)) + (1 : Int32)))), .val (.int (f0_s0_36001 p2)), .val (.ref b4), .val (.ref b11), .val (.long (f8 (f0_e11 q0 p2) (f0_e12 q0 p2))), .second, .val (.long (f0_e15 q0 p1 p2)), .second, .val (.long (f0_e18 q0 p1 p2)), .second, .val (.long (f0_e21 q0 p1 p2)), .second, .val (.long (f0_e24 q0 p1 p2)), .second, .unset, .unset, .unset, .unset] [(.long (f0_e21 q0 p1 p2)), (.long ((f0_e15 q0 p1 p2) + (f0_e18 q0 p1 p2)))])) _
      refine XS.ladd X25.here hx rfl (hb hby at_279) rfl ?_
      show Steps p.tables e below (T25.setTop (mkF m 280 #[.val (.long q0), .second, .val (.int p1), .val (.int p2), .val (.int ((p2 &&& (7 : Int32)) % (7 : Int32))), .val (.int ((f0_e1 p2) % (((p2 &&& (7 : Int32)) % (7 : Int32)) + (1 : Int32)))), .val (.int (f0_s0_36001 p2)), .val (.ref b4), .val (.ref b11), .val (.long (f8 (f0_e11 q0 p2) (f0_e12 q0 p2))), .second, .val (.long (f0_e15 q0 p1 p2)), .second, .val (.long (f0_e18 q0 p1 p2)), .second, .val (.long (f0_e21 q0 p1 p2)), .second, .val (.long (f0_e24 q0 p1 p2)), .second, .unset, .unset, .unset, .unset] [(.long (((f0_e15 q0 p1 p2) + (f0_e18 q0 p1 p2)) + (f0_e21 q0 p1 p2)))])) _
      refine XS.lload X25.here hx rfl (hb hby at_280) rfl ?_
      show Steps p.tables e below (T25.setTop (mkF m 282 #[.val (.long q0), .second, .val (.int p1), .val (.int p2), .val (.int ((p2 &&& (7 : Int32)) % (7 : Int32))), .val (.int ((f0_e1 p2) % (((p2 &&& (7 : Int32)) % (7 : Int32)) + (1 : Int32)))), .val (.int (f0_s0_36001 p2)), .val (.ref b4), .val (.ref b11), .val (.long (f8 (f0_e11 q0 p2) (f0_e12 q0 p2))), .second, .val (.long (f0_e15 q0 p1 p2)), .second, .val (.long (f0_e18 q0 p1 p2)), .second, .val (.long (f0_e21 q0 p1 p2)), .second, .val (.long (f0_e24 q0 p1 p2)), .second, .unset, .unset, .unset, .unset] [(.long (f0_e24 q0 p1 p2)), (.long (((f0_e15 q0 p1 p2) + (f0_e18 q0 p1 p2)) + (f0_e21 q0 p1 p2)))])) _
      refine XS.ladd X25.here hx rfl (hb hby at_282) rfl ?_
      show Steps p.tables e below (T25.setTop (mkF m 283 #[.val (.long q0), .second, .val (.int p1), .val (.int p2), .val (.int ((p2 &&& (7 : Int32)) % (7 : Int32))), .val (.int ((f0_e1 p2) % (((p2 &&& (7 : Int32)) % (7 : Int32)) + (1 : Int32)))), .val (.int (f0_s0_36001 p2)), .val (.ref b4), .val (.ref b11), .val (.long (f8 (f0_e11 q0 p2) (f0_e12 q0 p2))), .second, .val (.long (f0_e15 q0 p1 p2)), .second, .val (.long (f0_e18 q0 p1 p2)), .second, .val (.long (f0_e21 q0 p1 p2)), .second, .val (.long (f0_e24 q0 p1 p2)), .second, .unset, .unset, .unset, .unset] [(.long (f0_e25 q0 p1 p2))])) _
      refine XS.lstore X25.here hx rfl (hb hby at_283) rfl (l' := #[.val (.long q0), .second, .val (.int p1), .val (.int p2), .val (.int ((p2 &&& (7 : Int32)) % (7 : Int32))), .val (.int ((f0_e1 p2) % (((p2 &&& (7 : Int32)) % (7 : Int32)) + (1 : Int32)))), .val (.int (f0_s0_36001 p2)), .val (.ref b4), .val (.ref b11), .val (.long (f8 (f0_e11 q0 p2) (f0_e12 q0 p2))), .second, .val (.long (f0_e15 q0 p1 p2)), .second, .val (.long (f0_e18 q0 p1 p2)), .second, .val (.long (f0_e21 q0 p1 p2)), .second, .val (.long (f0_e24 q0 p1 p2)), .second, .val (.long (f0_e25 q0 p1 p2)), .second, .unset, .unset]) rfl ?_
      show Steps p.tables e below (T25.setTop (mkF m 285 #[.val (.long q0), .second, .val (.int p1), .val (.int p2), .val (.int ((p2 &&& (7 : Int32)) % (7 : Int32))), .val (.int ((f0_e1 p2) % (((p2 &&& (7 : Int32)) % (7 : Int32)) + (1 : Int32)))), .val (.int (f0_s0_36001 p2)), .val (.ref b4), .val (.ref b11), .val (.long (f8 (f0_e11 q0 p2) (f0_e12 q0 p2))), .second, .val (.long (f0_e15 q0 p1 p2)), .second, .val (.long (f0_e18 q0 p1 p2)), .second, .val (.long (f0_e21 q0 p1 p2)), .second, .val (.long (f0_e24 q0 p1 p2)), .second, .val (.long (f0_e25 q0 p1 p2)), .second, .unset, .unset] [])) _
      refine XS.lload X25.here hx rfl (hb hby at_285) rfl ?_
      show Steps p.tables e below (T25.setTop (mkF m 287 #[.val (.long q0), .second, .val (.int p1), .val (.int p2), .val (.int ((p2 &&& (7 : Int32)) % (7 : Int32))), .val (.int ((f0_e1 p2) % (((p2 &&& (7 : Int32)) % (7 : Int32)) + (1 : Int32)))), .val (.int (f0_s0_36001 p2)), .val (.ref b4), .val (.ref b11), .val (.long (f8 (f0_e11 q0 p2) (f0_e12 q0 p2))), .second, .val (.long (f0_e15 q0 p1 p2)), .second, .val (.long (f0_e18 q0 p1 p2)), .second, .val (.long (f0_e21 q0 p1 p2)), .second, .val (.long (f0_e24 q0 p1 p2)), .second, .val (.long (f0_e25 q0 p1 p2)), .second, .unset, .unset] [(.long (f0_e25 q0 p1 p2))])) _
      refine X25.ldc2Long hx hown (mvT hZ (hw _ (List.mem_of_getElem? (i := 50) rfl))) (g := (mkF m 287 #[.val (.long q0), .second, .val (.int p1), .val (.int p2), .val (.int ((p2 &&& (7 : Int32)) % (7 : Int32))), .val (.int ((f0_e1 p2) % (((p2 &&& (7 : Int32)) % (7 : Int32)) + (1 : Int32)))), .val (.int (f0_s0_36001 p2)), .val (.ref b4), .val (.ref b11), .val (.long (f8 (f0_e11 q0 p2) (f0_e12 q0 p2))), .second, .val (.long (f0_e15 q0 p1 p2)), .second, .val (.long (f0_e18 q0 p1 p2)), .second, .val (.long (f0_e21 q0 p1 p2)), .second, .val (.long (f0_e24 q0 p1 p2)), .second, .val (.long (f0_e25 q0 p1 p2)), .second, .unset, .unset] [(.long (f0_e25 q0 p1 p2))])) rfl (hb hby at_287) _ ?_
      show Steps p.tables e below (T25.setTop (mkF m 290 #[.val (.long q0), .second, .val (.int p1), .val (.int p2), .val (.int ((p2 &&& (7 : Int32)) % (7 : Int32))), .val (.int ((f0_e1 p2) % (((p2 &&& (7 : Int32)) % (7 : Int32)) + (1 : Int32)))), .val (.int (f0_s0_36001 p2)), .val (.ref b4), .val (.ref b11), .val (.long (f8 (f0_e11 q0 p2) (f0_e12 q0 p2))), .second, .val (.long (f0_e15 q0 p1 p2)), .second, .val (.long (f0_e18 q0 p1 p2)), .second, .val (.long (f0_e21 q0 p1 p2)), .second, .val (.long (f0_e24 q0 p1 p2)), .second, .val (.long (f0_e25 q0 p1 p2)), .second, .unset, .unset] [(.long (65535 : Int64)), (.long (f0_e25 q0 p1 p2))])) _
      refine XS.land X25.here hx rfl (hb hby at_290) rfl ?_
      show Steps p.tables e below (T25.setTop (mkF m 291 #[.val (.long q0), .second, .val (.int p1), .val (.int p2), .val (.int ((p2 &&& (7 : Int32)) % (7 : Int32))), .val (.int ((f0_e1 p2) % (((p2 &&& (7 : Int32)) % (7 : Int32)) + (1 : Int32)))), .val (.int (f0_s0_36001 p2)), .val (.ref b4), .val (.ref b11), .val (.long (f8 (f0_e11 q0 p2) (f0_e12 q0 p2))), .second, .val (.long (f0_e15 q0 p1 p2)), .second, .val (.long (f0_e18 q0 p1 p2)), .second, .val (.long (f0_e21 q0 p1 p2)), .second, .val (.long (f0_e24 q0 p1 p2)), .second, .val (.long (f0_e25 q0 p1 p2)), .second, .unset, .unset] [(.long ((f0_e25 q0 p1 p2) &&& (65535 : Int64)))])) _
      refine XS.lload X25.here hx rfl (hb hby at_291) rfl ?_
      show Steps p.tables e below (T25.setTop (mkF m 293 #[.val (.long q0), .second, .val (.int p1), .val (.int p2), .val (.int ((p2 &&& (7 : Int32)) % (7 : Int32))), .val (.int ((f0_e1 p2) % (((p2 &&& (7 : Int32)) % (7 : Int32)) + (1 : Int32)))), .val (.int (f0_s0_36001 p2)), .val (.ref b4), .val (.ref b11), .val (.long (f8 (f0_e11 q0 p2) (f0_e12 q0 p2))), .second, .val (.long (f0_e15 q0 p1 p2)), .second, .val (.long (f0_e18 q0 p1 p2)), .second, .val (.long (f0_e21 q0 p1 p2)), .second, .val (.long (f0_e24 q0 p1 p2)), .second, .val (.long (f0_e25 q0 p1 p2)), .second, .unset, .unset] [(.long (f0_e25 q0 p1 p2)), (.long ((f0_e25 q0 p1 p2) &&& (65535 : Int64)))])) _
      refine XS.bipush X25.here hx rfl (hb hby at_293) ?_
      show Steps p.tables e below (T25.setTop (mkF m 295 #[.val (.long q0), .second, .val (.int p1), .val (.int p2), .val (.int ((p2 &&& (7 : Int32)) % (7 : Int32))), .val (.int ((f0_e1 p2) % (((p2 &&& (7 : Int32)) % (7 : Int32)) + (1 : Int32)))), .val (.int (f0_s0_36001 p2)), .val (.ref b4), .val (.ref b11), .val (.long (f8 (f0_e11 q0 p2) (f0_e12 q0 p2))), .second, .val (.long (f0_e15 q0 p1 p2)), .second, .val (.long (f0_e18 q0 p1 p2)), .second, .val (.long (f0_e21 q0 p1 p2)), .second, .val (.long (f0_e24 q0 p1 p2)), .second, .val (.long (f0_e25 q0 p1 p2)), .second, .unset, .unset] [(.int (16 : Int32)), (.long (f0_e25 q0 p1 p2)), (.long ((f0_e25 q0 p1 p2) &&& (65535 : Int64)))])) _
      refine XS.lushr X25.here hx rfl (hb hby at_295) rfl ?_
      show Steps p.tables e below (T25.setTop (mkF m 296 #[.val (.long q0), .second, .val (.int p1), .val (.int p2), .val (.int ((p2 &&& (7 : Int32)) % (7 : Int32))), .val (.int ((f0_e1 p2) % (((p2 &&& (7 : Int32)) % (7 : Int32)) + (1 : Int32)))), .val (.int (f0_s0_36001 p2)), .val (.ref b4), .val (.ref b11), .val (.long (f8 (f0_e11 q0 p2) (f0_e12 q0 p2))), .second, .val (.long (f0_e15 q0 p1 p2)), .second, .val (.long (f0_e18 q0 p1 p2)), .second, .val (.long (f0_e21 q0 p1 p2)), .second, .val (.long (f0_e24 q0 p1 p2)), .second, .val (.long (f0_e25 q0 p1 p2)), .second, .unset, .unset] [(.long (f0_e26 q0 p1 p2)), (.long ((f0_e25 q0 p1 p2) &&& (65535 : Int64)))])) _
      refine XS.ladd X25.here hx rfl (hb hby at_296) rfl ?_
      show Steps p.tables e below (T25.setTop (mkF m 297 #[.val (.long q0), .second, .val (.int p1), .val (.int p2), .val (.int ((p2 &&& (7 : Int32)) % (7 : Int32))), .val (.int ((f0_e1 p2) % (((p2 &&& (7 : Int32)) % (7 : Int32)) + (1 : Int32)))), .val (.int (f0_s0_36001 p2)), .val (.ref b4), .val (.ref b11), .val (.long (f8 (f0_e11 q0 p2) (f0_e12 q0 p2))), .second, .val (.long (f0_e15 q0 p1 p2)), .second, .val (.long (f0_e18 q0 p1 p2)), .second, .val (.long (f0_e21 q0 p1 p2)), .second, .val (.long (f0_e24 q0 p1 p2)), .second, .val (.long (f0_e25 q0 p1 p2)), .second, .unset, .unset] [(.long (((f0_e25 q0 p1 p2) &&& (65535 : Int64)) + (f0_e26 q0 p1 p2)))])) _
      refine XS.lstore X25.here hx rfl (hb hby at_297) rfl (l' := #[.val (.long q0), .second, .val (.int p1), .val (.int p2), .val (.int ((p2 &&& (7 : Int32)) % (7 : Int32))), .val (.int ((f0_e1 p2) % (((p2 &&& (7 : Int32)) % (7 : Int32)) + (1 : Int32)))), .val (.int (f0_s0_36001 p2)), .val (.ref b4), .val (.ref b11), .val (.long (f8 (f0_e11 q0 p2) (f0_e12 q0 p2))), .second, .val (.long (f0_e15 q0 p1 p2)), .second, .val (.long (f0_e18 q0 p1 p2)), .second, .val (.long (f0_e21 q0 p1 p2)), .second, .val (.long (f0_e24 q0 p1 p2)), .second, .val (.long (((f0_e25 q0 p1 p2) &&& (65535 : Int64)) + (f0_e26 q0 p1 p2))), .second, .unset, .unset]) rfl ?_
      show Steps p.tables e below (T25.setTop (mkF m 299 #[.val (.long q0), .second, .val (.int p1), .val (.int p2), .val (.int ((p2 &&& (7 : Int32)) % (7 : Int32))), .val (.int ((f0_e1 p2) % (((p2 &&& (7 : Int32)) % (7 : Int32)) + (1 : Int32)))), .val (.int (f0_s0_36001 p2)), .val (.ref b4), .val (.ref b11), .val (.long (f8 (f0_e11 q0 p2) (f0_e12 q0 p2))), .second, .val (.long (f0_e15 q0 p1 p2)), .second, .val (.long (f0_e18 q0 p1 p2)), .second, .val (.long (f0_e21 q0 p1 p2)), .second, .val (.long (f0_e24 q0 p1 p2)), .second, .val (.long (((f0_e25 q0 p1 p2) &&& (65535 : Int64)) + (f0_e26 q0 p1 p2))), .second, .unset, .unset] [])) _
      refine XS.lload X25.here hx rfl (hb hby at_299) rfl ?_
      show Steps p.tables e below (T25.setTop (mkF m 301 #[.val (.long q0), .second, .val (.int p1), .val (.int p2), .val (.int ((p2 &&& (7 : Int32)) % (7 : Int32))), .val (.int ((f0_e1 p2) % (((p2 &&& (7 : Int32)) % (7 : Int32)) + (1 : Int32)))), .val (.int (f0_s0_36001 p2)), .val (.ref b4), .val (.ref b11), .val (.long (f8 (f0_e11 q0 p2) (f0_e12 q0 p2))), .second, .val (.long (f0_e15 q0 p1 p2)), .second, .val (.long (f0_e18 q0 p1 p2)), .second, .val (.long (f0_e21 q0 p1 p2)), .second, .val (.long (f0_e24 q0 p1 p2)), .second, .val (.long (((f0_e25 q0 p1 p2) &&& (65535 : Int64)) + (f0_e26 q0 p1 p2))), .second, .unset, .unset] [(.long (((f0_e25 q0 p1 p2) &&& (65535 : Int64)) + (f0_e26 q0 p1 p2)))])) _
      refine X25.ldc2Long hx hown (mvT hZ (hw _ (List.mem_of_getElem? (i := 50) rfl))) (g := (mkF m 301 #[.val (.long q0), .second, .val (.int p1), .val (.int p2), .val (.int ((p2 &&& (7 : Int32)) % (7 : Int32))), .val (.int ((f0_e1 p2) % (((p2 &&& (7 : Int32)) % (7 : Int32)) + (1 : Int32)))), .val (.int (f0_s0_36001 p2)), .val (.ref b4), .val (.ref b11), .val (.long (f8 (f0_e11 q0 p2) (f0_e12 q0 p2))), .second, .val (.long (f0_e15 q0 p1 p2)), .second, .val (.long (f0_e18 q0 p1 p2)), .second, .val (.long (f0_e21 q0 p1 p2)), .second, .val (.long (f0_e24 q0 p1 p2)), .second, .val (.long (((f0_e25 q0 p1 p2) &&& (65535 : Int64)) + (f0_e26 q0 p1 p2))), .second, .unset, .unset] [(.long (((f0_e25 q0 p1 p2) &&& (65535 : Int64)) + (f0_e26 q0 p1 p2)))])) rfl (hb hby at_301) _ ?_
      show Steps p.tables e below (T25.setTop (mkF m 304 #[.val (.long q0), .second, .val (.int p1), .val (.int p2), .val (.int ((p2 &&& (7 : Int32)) % (7 : Int32))), .val (.int ((f0_e1 p2) % (((p2 &&& (7 : Int32)) % (7 : Int32)) + (1 : Int32)))), .val (.int (f0_s0_36001 p2)), .val (.ref b4), .val (.ref b11), .val (.long (f8 (f0_e11 q0 p2) (f0_e12 q0 p2))), .second, .val (.long (f0_e15 q0 p1 p2)), .second, .val (.long (f0_e18 q0 p1 p2)), .second, .val (.long (f0_e21 q0 p1 p2)), .second, .val (.long (f0_e24 q0 p1 p2)), .second, .val (.long (((f0_e25 q0 p1 p2) &&& (65535 : Int64)) + (f0_e26 q0 p1 p2))), .second, .unset, .unset] [(.long (65535 : Int64)), (.long (((f0_e25 q0 p1 p2) &&& (65535 : Int64)) + (f0_e26 q0 p1 p2)))])) _
      refine XS.land X25.here hx rfl (hb hby at_304) rfl ?_
      show Steps p.tables e below (T25.setTop (mkF m 305 #[.val (.long q0), .second, .val (.int p1), .val (.int p2), .val (.int ((p2 &&& (7 : Int32)) % (7 : Int32))), .val (.int ((f0_e1 p2) % (((p2 &&& (7 : Int32)) % (7 : Int32)) + (1 : Int32)))), .val (.int (f0_s0_36001 p2)), .val (.ref b4), .val (.ref b11), .val (.long (f8 (f0_e11 q0 p2) (f0_e12 q0 p2))), .second, .val (.long (f0_e15 q0 p1 p2)), .second, .val (.long (f0_e18 q0 p1 p2)), .second, .val (.long (f0_e21 q0 p1 p2)), .second, .val (.long (f0_e24 q0 p1 p2)), .second, .val (.long (((f0_e25 q0 p1 p2) &&& (65535 : Int64)) + (f0_e26 q0 p1 p2))), .second, .unset, .unset] [(.long (f0_e27 q0 p1 p2))])) _
      refine XS.lload X25.here hx rfl (hb hby at_305) rfl ?_
      show Steps p.tables e below (T25.setTop (mkF m 307 #[.val (.long q0), .second, .val (.int p1), .val (.int p2), .val (.int ((p2 &&& (7 : Int32)) % (7 : Int32))), .val (.int ((f0_e1 p2) % (((p2 &&& (7 : Int32)) % (7 : Int32)) + (1 : Int32)))), .val (.int (f0_s0_36001 p2)), .val (.ref b4), .val (.ref b11), .val (.long (f8 (f0_e11 q0 p2) (f0_e12 q0 p2))), .second, .val (.long (f0_e15 q0 p1 p2)), .second, .val (.long (f0_e18 q0 p1 p2)), .second, .val (.long (f0_e21 q0 p1 p2)), .second, .val (.long (f0_e24 q0 p1 p2)), .second, .val (.long (((f0_e25 q0 p1 p2) &&& (65535 : Int64)) + (f0_e26 q0 p1 p2))), .second, .unset, .unset] [(.long (((f0_e25 q0 p1 p2) &&& (65535 : Int64)) + (f0_e26 q0 p1 p2))), (.long (f0_e27 q0 p1 p2))])) _
      refine XS.bipush X25.here hx rfl (hb hby at_307) ?_
      show Steps p.tables e below (T25.setTop (mkF m 309 #[.val (.long q0), .second, .val (.int p1), .val (.int p2), .val (.int ((p2 &&& (7 : Int32)) % (7 : Int32))), .val (.int ((f0_e1 p2) % (((p2 &&& (7 : Int32)) % (7 : Int32)) + (1 : Int32)))), .val (.int (f0_s0_36001 p2)), .val (.ref b4), .val (.ref b11), .val (.long (f8 (f0_e11 q0 p2) (f0_e12 q0 p2))), .second, .val (.long (f0_e15 q0 p1 p2)), .second, .val (.long (f0_e18 q0 p1 p2)), .second, .val (.long (f0_e21 q0 p1 p2)), .second, .val (.long (f0_e24 q0 p1 p2)), .second, .val (.long (((f0_e25 q0 p1 p2) &&& (65535 : Int64)) + (f0_e26 q0 p1 p2))), .second, .unset, .unset] [(.int (16 : Int32)), (.long (((f0_e25 q0 p1 p2) &&& (65535 : Int64)) + (f0_e26 q0 p1 p2))), (.long (f0_e27 q0 p1 p2))])) _
      refine XS.lushr X25.here hx rfl (hb hby at_309) rfl ?_
      show Steps p.tables e below (T25.setTop (mkF m 310 #[.val (.long q0), .second, .val (.int p1), .val (.int p2), .val (.int ((p2 &&& (7 : Int32)) % (7 : Int32))), .val (.int ((f0_e1 p2) % (((p2 &&& (7 : Int32)) % (7 : Int32)) + (1 : Int32)))), .val (.int (f0_s0_36001 p2)), .val (.ref b4), .val (.ref b11), .val (.long (f8 (f0_e11 q0 p2) (f0_e12 q0 p2))), .second, .val (.long (f0_e15 q0 p1 p2)), .second, .val (.long (f0_e18 q0 p1 p2)), .second, .val (.long (f0_e21 q0 p1 p2)), .second, .val (.long (f0_e24 q0 p1 p2)), .second, .val (.long (((f0_e25 q0 p1 p2) &&& (65535 : Int64)) + (f0_e26 q0 p1 p2))), .second, .unset, .unset] [(.long (f0_e28 q0 p1 p2)), (.long (f0_e27 q0 p1 p2))])) _
      refine XS.ladd X25.here hx rfl (hb hby at_310) rfl ?_
      show Steps p.tables e below (T25.setTop (mkF m 311 #[.val (.long q0), .second, .val (.int p1), .val (.int p2), .val (.int ((p2 &&& (7 : Int32)) % (7 : Int32))), .val (.int ((f0_e1 p2) % (((p2 &&& (7 : Int32)) % (7 : Int32)) + (1 : Int32)))), .val (.int (f0_s0_36001 p2)), .val (.ref b4), .val (.ref b11), .val (.long (f8 (f0_e11 q0 p2) (f0_e12 q0 p2))), .second, .val (.long (f0_e15 q0 p1 p2)), .second, .val (.long (f0_e18 q0 p1 p2)), .second, .val (.long (f0_e21 q0 p1 p2)), .second, .val (.long (f0_e24 q0 p1 p2)), .second, .val (.long (((f0_e25 q0 p1 p2) &&& (65535 : Int64)) + (f0_e26 q0 p1 p2))), .second, .unset, .unset] [(.long ((f0_e27 q0 p1 p2) + (f0_e28 q0 p1 p2)))])) _
      refine XS.lstore X25.here hx rfl (hb hby at_311) rfl (l' := #[.val (.long q0), .second, .val (.int p1), .val (.int p2), .val (.int ((p2 &&& (7 : Int32)) % (7 : Int32))), .val (.int ((f0_e1 p2) % (((p2 &&& (7 : Int32)) % (7 : Int32)) + (1 : Int32)))), .val (.int (f0_s0_36001 p2)), .val (.ref b4), .val (.ref b11), .val (.long (f8 (f0_e11 q0 p2) (f0_e12 q0 p2))), .second, .val (.long (f0_e15 q0 p1 p2)), .second, .val (.long (f0_e18 q0 p1 p2)), .second, .val (.long (f0_e21 q0 p1 p2)), .second, .val (.long (f0_e24 q0 p1 p2)), .second, .val (.long ((f0_e27 q0 p1 p2) + (f0_e28 q0 p1 p2))), .second, .unset, .unset]) rfl ?_
      show Steps p.tables e below (T25.setTop (mkF m 313 #[.val (.long q0), .second, .val (.int p1), .val (.int p2), .val (.int ((p2 &&& (7 : Int32)) % (7 : Int32))), .val (.int ((f0_e1 p2) % (((p2 &&& (7 : Int32)) % (7 : Int32)) + (1 : Int32)))), .val (.int (f0_s0_36001 p2)), .val (.ref b4), .val (.ref b11), .val (.long (f8 (f0_e11 q0 p2) (f0_e12 q0 p2))), .second, .val (.long (f0_e15 q0 p1 p2)), .second, .val (.long (f0_e18 q0 p1 p2)), .second, .val (.long (f0_e21 q0 p1 p2)), .second, .val (.long (f0_e24 q0 p1 p2)), .second, .val (.long ((f0_e27 q0 p1 p2) + (f0_e28 q0 p1 p2))), .second, .unset, .unset] [])) _
      refine XS.lload X25.here hx rfl (hb hby at_313) rfl ?_
      show Steps p.tables e below (T25.setTop (mkF m 315 #[.val (.long q0), .second, .val (.int p1), .val (.int p2), .val (.int ((p2 &&& (7 : Int32)) % (7 : Int32))), .val (.int ((f0_e1 p2) % (((p2 &&& (7 : Int32)) % (7 : Int32)) + (1 : Int32)))), .val (.int (f0_s0_36001 p2)), .val (.ref b4), .val (.ref b11), .val (.long (f8 (f0_e11 q0 p2) (f0_e12 q0 p2))), .second, .val (.long (f0_e15 q0 p1 p2)), .second, .val (.long (f0_e18 q0 p1 p2)), .second, .val (.long (f0_e21 q0 p1 p2)), .second, .val (.long (f0_e24 q0 p1 p2)), .second, .val (.long ((f0_e27 q0 p1 p2) + (f0_e28 q0 p1 p2))), .second, .unset, .unset] [(.long ((f0_e27 q0 p1 p2) + (f0_e28 q0 p1 p2)))])) _
      refine X25.ldc2Long hx hown (mvT hZ (hw _ (List.mem_of_getElem? (i := 51) rfl))) (g := (mkF m 315 #[.val (.long q0), .second, .val (.int p1), .val (.int p2), .val (.int ((p2 &&& (7 : Int32)) % (7 : Int32))), .val (.int ((f0_e1 p2) % (((p2 &&& (7 : Int32)) % (7 : Int32)) + (1 : Int32)))), .val (.int (f0_s0_36001 p2)), .val (.ref b4), .val (.ref b11), .val (.long (f8 (f0_e11 q0 p2) (f0_e12 q0 p2))), .second, .val (.long (f0_e15 q0 p1 p2)), .second, .val (.long (f0_e18 q0 p1 p2)), .second, .val (.long (f0_e21 q0 p1 p2)), .second, .val (.long (f0_e24 q0 p1 p2)), .second, .val (.long ((f0_e27 q0 p1 p2) + (f0_e28 q0 p1 p2))), .second, .unset, .unset] [(.long ((f0_e27 q0 p1 p2) + (f0_e28 q0 p1 p2)))])) rfl (hb hby at_315) _ ?_
      show Steps p.tables e below (T25.setTop (mkF m 318 #[.val (.long q0), .second, .val (.int p1), .val (.int p2), .val (.int ((p2 &&& (7 : Int32)) % (7 : Int32))), .val (.int ((f0_e1 p2) % (((p2 &&& (7 : Int32)) % (7 : Int32)) + (1 : Int32)))), .val (.int (f0_s0_36001 p2)), .val (.ref b4), .val (.ref b11), .val (.long (f8 (f0_e11 q0 p2) (f0_e12 q0 p2))), .second, .val (.long (f0_e15 q0 p1 p2)), .second, .val (.long (f0_e18 q0 p1 p2)), .second, .val (.long (f0_e21 q0 p1 p2)), .second, .val (.long (f0_e24 q0 p1 p2)), .second, .val (.long ((f0_e27 q0 p1 p2) + (f0_e28 q0 p1 p2))), .second, .unset, .unset] [(.long (-1 : Int64)), (.long ((f0_e27 q0 p1 p2) + (f0_e28 q0 p1 p2)))])) _
      refine XS.lxor X25.here hx rfl (hb hby at_318) rfl ?_
      show Steps p.tables e below (T25.setTop (mkF m 319 #[.val (.long q0), .second, .val (.int p1), .val (.int p2), .val (.int ((p2 &&& (7 : Int32)) % (7 : Int32))), .val (.int ((f0_e1 p2) % (((p2 &&& (7 : Int32)) % (7 : Int32)) + (1 : Int32)))), .val (.int (f0_s0_36001 p2)), .val (.ref b4), .val (.ref b11), .val (.long (f8 (f0_e11 q0 p2) (f0_e12 q0 p2))), .second, .val (.long (f0_e15 q0 p1 p2)), .second, .val (.long (f0_e18 q0 p1 p2)), .second, .val (.long (f0_e21 q0 p1 p2)), .second, .val (.long (f0_e24 q0 p1 p2)), .second, .val (.long ((f0_e27 q0 p1 p2) + (f0_e28 q0 p1 p2))), .second, .unset, .unset] [(.long (((f0_e27 q0 p1 p2) + (f0_e28 q0 p1 p2)) ^^^ (-1 : Int64)))])) _
      refine X25.ldc2Long hx hown (mvT hZ (hw _ (List.mem_of_getElem? (i := 50) rfl))) (g := (mkF m 319 #[.val (.long q0), .second, .val (.int p1), .val (.int p2), .val (.int ((p2 &&& (7 : Int32)) % (7 : Int32))), .val (.int ((f0_e1 p2) % (((p2 &&& (7 : Int32)) % (7 : Int32)) + (1 : Int32)))), .val (.int (f0_s0_36001 p2)), .val (.ref b4), .val (.ref b11), .val (.long (f8 (f0_e11 q0 p2) (f0_e12 q0 p2))), .second, .val (.long (f0_e15 q0 p1 p2)), .second, .val (.long (f0_e18 q0 p1 p2)), .second, .val (.long (f0_e21 q0 p1 p2)), .second, .val (.long (f0_e24 q0 p1 p2)), .second, .val (.long ((f0_e27 q0 p1 p2) + (f0_e28 q0 p1 p2))), .second, .unset, .unset] [(.long (((f0_e27 q0 p1 p2) + (f0_e28 q0 p1 p2)) ^^^ (-1 : Int64)))])) rfl (hb hby at_319) _ ?_
      show Steps p.tables e below (T25.setTop (mkF m 322 #[.val (.long q0), .second, .val (.int p1), .val (.int p2), .val (.int ((p2 &&& (7 : Int32)) % (7 : Int32))), .val (.int ((f0_e1 p2) % (((p2 &&& (7 : Int32)) % (7 : Int32)) + (1 : Int32)))), .val (.int (f0_s0_36001 p2)), .val (.ref b4), .val (.ref b11), .val (.long (f8 (f0_e11 q0 p2) (f0_e12 q0 p2))), .second, .val (.long (f0_e15 q0 p1 p2)), .second, .val (.long (f0_e18 q0 p1 p2)), .second, .val (.long (f0_e21 q0 p1 p2)), .second, .val (.long (f0_e24 q0 p1 p2)), .second, .val (.long ((f0_e27 q0 p1 p2) + (f0_e28 q0 p1 p2))), .second, .unset, .unset] [(.long (65535 : Int64)), (.long (((f0_e27 q0 p1 p2) + (f0_e28 q0 p1 p2)) ^^^ (-1 : Int64)))])) _
      refine XS.land X25.here hx rfl (hb hby at_322) rfl ?_
      show Steps p.tables e below (T25.setTop (mkF m 323 #[.val (.long q0), .second, .val (.int p1), .val (.int p2), .val (.int ((p2 &&& (7 : Int32)) % (7 : Int32))), .val (.int ((f0_e1 p2) % (((p2 &&& (7 : Int32)) % (7 : Int32)) + (1 : Int32)))), .val (.int (f0_s0_36001 p2)), .val (.ref b4), .val (.ref b11), .val (.long (f8 (f0_e11 q0 p2) (f0_e12 q0 p2))), .second, .val (.long (f0_e15 q0 p1 p2)), .second, .val (.long (f0_e18 q0 p1 p2)), .second, .val (.long (f0_e21 q0 p1 p2)), .second, .val (.long (f0_e24 q0 p1 p2)), .second, .val (.long ((f0_e27 q0 p1 p2) + (f0_e28 q0 p1 p2))), .second, .unset, .unset] [(.long (f0_e29 q0 p1 p2))])) _
      refine XS.lstore X25.here hx rfl (hb hby at_323) rfl (l' := #[.val (.long q0), .second, .val (.int p1), .val (.int p2), .val (.int ((p2 &&& (7 : Int32)) % (7 : Int32))), .val (.int ((f0_e1 p2) % (((p2 &&& (7 : Int32)) % (7 : Int32)) + (1 : Int32)))), .val (.int (f0_s0_36001 p2)), .val (.ref b4), .val (.ref b11), .val (.long (f8 (f0_e11 q0 p2) (f0_e12 q0 p2))), .second, .val (.long (f0_e15 q0 p1 p2)), .second, .val (.long (f0_e18 q0 p1 p2)), .second, .val (.long (f0_e21 q0 p1 p2)), .second, .val (.long (f0_e24 q0 p1 p2)), .second, .val (.long ((f0_e27 q0 p1 p2) + (f0_e28 q0 p1 p2))), .second, .val (.long (f0_e29 q0 p1 p2)), .second]) rfl ?_
      show Steps p.tables e below (T25.setTop (mkF m 325 #[.val (.long q0), .second, .val (.int p1), .val (.int p2), .val (.int ((p2 &&& (7 : Int32)) % (7 : Int32))), .val (.int ((f0_e1 p2) % (((p2 &&& (7 : Int32)) % (7 : Int32)) + (1 : Int32)))), .val (.int (f0_s0_36001 p2)), .val (.ref b4), .val (.ref b11), .val (.long (f8 (f0_e11 q0 p2) (f0_e12 q0 p2))), .second, .val (.long (f0_e15 q0 p1 p2)), .second, .val (.long (f0_e18 q0 p1 p2)), .second, .val (.long (f0_e21 q0 p1 p2)), .second, .val (.long (f0_e24 q0 p1 p2)), .second, .val (.long ((f0_e27 q0 p1 p2) + (f0_e28 q0 p1 p2))), .second, .val (.long (f0_e29 q0 p1 p2)), .second] [])) _
      refine XS.lload X25.here hx rfl (hb hby at_325) rfl ?_
      show Steps p.tables e below (T25.setTop (mkF m 327 #[.val (.long q0), .second, .val (.int p1), .val (.int p2), .val (.int ((p2 &&& (7 : Int32)) % (7 : Int32))), .val (.int ((f0_e1 p2) % (((p2 &&& (7 : Int32)) % (7 : Int32)) + (1 : Int32)))), .val (.int (f0_s0_36001 p2)), .val (.ref b4), .val (.ref b11), .val (.long (f8 (f0_e11 q0 p2) (f0_e12 q0 p2))), .second, .val (.long (f0_e15 q0 p1 p2)), .second, .val (.long (f0_e18 q0 p1 p2)), .second, .val (.long (f0_e21 q0 p1 p2)), .second, .val (.long (f0_e24 q0 p1 p2)), .second, .val (.long ((f0_e27 q0 p1 p2) + (f0_e28 q0 p1 p2))), .second, .val (.long (f0_e29 q0 p1 p2)), .second] [(.long (f8 (f0_e11 q0 p2) (f0_e12 q0 p2)))])) _
      refine XS.lload X25.here hx rfl (hb hby at_327) rfl ?_
      show Steps p.tables e below (T25.setTop (mkF m 329 #[.val (.long q0), .second, .val (.int p1), .val (.int p2), .val (.int ((p2 &&& (7 : Int32)) % (7 : Int32))), .val (.int ((f0_e1 p2) % (((p2 &&& (7 : Int32)) % (7 : Int32)) + (1 : Int32)))), .val (.int (f0_s0_36001 p2)), .val (.ref b4), .val (.ref b11), .val (.long (f8 (f0_e11 q0 p2) (f0_e12 q0 p2))), .second, .val (.long (f0_e15 q0 p1 p2)), .second, .val (.long (f0_e18 q0 p1 p2)), .second, .val (.long (f0_e21 q0 p1 p2)), .second, .val (.long (f0_e24 q0 p1 p2)), .second, .val (.long ((f0_e27 q0 p1 p2) + (f0_e28 q0 p1 p2))), .second, .val (.long (f0_e29 q0 p1 p2)), .second] [(.long (f0_e29 q0 p1 p2)), (.long (f8 (f0_e11 q0 p2) (f0_e12 q0 p2)))])) _
      refine XS.lcmp X25.here hx rfl (hb hby at_329) rfl ?_
      exact kt)
    by_cases hc27 : (lcmpW (f8 (f0_e11 q0 p2) (f0_e12 q0 p2)) (f0_e29 q0 p1 p2)) = (0 : Int32)
    · obtain ⟨fs, hr, hrun, hended, hW, hsame⟩ := X25.leave (v := some (.int (1 : Int32))) (fun h => by rw [Bd.returns] at h; cases h) hlk
      refine ⟨_, _, pre26 _ ?_, hrun, hended, _, _, rfl, ?_, ⟨_, rfl⟩, hW, hsame.mono (by decide) (by decide)⟩
      · show Steps p.tables e below (T25.setTop (mkF m 330 #[.val (.long q0), .second, .val (.int p1), .val (.int p2), .val (.int ((p2 &&& (7 : Int32)) % (7 : Int32))), .val (.int ((f0_e1 p2) % (((p2 &&& (7 : Int32)) % (7 : Int32)) + (1 : Int32)))), .val (.int (f0_s0_36001 p2)), .val (.ref b4), .val (.ref b11), .val (.long (f8 (f0_e11 q0 p2) (f0_e12 q0 p2))), .second, .val (.long (f0_e15 q0 p1 p2)), .second, .val (.long (f0_e18 q0 p1 p2)), .second, .val (.long (f0_e21 q0 p1 p2)), .second, .val (.long (f0_e24 q0 p1 p2)), .second, .val (.long ((f0_e27 q0 p1 p2) + (f0_e28 q0 p1 p2))), .second, .val (.long (f0_e29 q0 p1 p2)), .second] [(.int (lcmpW (f8 (f0_e11 q0 p2) (f0_e12 q0 p2)) (f0_e29 q0 p1 p2)))])) _
        refine XS.ifNo X25.here hx rfl (hb hby at_330) rfl ((if0 _ _).trans (teq hc27).2) ?_
        show Steps p.tables e below (T25.setTop (mkF m 333 #[.val (.long q0), .second, .val (.int p1), .val (.int p2), .val (.int ((p2 &&& (7 : Int32)) % (7 : Int32))), .val (.int ((f0_e1 p2) % (((p2 &&& (7 : Int32)) % (7 : Int32)) + (1 : Int32)))), .val (.int (f0_s0_36001 p2)), .val (.ref b4), .val (.ref b11), .val (.long (f8 (f0_e11 q0 p2) (f0_e12 q0 p2))), .second, .val (.long (f0_e15 q0 p1 p2)), .second, .val (.long (f0_e18 q0 p1 p2)), .second, .val (.long (f0_e21 q0 p1 p2)), .second, .val (.long (f0_e24 q0 p1 p2)), .second, .val (.long ((f0_e27 q0 p1 p2) + (f0_e28 q0 p1 p2))), .second, .val (.long (f0_e29 q0 p1 p2)), .second] [])) _
        refine XS.iconst X25.here hx rfl (hb hby at_333) ?_
        show Steps p.tables e below (T25.setTop (mkF m 334 #[.val (.long q0), .second, .val (.int p1), .val (.int p2), .val (.int ((p2 &&& (7 : Int32)) % (7 : Int32))), .val (.int ((f0_e1 p2) % (((p2 &&& (7 : Int32)) % (7 : Int32)) + (1 : Int32)))), .val (.int (f0_s0_36001 p2)), .val (.ref b4), .val (.ref b11), .val (.long (f8 (f0_e11 q0 p2) (f0_e12 q0 p2))), .second, .val (.long (f0_e15 q0 p1 p2)), .second, .val (.long (f0_e18 q0 p1 p2)), .second, .val (.long (f0_e21 q0 p1 p2)), .second, .val (.long (f0_e24 q0 p1 p2)), .second, .val (.long ((f0_e27 q0 p1 p2) + (f0_e28 q0 p1 p2))), .second, .val (.long (f0_e29 q0 p1 p2)), .second] [(.int (1 : Int32))])) _
        refine XS.goto X25.here hx rfl (pc0 := 334) (pc' := 338) rfl (hb hby at_334) (by decide) (by decide) ?_
        show Steps p.tables e below (T25.setTop (mkF m 338 #[.val (.long q0), .second, .val (.int p1), .val (.int p2), .val (.int ((p2 &&& (7 : Int32)) % (7 : Int32))), .val (.int ((f0_e1 p2) % (((p2 &&& (7 : Int32)) % (7 : Int32)) + (1 : Int32)))), .val (.int (f0_s0_36001 p2)), .val (.ref b4), .val (.ref b11), .val (.long (f8 (f0_e11 q0 p2) (f0_e12 q0 p2))), .second, .val (.long (f0_e15 q0 p1 p2)), .second, .val (.long (f0_e18 q0 p1 p2)), .second, .val (.long (f0_e21 q0 p1 p2)), .second, .val (.long (f0_e24 q0 p1 p2)), .second, .val (.long ((f0_e27 q0 p1 p2) + (f0_e28 q0 p1 p2))), .second, .val (.long (f0_e29 q0 p1 p2)), .second] [(.int (1 : Int32))])) _
        exact retN X25 hx (t := .boolean) Bd.returns (by simp) (hb hby at_338) hr
      · show Q0 Z q0 p1 p2 h0 n0 _ T25.heap _
        rw [e25]
        exact ⟨by rw [show f0 q0 p1 p2 = (1 : Int32) from by unfold f0; rw [if_pos hc15, if_pos hc27]], N25⟩
    · obtain ⟨fs, hr, hrun, hended, hW, hsame⟩ := X25.leave (v := some (.int (0 : Int32))) (fun h => by rw [Bd.returns] at h; cases h) hlk
      refine ⟨_, _, pre26 _ ?_, hrun, hended, _, _, rfl, ?_, ⟨_, rfl⟩, hW, hsame.mono (by decide) (by decide)⟩
      · show Steps p.tables e below (T25.setTop (mkF m 330 #[.val (.long q0), .second, .val (.int p1), .val (.int p2), .val (.int ((p2 &&& (7 : Int32)) % (7 : Int32))), .val (.int ((f0_e1 p2) % (((p2 &&& (7 : Int32)) % (7 : Int32)) + (1 : Int32)))), .val (.int (f0_s0_36001 p2)), .val (.ref b4), .val (.ref b11), .val (.long (f8 (f0_e11 q0 p2) (f0_e12 q0 p2))), .second, .val (.long (f0_e15 q0 p1 p2)), .second, .val (.long (f0_e18 q0 p1 p2)), .second, .val (.long (f0_e21 q0 p1 p2)), .second, .val (.long (f0_e24 q0 p1 p2)), .second, .val (.long ((f0_e27 q0 p1 p2) + (f0_e28 q0 p1 p2))), .second, .val (.long (f0_e29 q0 p1 p2)), .second] [(.int (lcmpW (f8 (f0_e11 q0 p2) (f0_e12 q0 p2)) (f0_e29 q0 p1 p2)))])) _
        refine XS.ifYes X25.here hx rfl (pc0 := 330) (pc' := 337) rfl (hb hby at_330) rfl ((if0 _ _).trans (feq hc27).2) (by decide) (by decide) ?_
        show Steps p.tables e below (T25.setTop (mkF m 337 #[.val (.long q0), .second, .val (.int p1), .val (.int p2), .val (.int ((p2 &&& (7 : Int32)) % (7 : Int32))), .val (.int ((f0_e1 p2) % (((p2 &&& (7 : Int32)) % (7 : Int32)) + (1 : Int32)))), .val (.int (f0_s0_36001 p2)), .val (.ref b4), .val (.ref b11), .val (.long (f8 (f0_e11 q0 p2) (f0_e12 q0 p2))), .second, .val (.long (f0_e15 q0 p1 p2)), .second, .val (.long (f0_e18 q0 p1 p2)), .second, .val (.long (f0_e21 q0 p1 p2)), .second, .val (.long (f0_e24 q0 p1 p2)), .second, .val (.long ((f0_e27 q0 p1 p2) + (f0_e28 q0 p1 p2))), .second, .val (.long (f0_e29 q0 p1 p2)), .second] [])) _
        refine XS.iconst X25.here hx rfl (hb hby at_337) ?_
        show Steps p.tables e below (T25.setTop (mkF m 338 #[.val (.long q0), .second, .val (.int p1), .val (.int p2), .val (.int ((p2 &&& (7 : Int32)) % (7 : Int32))), .val (.int ((f0_e1 p2) % (((p2 &&& (7 : Int32)) % (7 : Int32)) + (1 : Int32)))), .val (.int (f0_s0_36001 p2)), .val (.ref b4), .val (.ref b11), .val (.long (f8 (f0_e11 q0 p2) (f0_e12 q0 p2))), .second, .val (.long (f0_e15 q0 p1 p2)), .second, .val (.long (f0_e18 q0 p1 p2)), .second, .val (.long (f0_e21 q0 p1 p2)), .second, .val (.long (f0_e24 q0 p1 p2)), .second, .val (.long ((f0_e27 q0 p1 p2) + (f0_e28 q0 p1 p2))), .second, .val (.long (f0_e29 q0 p1 p2)), .second] [(.int (0 : Int32))])) _
        exact retN X25 hx (t := .boolean) Bd.returns (by simp) (hb hby at_338) hr
      · show Q0 Z q0 p1 p2 h0 n0 _ T25.heap _
        rw [e25]
        exact ⟨by rw [show f0 q0 p1 p2 = (0 : Int32) from by unfold f0; rw [if_pos hc15, if_neg hc27]], N25⟩
  · obtain ⟨cq28, kq28, q28a, q28b, q28c⟩ := isOf hZ rfl E13q
    obtain ⟨_, _, ⟨T28, L28, k28, n28⟩, -, X28, ⟨Lc28, hQ28, l28, y28, z28⟩, st28⟩ := X13.virtualBack hx (y := (⟨"com/example/wireshape/wireshape/model/InternetChecksum", "update", "(I)V"⟩ : MethodName)) (z := (⟨"com/example/wireshape/wireshape/model/InternetChecksum", "update", "(I)V"⟩ : MethodName)) hown (mvT hZ (hw _ (List.mem_of_getElem? (i := 52) rfl))) (mvT hZ (hw _ (List.mem_of_getElem? (i := 31) rfl))) (notFace_of_selects (args := #[]) (mvT hZ (hw _ (List.mem_of_getElem? (i := 33) rfl)))) (mvT hZ (hw _ (List.mem_of_getElem? (i := 33) rfl))) (mvT hZ (hw _ (List.mem_of_getElem? (i := 32) rfl))) (by decide) (backOf (W := 0) (rm7 l Z a0 hw [] b11 p1 (f0_e8 q0 p2) (f0_e9 q0 p2) T13.heap n0 Zz13 E13q gn_b11 F13n_odd F13n_sum (own_sb1 q0 p1 p2).1 (own_sb1 q0 p1 p2).2) hZ (hw _ (List.mem_of_getElem? (i := 34) rfl)) (hw _ (List.mem_of_getElem? (i := 3) rfl)) (by decide) (by decide)) q28a q28c (g := (mkF m 122 #[.val (.long q0), .second, .val (.int p1), .val (.int p2), .val (.int ((p2 &&& (7 : Int32)) % (7 : Int32))), .val (.int ((f0_e1 p2) % (((p2 &&& (7 : Int32)) % (7 : Int32)) + (1 : Int32)))), .val (.int (f0_s0_36001 p2)), .val (.ref b4), .val (.ref b11), .unset, .unset, .unset, .unset, .unset, .unset, .unset, .unset, .unset, .unset, .unset, .unset, .unset, .unset] [(.int p1), (.ref b11)])) rfl (by rw [hml]; rfl) (Steps.refl _) (argsL := [(.int p1)]) (rest := []) (lenOf pd_4 rfl) rfl (by show 2 * 0 + _ ≤ _; exact Nat.le_of_eq rfl) (hb hby at_122) (fun _ _ => ⟨rfl, rfl, (by decide : 2 + 0 ≤ _), (by decide : 8 + 0 ≤ _)⟩)
    dsimp only [Pt.U, Pt.locs, Pt.cells, Pt.slots] at X28 l28 y28 z28 st28 hQ28
    obtain rfl : k28 = 2 := y28
    obtain rfl : n28 = 8 := z28
    obtain ⟨rfl, N28q, K28q, E28q, F28q_odd, F28q_sum⟩ := hQ28
    have V_b4_28 := V_b4_13.keep K28q (ninS ne_b4_b11 nin0)
    have Zz28 := Nat.le_trans Zz13 K28q.1
    have K28 : Keep h0 T28.heap [] := K13.trans K28q (allS (Or.inr sz_b11) all0)
    have N28 : Fr n0 L28 := by rw [l28]; exact Fr.app N13 N28q
    obtain ⟨cq29, kq29, q29a, q29b, q29c⟩ := isOf hZ rfl E28q
    obtain ⟨_, _, ⟨T29, L29, k29, n29⟩, -, X29, ⟨Lc29, hQ29, l29, y29, z29⟩, st29⟩ := X28.virtualBack hx (y := (⟨"com/example/wireshape/wireshape/model/InternetChecksum", "update", "([BII)V"⟩ : MethodName)) (z := (⟨"com/example/wireshape/wireshape/model/InternetChecksum", "update", "([BII)V"⟩ : MethodName)) hown (mvT hZ (hw _ (List.mem_of_getElem? (i := 10) rfl))) (mvT hZ (hw _ (List.mem_of_getElem? (i := 11) rfl))) (notFace_of_selects (args := #[]) (mvT hZ (hw _ (List.mem_of_getElem? (i := 13) rfl)))) (mvT hZ (hw _ (List.mem_of_getElem? (i := 13) rfl))) (mvT hZ (hw _ (List.mem_of_getElem? (i := 12) rfl))) (by decide) (backOf (W := 0) (rm3 l Z a0 hw [] b11 b4 ((f0_e1 p2) % (((p2 &&& (7 : Int32)) % (7 : Int32)) + (1 : Int32))) (f0_e10 p2) (f7_odd p1 (f0_e8 q0 p2) (f0_e9 q0 p2)) (f7_sum p1 (f0_e8 q0 p2) (f0_e9 q0 p2)) k4 (own_vb q0) T28.heap n0 Zz28 E28q gn_b11 F28q_odd F28q_sum V_b4_28 ne_b4_b11 (own_l2 p2).1 (own_l2 p2).2.1 (own_l2 p2).2.2 (own_sb2 q0 p1 p2).1 (own_sb2 q0 p1 p2).2) hZ (hw _ (List.mem_of_getElem? (i := 14) rfl)) (hw _ (List.mem_of_getElem? (i := 3) rfl)) (by decide) (by decide)) q29a q29c (g := (mkF m 136 #[.val (.long q0), .second, .val (.int p1), .val (.int p2), .val (.int ((p2 &&& (7 : Int32)) % (7 : Int32))), .val (.int ((f0_e1 p2) % (((p2 &&& (7 : Int32)) % (7 : Int32)) + (1 : Int32)))), .val (.int (f0_s0_36001 p2)), .val (.ref b4), .val (.ref b11), .unset, .unset, .unset, .unset, .unset, .unset, .unset, .unset, .unset, .unset, .unset, .unset, .unset, .unset] [(.int (f0_e10 p2)), (.int ((f0_e1 p2) % (((p2 &&& (7 : Int32)) % (7 : Int32)) + (1 : Int32)))), (.ref b4), (.ref b11)])) rfl (by rw [hml]; rfl) (Steps.refl _) (argsL := [(.ref b4), (.int ((f0_e1 p2) % (((p2 &&& (7 : Int32)) % (7 : Int32)) + (1 : Int32)))), (.int (f0_e10 p2))]) (rest := []) (lenOf pd_6 rfl) rfl (by show 2 * 0 + _ ≤ _; exact Nat.le_of_eq rfl) (hb hby at_136) (fun _ _ => ⟨rfl, rfl, (by decide : 2 + 0 ≤ _), (by decide : 8 + 0 ≤ _)⟩)
    dsimp only [Pt.U, Pt.locs, Pt.cells, Pt.slots] at X29 l29 y29 z29 st29 hQ29
    obtain rfl : k29 = 2 := y29
    obtain rfl : n29 = 8 := z29
    obtain ⟨rfl, N29q, K29q, E29q, F29q_odd, F29q_sum⟩ := hQ29
    have V_b4_29 := V_b4_28.keep K29q (ninS ne_b4_b11 nin0)
    have F29n_odd : Fld Z T29.heap b11 "com/example/wireshape/wireshape/model/InternetChecksum" "odd" "Z" (.int (f0_e30 q0 p1 p2)) := F29q_odd
    have F29n_sum : Fld Z T29.heap b11 "com/example/wireshape/wireshape/model/InternetChecksum" "sum" "J" (.long (f0_e31 q0 p1 p2)) := F29q_sum
    have Zz29 := Nat.le_trans Zz28 K29q.1
    have K29 : Keep h0 T29.heap [] := K28.trans K29q (allS (Or.inr sz_b11) all0)
    have N29 : Fr n0 L29 := by rw [l29]; exact Fr.app N28 N29q
    obtain ⟨cq30, kq30, q30a, q30b, q30c⟩ := isOf hZ rfl E29q
    obtain ⟨_, _, ⟨T30, L30, k30, n30⟩, -, X30, ⟨Lc30, hQ30, l30, y30, z30⟩, st30⟩ := X29.virtualBack hx (y := (⟨"com/example/wireshape/wireshape/model/InternetChecksum", "getValue", "()J"⟩ : MethodName)) (z := (⟨"com/example/wireshape/wireshape/model/InternetChecksum", "getValue", "()J"⟩ : MethodName)) hown (mvT hZ (hw _ (List.mem_of_getElem? (i := 35) rfl))) (mvT hZ (hw _ (List.mem_of_getElem? (i := 36) rfl))) (notFace_of_selects (args := #[]) (mvT hZ (hw _ (List.mem_of_getElem? (i := 38) rfl)))) (mvT hZ (hw _ (List.mem_of_getElem? (i := 38) rfl))) (mvT hZ (hw _ (List.mem_of_getElem? (i := 37) rfl))) (by decide) (backOf (W := 0) (rm8 l Z a0 hw [] b11 (f0_e30 q0 p1 p2) (f0_e31 q0 p1 p2) T29.heap n0 Zz29 E29q gn_b11 F29n_odd F29n_sum) hZ (hw _ (List.mem_of_getElem? (i := 39) rfl)) (hw _ (List.mem_of_getElem? (i := 3) rfl)) (by decide) (by decide)) q30a q30c (g := (mkF m 141 #[.val (.long q0), .second, .val (.int p1), .val (.int p2), .val (.int ((p2 &&& (7 : Int32)) % (7 : Int32))), .val (.int ((f0_e1 p2) % (((p2 &&& (7 : Int32)) % (7 : Int32)) + (1 : Int32)))), .val (.int (f0_s0_36001 p2)), .val (.ref b4), .val (.ref b11), .unset, .unset, .unset, .unset, .unset, .unset, .unset, .unset, .unset, .unset, .unset, .unset, .unset, .unset] [(.ref b11)])) rfl (by rw [hml]; rfl) (Steps.refl _) (argsL := []) (rest := []) (lenOf pd_7 rfl) rfl (by show 2 * 0 + _ ≤ _; exact Nat.le_of_eq rfl) (hb hby at_141) (fun _ _ => ⟨rfl, rfl, (by decide : 2 + 0 ≤ _), (by decide : 8 + 0 ≤ _)⟩)
    dsimp only [Pt.U, Pt.locs, Pt.cells, Pt.slots] at X30 l30 y30 z30 st30 hQ30
    obtain rfl : k30 = 2 := y30
    obtain rfl : n30 = 8 := z30
    obtain ⟨rfl, N30q, e30⟩ := hQ30
    have N30 : Fr n0 L30 := by rw [l30]; exact Fr.app N29 N30q
    obtain ⟨_, _, ⟨T31, L31, k31, n31⟩, -, X31, ⟨Lc31, hQ31, l31, y31, z31⟩, st31⟩ := Jvm.LawKit.callS X30 hx (y := (⟨"com/example/wireshape/wireshape/model/InternetChecksumGetValuePinLaw", "at", "(IJIIZI)I"⟩ : MethodName)) hown (mvT hZ (hw _ (List.mem_of_getElem? (i := 42) rfl))) (mvT hZ (hw _ (List.mem_of_getElem? (i := 43) rfl))) (mvT hZ (hw _ (List.mem_of_getElem? (i := 44) rfl))) (mvT hZ (hw _ (List.mem_of_getElem? (i := 45) rfl))) (by decide) (backOf (W := 0) (rm9 l Z a0 hw [] (0 : Int32) q0 ((f0_e1 p2) % (((p2 &&& (7 : Int32)) % (7 : Int32)) + (1 : Int32))) ((p2 &&& (7 : Int32)) % (7 : Int32)) (f0_s0_36001 p2) p1 T29.heap n0 Zz29) hZ (hw _ (List.mem_of_getElem? (i := 45) rfl)) (hw _ (List.mem_of_getElem? (i := 44) rfl)) (by decide) (by decide)) (g := (mkF m 155 #[.val (.long q0), .second, .val (.int p1), .val (.int p2), .val (.int ((p2 &&& (7 : Int32)) % (7 : Int32))), .val (.int ((f0_e1 p2) % (((p2 &&& (7 : Int32)) % (7 : Int32)) + (1 : Int32)))), .val (.int (f0_s0_36001 p2)), .val (.ref b4), .val (.ref b11), .val (.long (f8 (f0_e30 q0 p1 p2) (f0_e31 q0 p1 p2))), .second, .unset, .unset, .unset, .unset, .unset, .unset, .unset, .unset, .unset, .unset, .unset, .unset] [(.int p1), (.int (f0_s0_36001 p2)), (.int ((p2 &&& (7 : Int32)) % (7 : Int32))), (.int ((f0_e1 p2) % (((p2 &&& (7 : Int32)) % (7 : Int32)) + (1 : Int32)))), (.long q0), (.int (0 : Int32))])) rfl (by rw [hml]; rfl) (argsL := [(.int (0 : Int32)), (.long q0), (.int ((f0_e1 p2) % (((p2 &&& (7 : Int32)) % (7 : Int32)) + (1 : Int32)))), (.int ((p2 &&& (7 : Int32)) % (7 : Int32))), (.int (f0_s0_36001 p2)), (.int p1)]) (rest := []) (lenOf pd_8 rfl) rfl (by show 2 * 0 + _ ≤ _; exact Nat.le_of_eq rfl) (hb hby at_155) (fun _ _ => ⟨rfl, e30, (by decide : 2 + 0 ≤ _), (by decide : 8 + 0 ≤ _)⟩)
    dsimp only [Pt.U, Pt.locs, Pt.cells, Pt.slots] at X31 l31 y31 z31 st31 hQ31
    obtain rfl : k31 = 2 := y31
    obtain rfl : n31 = 8 := z31
    obtain ⟨rfl, N31q, e31⟩ := hQ31
    have N31 : Fr n0 L31 := by rw [l31]; exact Fr.app N30 N31q
    obtain ⟨_, _, ⟨T32, L32, k32, n32⟩, -, X32, ⟨Lc32, hQ32, l32, y32, z32⟩, st32⟩ := Jvm.LawKit.callS X31 hx (y := (⟨"com/example/wireshape/wireshape/model/InternetChecksumGetValuePinLaw", "at", "(IJIIZI)I"⟩ : MethodName)) hown (mvT hZ (hw _ (List.mem_of_getElem? (i := 42) rfl))) (mvT hZ (hw _ (List.mem_of_getElem? (i := 43) rfl))) (mvT hZ (hw _ (List.mem_of_getElem? (i := 44) rfl))) (mvT hZ (hw _ (List.mem_of_getElem? (i := 45) rfl))) (by decide) (backOf (W := 1) (rm9 l Z a0 hw [] (1 : Int32) q0 ((f0_e1 p2) % (((p2 &&& (7 : Int32)) % (7 : Int32)) + (1 : Int32))) ((p2 &&& (7 : Int32)) % (7 : Int32)) (f0_s0_36001 p2) p1 T29.heap n0 Zz29) hZ (hw _ (List.mem_of_getElem? (i := 45) rfl)) (hw _ (List.mem_of_getElem? (i := 44) rfl)) (by decide) (by decide)) (g := (mkF m 170 #[.val (.long q0), .second, .val (.int p1), .val (.int p2), .val (.int ((p2 &&& (7 : Int32)) % (7 : Int32))), .val (.int ((f0_e1 p2) % (((p2 &&& (7 : Int32)) % (7 : Int32)) + (1 : Int32)))), .val (.int (f0_s0_36001 p2)), .val (.ref b4), .val (.ref b11), .val (.long (f8 (f0_e30 q0 p1 p2) (f0_e31 q0 p1 p2))), .second, .unset, .unset, .unset, .unset, .unset, .unset, .unset, .unset, .unset, .unset, .unset, .unset] [(.int p1), (.int (f0_s0_36001 p2)), (.int ((p2 &&& (7 : Int32)) % (7 : Int32))), (.int ((f0_e1 p2) % (((p2 &&& (7 : Int32)) % (7 : Int32)) + (1 : Int32)))), (.long q0), (.int (1 : Int32)), (.int ((f0_e13 q0 p1 p2) <<< ((8 : Int32) &&& 31)))])) rfl (by rw [hml]; rfl) (argsL := [(.int (1 : Int32)), (.long q0), (.int ((f0_e1 p2) % (((p2 &&& (7 : Int32)) % (7 : Int32)) + (1 : Int32)))), (.int ((p2 &&& (7 : Int32)) % (7 : Int32))), (.int (f0_s0_36001 p2)), (.int p1)]) (rest := [(.int ((f0_e13 q0 p1 p2) <<< ((8 : Int32) &&& 31)))]) (lenOf pd_8 rfl) rfl (by show 2 * 0 + _ ≤ _; exact Nat.le_of_eq rfl) (hb hby at_170) (fun _ _ => ⟨rfl, e31, (by decide : 2 + 0 ≤ _), (by decide : 8 + 0 ≤ _)⟩)
    dsimp only [Pt.U, Pt.locs, Pt.cells, Pt.slots] at X32 l32 y32 z32 st32 hQ32
    obtain rfl : k32 = 2 := y32
    obtain rfl : n32 = 8 := z32
    obtain ⟨rfl, N32q, e32⟩ := hQ32
    have N32 : Fr n0 L32 := by rw [l32]; exact Fr.app N31 N32q
    obtain ⟨_, _, ⟨T33, L33, k33, n33⟩, -, X33, ⟨Lc33, hQ33, l33, y33, z33⟩, st33⟩ := Jvm.LawKit.callS X32 hx (y := (⟨"com/example/wireshape/wireshape/model/InternetChecksumGetValuePinLaw", "at", "(IJIIZI)I"⟩ : MethodName)) hown (mvT hZ (hw _ (List.mem_of_getElem? (i := 42) rfl))) (mvT hZ (hw _ (List.mem_of_getElem? (i := 43) rfl))) (mvT hZ (hw _ (List.mem_of_getElem? (i := 44) rfl))) (mvT hZ (hw _ (List.mem_of_getElem? (i := 45) rfl))) (by decide) (backOf (W := 0) (rm9 l Z a0 hw [] (2 : Int32) q0 ((f0_e1 p2) % (((p2 &&& (7 : Int32)) % (7 : Int32)) + (1 : Int32))) ((p2 &&& (7 : Int32)) % (7 : Int32)) (f0_s0_36001 p2) p1 T29.heap n0 Zz29) hZ (hw _ (List.mem_of_getElem? (i := 45) rfl)) (hw _ (List.mem_of_getElem? (i := 44) rfl)) (by decide) (by decide)) (g := (mkF m 186 #[.val (.long q0), .second, .val (.int p1), .val (.int p2), .val (.int ((p2 &&& (7 : Int32)) % (7 : Int32))), .val (.int ((f0_e1 p2) % (((p2 &&& (7 : Int32)) % (7 : Int32)) + (1 : Int32)))), .val (.int (f0_s0_36001 p2)), .val (.ref b4), .val (.ref b11), .val (.long (f8 (f0_e30 q0 p1 p2) (f0_e31 q0 p1 p2))), .second, .val (.long (f0_e15 q0 p1 p2)), .second, .unset, .unset, .unset, .unset, .unset, .unset, .unset, .unset, .unset, .unset] [(.int p1), (.int (f0_s0_36001 p2)), (.int ((p2 &&& (7 : Int32)) % (7 : Int32))), (.int ((f0_e1 p2) % (((p2 &&& (7 : Int32)) % (7 : Int32)) + (1 : Int32)))), (.long q0), (.int (2 : Int32))])) rfl (by rw [hml]; rfl) (argsL := [(.int (2 : Int32)), (.long q0), (.int ((f0_e1 p2) % (((p2 &&& (7 : Int32)) % (7 : Int32)) + (1 : Int32)))), (.int ((p2 &&& (7 : Int32)) % (7 : Int32))), (.int (f0_s0_36001 p2)), (.int p1)]) (rest := []) (lenOf pd_8 rfl) rfl (by show 2 * 0 + _ ≤ _; exact Nat.le_of_eq rfl) (hb hby at_186) (fun _ _ => ⟨rfl, e32, (by decide : 2 + 0 ≤ _), (by decide : 8 + 0 ≤ _)⟩)
    dsimp only [Pt.U, Pt.locs, Pt.cells, Pt.slots] at X33 l33 y33 z33 st33 hQ33
    obtain rfl : k33 = 2 := y33
    obtain rfl : n33 = 8 := z33
    obtain ⟨rfl, N33q, e33⟩ := hQ33
    have N33 : Fr n0 L33 := by rw [l33]; exact Fr.app N32 N33q
    obtain ⟨_, _, ⟨T34, L34, k34, n34⟩, -, X34, ⟨Lc34, hQ34, l34, y34, z34⟩, st34⟩ := Jvm.LawKit.callS X33 hx (y := (⟨"com/example/wireshape/wireshape/model/InternetChecksumGetValuePinLaw", "at", "(IJIIZI)I"⟩ : MethodName)) hown (mvT hZ (hw _ (List.mem_of_getElem? (i := 42) rfl))) (mvT hZ (hw _ (List.mem_of_getElem? (i := 43) rfl))) (mvT hZ (hw _ (List.mem_of_getElem? (i := 44) rfl))) (mvT hZ (hw _ (List.mem_of_getElem? (i := 45) rfl))) (by decide) (backOf (W := 1) (rm9 l Z a0 hw [] (3 : Int32) q0 ((f0_e1 p2) % (((p2 &&& (7 : Int32)) % (7 : Int32)) + (1 : Int32))) ((p2 &&& (7 : Int32)) % (7 : Int32)) (f0_s0_36001 p2) p1 T29.heap n0 Zz29) hZ (hw _ (List.mem_of_getElem? (i := 45) rfl)) (hw _ (List.mem_of_getElem? (i := 44) rfl)) (by decide) (by decide)) (g := (mkF m 201 #[.val (.long q0), .second, .val (.int p1), .val (.int p2), .val (.int ((p2 &&& (7 : Int32)) % (7 : Int32))), .val (.int ((f0_e1 p2) % (((p2 &&& (7 : Int32)) % (7 : Int32)) + (1 : Int32)))), .val (.int (f0_s0_36001 p2)), .val (.ref b4), .val (.ref b11), .val (.long (f8 (f0_e30 q0 p1 p2) (f0_e31 q0 p1 p2))), .second, .val (.long (f0_e15 q0 p1 p2)), .second, .unset, .unset, .unset, .unset, .unset, .unset, .unset, .unset, .unset, .unset] [(.int p1), (.int (f0_s0_36001 p2)), (.int ((p2 &&& (7 : Int32)) % (7 : Int32))), (.int ((f0_e1 p2) % (((p2 &&& (7 : Int32)) % (7 : Int32)) + (1 : Int32)))), (.long q0), (.int (3 : Int32)), (.int ((f0_e16 q0 p1 p2) <<< ((8 : Int32) &&& 31)))])) rfl (by rw [hml]; rfl) (argsL := [(.int (3 : Int32)), (.long q0), (.int ((f0_e1 p2) % (((p2 &&& (7 : Int32)) % (7 : Int32)) + (1 : Int32)))), (.int ((p2 &&& (7 : Int32)) % (7 : Int32))), (.int (f0_s0_36001 p2)), (.int p1)]) (rest := [(.int ((f0_e16 q0 p1 p2) <<< ((8 : Int32) &&& 31)))]) (lenOf pd_8 rfl) rfl (by show 2 * 0 + _ ≤ _; exact Nat.le_of_eq rfl) (hb hby at_201) (fun _ _ => ⟨rfl, e33, (by decide : 2 + 0 ≤ _), (by decide : 8 + 0 ≤ _)⟩)
    dsimp only [Pt.U, Pt.locs, Pt.cells, Pt.slots] at X34 l34 y34 z34 st34 hQ34
    obtain rfl : k34 = 2 := y34
    obtain rfl : n34 = 8 := z34
    obtain ⟨rfl, N34q, e34⟩ := hQ34
    have N34 : Fr n0 L34 := by rw [l34]; exact Fr.app N33 N34q
    obtain ⟨_, _, ⟨T35, L35, k35, n35⟩, -, X35, ⟨Lc35, hQ35, l35, y35, z35⟩, st35⟩ := Jvm.LawKit.callS X34 hx (y := (⟨"com/example/wireshape/wireshape/model/InternetChecksumGetValuePinLaw", "at", "(IJIIZI)I"⟩ : MethodName)) hown (mvT hZ (hw _ (List.mem_of_getElem? (i := 42) rfl))) (mvT hZ (hw _ (List.mem_of_getElem? (i := 43) rfl))) (mvT hZ (hw _ (List.mem_of_getElem? (i := 44) rfl))) (mvT hZ (hw _ (List.mem_of_getElem? (i := 45) rfl))) (by decide) (backOf (W := 0) (rm9 l Z a0 hw [] (4 : Int32) q0 ((f0_e1 p2) % (((p2 &&& (7 : Int32)) % (7 : Int32)) + (1 : Int32))) ((p2 &&& (7 : Int32)) % (7 : Int32)) (f0_s0_36001 p2) p1 T29.heap n0 Zz29) hZ (hw _ (List.mem_of_getElem? (i := 45) rfl)) (hw _ (List.mem_of_getElem? (i := 44) rfl)) (by decide) (by decide)) (g := (mkF m 217 #[.val (.long q0), .second, .val (.int p1), .val (.int p2), .val (.int ((p2 &&& (7 : Int32)) % (7 : Int32))), .val (.int ((f0_e1 p2) % (((p2 &&& (7 : Int32)) % (7 : Int32)) + (1 : Int32)))), .val (.int (f0_s0_36001 p2)), .val (.ref b4), .val (.ref b11), .val (.long (f8 (f0_e30 q0 p1 p2) (f0_e31 q0 p1 p2))), .second, .val (.long (f0_e15 q0 p1 p2)), .second, .val (.long (f0_e18 q0 p1 p2)), .second, .unset, .unset, .unset, .unset, .unset, .unset, .unset, .unset] [(.int p1), (.int (f0_s0_36001 p2)), (.int ((p2 &&& (7 : Int32)) % (7 : Int32))), (.int ((f0_e1 p2) % (((p2 &&& (7 : Int32)) % (7 : Int32)) + (1 : Int32)))), (.long q0), (.int (4 : Int32))])) rfl (by rw [hml]; rfl) (argsL := [(.int (4 : Int32)), (.long q0), (.int ((f0_e1 p2) % (((p2 &&& (7 : Int32)) % (7 : Int32)) + (1 : Int32)))), (.int ((p2 &&& (7 : Int32)) % (7 : Int32))), (.int (f0_s0_36001 p2)), (.int p1)]) (rest := []) (lenOf pd_8 rfl) rfl (by show 2 * 0 + _ ≤ _; exact Nat.le_of_eq rfl) (hb hby at_217) (fun _ _ => ⟨rfl, e34, (by decide : 2 + 0 ≤ _), (by decide : 8 + 0 ≤ _)⟩)
    dsimp only [Pt.U, Pt.locs, Pt.cells, Pt.slots] at X35 l35 y35 z35 st35 hQ35
    obtain rfl : k35 = 2 := y35
    obtain rfl : n35 = 8 := z35
    obtain ⟨rfl, N35q, e35⟩ := hQ35
    have N35 : Fr n0 L35 := by rw [l35]; exact Fr.app N34 N35q
    obtain ⟨_, _, ⟨T36, L36, k36, n36⟩, -, X36, ⟨Lc36, hQ36, l36, y36, z36⟩, st36⟩ := Jvm.LawKit.callS X35 hx (y := (⟨"com/example/wireshape/wireshape/model/InternetChecksumGetValuePinLaw", "at", "(IJIIZI)I"⟩ : MethodName)) hown (mvT hZ (hw _ (List.mem_of_getElem? (i := 42) rfl))) (mvT hZ (hw _ (List.mem_of_getElem? (i := 43) rfl))) (mvT hZ (hw _ (List.mem_of_getElem? (i := 44) rfl))) (mvT hZ (hw _ (List.mem_of_getElem? (i := 45) rfl))) (by decide) (backOf (W := 1) (rm9 l Z a0 hw [] (5 : Int32) q0 ((f0_e1 p2) % (((p2 &&& (7 : Int32)) % (7 : Int32)) + (1 : Int32))) ((p2 &&& (7 : Int32)) % (7 : Int32)) (f0_s0_36001 p2) p1 T29.heap n0 Zz29) hZ (hw _ (List.mem_of_getElem? (i := 45) rfl)) (hw _ (List.mem_of_getElem? (i := 44) rfl)) (by decide) (by decide)) (g := (mkF m 232 #[.val (.long q0), .second, .val (.int p1), .val (.int p2), .val (.int ((p2 &&& (7 : Int32)) % (7 : Int32))), .val (.int ((f0_e1 p2) % (((p2 &&& (7 : Int32)) % (7 : Int32)) + (1 : Int32)))), .val (.int (f0_s0_36001 p2)), .val (.ref b4), .val (.ref b11), .val (.long (f8 (f0_e30 q0 p1 p2) (f0_e31 q0 p1 p2))), .second, .val (.long (f0_e15 q0 p1 p2)), .second, .val (.long (f0_e18 q0 p1 p2)), .second, .unset, .unset, .unset, .unset, .unset, .unset, .unset, .unset] [(.int p1), (.int (f0_s0_36001 p2)), (.int ((p2 &&& (7 : Int32)) % (7 : Int32))), (.int ((f0_e1 p2) % (((p2 &&& (7 : Int32)) % (7 : Int32)) + (1 : Int32)))), (.long q0), (.int (5 : Int32)), (.int ((f0_e19 q0 p1 p2) <<< ((8 : Int32) &&& 31)))])) rfl (by rw [hml]; rfl) (argsL := [(.int (5 : Int32)), (.long q0), (.int ((f0_e1 p2) % (((p2 &&& (7 : Int32)) % (7 : Int32)) + (1 : Int32)))), (.int ((p2 &&& (7 : Int32)) % (7 : Int32))), (.int (f0_s0_36001 p2)), (.int p1)]) (rest := [(.int ((f0_e19 q0 p1 p2) <<< ((8 : Int32) &&& 31)))]) (lenOf pd_8 rfl) rfl (by show 2 * 0 + _ ≤ _; exact Nat.le_of_eq rfl) (hb hby at_232) (fun _ _ => ⟨rfl, e35, (by decide : 2 + 0 ≤ _), (by decide : 8 + 0 ≤ _)⟩)
    dsimp only [Pt.U, Pt.locs, Pt.cells, Pt.slots] at X36 l36 y36 z36 st36 hQ36
    obtain rfl : k36 = 2 := y36
    obtain rfl : n36 = 8 := z36
    obtain ⟨rfl, N36q, e36⟩ := hQ36
    have N36 : Fr n0 L36 := by rw [l36]; exact Fr.app N35 N36q
    obtain ⟨_, _, ⟨T37, L37, k37, n37⟩, -, X37, ⟨Lc37, hQ37, l37, y37, z37⟩, st37⟩ := Jvm.LawKit.callS X36 hx (y := (⟨"com/example/wireshape/wireshape/model/InternetChecksumGetValuePinLaw", "at", "(IJIIZI)I"⟩ : MethodName)) hown (mvT hZ (hw _ (List.mem_of_getElem? (i := 42) rfl))) (mvT hZ (hw _ (List.mem_of_getElem? (i := 43) rfl))) (mvT hZ (hw _ (List.mem_of_getElem? (i := 44) rfl))) (mvT hZ (hw _ (List.mem_of_getElem? (i := 45) rfl))) (by decide) (backOf (W := 0) (rm9 l Z a0 hw [] (6 : Int32) q0 ((f0_e1 p2) % (((p2 &&& (7 : Int32)) % (7 : Int32)) + (1 : Int32))) ((p2 &&& (7 : Int32)) % (7 : Int32)) (f0_s0_36001 p2) p1 T29.heap n0 Zz29) hZ (hw _ (List.mem_of_getElem? (i := 45) rfl)) (hw _ (List.mem_of_getElem? (i := 44) rfl)) (by decide) (by decide)) (g := (mkF m 249 #[.val (.long q0), .second, .val (.int p1), .val (.int p2), .val (.int ((p2 &&& (7 : Int32)) % (7 : Int32))), .val (.int ((f0_e1 p2) % (((p2 &&& (7 : Int32)) % (7 : Int32)) + (1 : Int32)))), .val (.int (f0_s0_36001 p2)), .val (.ref b4), .val (.ref b11), .val (.long (f8 (f0_e30 q0 p1 p2) (f0_e31 q0 p1 p2))), .second, .val (.long (f0_e15 q0 p1 p2)), .second, .val (.long (f0_e18 q0 p1 p2)), .second, .val (.long (f0_e21 q0 p1 p2)), .second, .unset, .unset, .unset, .unset, .unset, .unset] [(.int p1), (.int (f0_s0_36001 p2)), (.int ((p2 &&& (7 : Int32)) % (7 : Int32))), (.int ((f0_e1 p2) % (((p2 &&& (7 : Int32)) % (7 : Int32)) + (1 : Int32)))), (.long q0), (.int (6 : Int32))])) rfl (by rw [hml]; rfl) (argsL := [(.int (6 : Int32)), (.long q0), (.int ((f0_e1 p2) % (((p2 &&& (7 : Int32)) % (7 : Int32)) + (1 : Int32)))), (.int ((p2 &&& (7 : Int32)) % (7 : Int32))), (.int (f0_s0_36001 p2)), (.int p1)]) (rest := []) (lenOf pd_8 rfl) rfl (by show 2 * 0 + _ ≤ _; exact Nat.le_of_eq rfl) (hb hby at_249) (fun _ _ => ⟨rfl, e36, (by decide : 2 + 0 ≤ _), (by decide : 8 + 0 ≤ _)⟩)
    dsimp only [Pt.U, Pt.locs, Pt.cells, Pt.slots] at X37 l37 y37 z37 st37 hQ37
    obtain rfl : k37 = 2 := y37
    obtain rfl : n37 = 8 := z37
    obtain ⟨rfl, N37q, e37⟩ := hQ37
    have N37 : Fr n0 L37 := by rw [l37]; exact Fr.app N36 N37q
    obtain ⟨_, _, ⟨T38, L38, k38, n38⟩, -, X38, ⟨Lc38, hQ38, l38, y38, z38⟩, st38⟩ := Jvm.LawKit.callS X37 hx (y := (⟨"com/example/wireshape/wireshape/model/InternetChecksumGetValuePinLaw", "at", "(IJIIZI)I"⟩ : MethodName)) hown (mvT hZ (hw _ (List.mem_of_getElem? (i := 42) rfl))) (mvT hZ (hw _ (List.mem_of_getElem? (i := 43) rfl))) (mvT hZ (hw _ (List.mem_of_getElem? (i := 44) rfl))) (mvT hZ (hw _ (List.mem_of_getElem? (i := 45) rfl))) (by decide) (backOf (W := 1) (rm9 l Z a0 hw [] (7 : Int32) q0 ((f0_e1 p2) % (((p2 &&& (7 : Int32)) % (7 : Int32)) + (1 : Int32))) ((p2 &&& (7 : Int32)) % (7 : Int32)) (f0_s0_36001 p2) p1 T29.heap n0 Zz29) hZ (hw _ (List.mem_of_getElem? (i := 45) rfl)) (hw _ (List.mem_of_getElem? (i := 44) rfl)) (by decide) (by decide)) (g := (mkF m 265 #[.val (.long q0), .second, .val (.int p1), .val (.int p2), .val (.int ((p2 &&& (7 : Int32)) % (7 : Int32))), .val (.int ((f0_e1 p2) % (((p2 &&& (7 : Int32)) % (7 : Int32)) + (1 : Int32)))), .val (.int (f0_s0_36001 p2)), .val (.ref b4), .val (.ref b11), .val (.long (f8 (f0_e30 q0 p1 p2) (f0_e31 q0 p1 p2))), .second, .val (.long (f0_e15 q0 p1 p2)), .second, .val (.long (f0_e18 q0 p1 p2)), .second, .val (.long (f0_e21 q0 p1 p2)), .second, .unset, .unset, .unset, .unset, .unset, .unset] [(.int p1), (.int (f0_s0_36001 p2)), (.int ((p2 &&& (7 : Int32)) % (7 : Int32))), (.int ((f0_e1 p2) % (((p2 &&& (7 : Int32)) % (7 : Int32)) + (1 : Int32)))), (.long q0), (.int (7 : Int32)), (.int ((f0_e22 q0 p1 p2) <<< ((8 : Int32) &&& 31)))])) rfl (by rw [hml]; rfl) (argsL := [(.int (7 : Int32)), (.long q0), (.int ((f0_e1 p2) % (((p2 &&& (7 : Int32)) % (7 : Int32)) + (1 : Int32)))), (.int ((p2 &&& (7 : Int32)) % (7 : Int32))), (.int (f0_s0_36001 p2)), (.int p1)]) (rest := [(.int ((f0_e22 q0 p1 p2) <<< ((8 : Int32) &&& 31)))]) (lenOf pd_8 rfl) rfl (by show 2 * 0 + _ ≤ _; exact Nat.le_of_eq rfl) (hb hby at_265) (fun _ _ => ⟨rfl, e37, (by decide : 2 + 0 ≤ _), (by decide : 8 + 0 ≤ _)⟩)
    dsimp only [Pt.U, Pt.locs, Pt.cells, Pt.slots] at X38 l38 y38 z38 st38 hQ38
    obtain rfl : k38 = 2 := y38
    obtain rfl : n38 = 8 := z38
    obtain ⟨rfl, N38q, e38⟩ := hQ38
    have N38 : Fr n0 L38 := by rw [l38]; exact Fr.app N37 N38q
    have pre39 : ∀ t, Steps p.tables e below (T38.setTop (mkF m 330 #[.val (.long q0), .second, .val (.int p1), .val (.int p2), .val (.int ((p2 &&& (7 : Int32)) % (7 : Int32))), .val (.int ((f0_e1 p2) % (((p2 &&& (7 : Int32)) % (7 : Int32)) + (1 : Int32)))), .val (.int (f0_s0_36001 p2)), .val (.ref b4), .val (.ref b11), .val (.long (f8 (f0_e30 q0 p1 p2) (f0_e31 q0 p1 p2))), .second, .val (.long (f0_e15 q0 p1 p2)), .second, .val (.long (f0_e18 q0 p1 p2)), .second, .val (.long (f0_e21 q0 p1 p2)), .second, .val (.long (f0_e24 q0 p1 p2)), .second, .val (.long ((f0_e27 q0 p1 p2) + (f0_e28 q0 p1 p2))), .second, .val (.long (f0_e29 q0 p1 p2)), .second] [(.int (lcmpW (f8 (f0_e30 q0 p1 p2) (f0_e31 q0 p1 p2)) (f0_e29 q0 p1 p2)))])) t → Steps p.tables e below (s₁.setTop (entryFrame m #[(.long q0), (.int p1), (.int p2)] maxLocals)) t := fun t kt => pre14 t (by
      show Steps p.tables e below (T13.setTop (mkF m 116 #[.val (.long q0), .second, .val (.int p1), .val (.int p2), .val (.int ((p2 &&& (7 : Int32)) % (7 : Int32))), .val (.int ((f0_e1 p2) % (((p2 &&& (7 : Int32)) % (7 : Int32)) + (1 : Int32)))), .val (.int (f0_s0_36001 p2)), .val (.ref b4), .val (.ref b11), .unset, .unset, .unset, .unset, .unset, .unset, .unset, .unset, .unset, .unset, .unset, .unset, .unset, .unset] [(.int (f0_s0_36001 p2))])) _
      refine XS.ifNo X13.here hx rfl (hb hby at_116) rfl ((if0 _ _).trans (feq hc15).1) ?_
      show Steps p.tables e below (T13.setTop (mkF m 119 #[.val (.long q0), .second, .val (.int p1), .val (.int p2), .val (.int ((p2 &&& (7 : Int32)) % (7 : Int32))), .val (.int ((f0_e1 p2) % (((p2 &&& (7 : Int32)) % (7 : Int32)) + (1 : Int32)))), .val (.int (f0_s0_36001 p2)), .val (.ref b4), .val (.ref b11), .unset, .unset, .unset, .unset, .unset, .unset, .unset, .unset, .unset, .unset, .unset, .unset, .unset, .unset] [])) _
      refine XS.aload X13.here hx rfl (hb hby at_119) rfl rfl ?_
      show Steps p.tables e below (T13.setTop (mkF m 121 #[.val (.long q0), .second, .val (.int p1), .val (.int p2), .val (.int ((p2 &&& (7 : Int32)) % (7 : Int32))), .val (.int ((f0_e1 p2) % (((p2 &&& (7 : Int32)) % (7 : Int32)) + (1 : Int32)))), .val (.int (f0_s0_36001 p2)), .val (.ref b4), .val (.ref b11), .unset, .unset, .unset, .unset, .unset, .unset, .unset, .unset, .unset, .unset, .unset, .unset, .unset, .unset] [(.ref b11)])) _
      refine XS.iloadN X13.here hx rfl (hb hby at_121) rfl ?_
      show Steps p.tables e below (T13.setTop (mkF m 122 #[.val (.long q0), .second, .val (.int p1), .val (.int p2), .val (.int ((p2 &&& (7 : Int32)) % (7 : Int32))), .val (.int ((f0_e1 p2) % (((p2 &&& (7 : Int32)) % (7 : Int32)) + (1 : Int32)))), .val (.int (f0_s0_36001 p2)), .val (.ref b4), .val (.ref b11), .unset, .unset, .unset, .unset, .unset, .unset, .unset, .unset, .unset, .unset, .unset, .unset, .unset, .unset] [(.int p1), (.ref b11)])) _
      refine st28.trans ?_
      show Steps p.tables e below (T28.setTop (mkF m 125 #[.val (.long q0), .second, .val (.int p1), .val (.int p2), .val (.int ((p2 &&& (7 : Int32)) % (7 : Int32))), .val (.int ((f0_e1 p2) % (((p2 &&& (7 : Int32)) % (7 : Int32)) + (1 : Int32)))), .val (.int (f0_s0_36001 p2)), .val (.ref b4), .val (.ref b11), .unset, .unset, .unset, .unset, .unset, .unset, .unset, .unset, .unset, .unset, .unset, .unset, .unset, .unset] [])) _
      refine XS.aload X28.here hx rfl (hb hby at_125) rfl rfl ?_
      show Steps p.tables e below (T28.setTop (mkF m 127 #[.val (.long q0), .second, .val (.int p1), .val (.int p2), .val (.int ((p2 &&& (7 : Int32)) % (7 : Int32))), .val (.int ((f0_e1 p2) % (((p2 &&& (7 : Int32)) % (7 : Int32)) + (1 : Int32)))), .val (.int (f0_s0_36001 p2)), .val (.ref b4), .val (.ref b11), .unset, .unset, .unset, .unset, .unset, .unset, .unset, .unset, .unset, .unset, .unset, .unset, .unset, .unset] [(.ref b11)])) _
      refine XS.aload X28.here hx rfl (hb hby at_127) rfl rfl ?_
      show Steps p.tables e below (T28.setTop (mkF m 129 #[.val (.long q0), .second, .val (.int p1), .val (.int p2), .val (.int ((p2 &&& (7 : Int32)) % (7 : Int32))), .val (.int ((f0_e1 p2) % (((p2 &&& (7 : Int32)) % (7 : Int32)) + (1 : Int32)))), .val (.int (f0_s0_36001 p2)), .val (.ref b4), .val (.ref b11), .unset, .unset, .unset, .unset, .unset, .unset, .unset, .unset, .unset, .unset, .unset, .unset, .unset, .unset] [(.ref b4), (.ref b11)])) _
      refine XS.iload X28.here hx rfl (hb hby at_129) rfl ?_
      show Steps p.tables e below (T28.setTop (mkF m 131 #[.val (.long q0), .second, .val (.int p1), .val (.int p2), .val (.int ((p2 &&& (7 : Int32)) % (7 : Int32))), .val (.int ((f0_e1 p2) % (((p2 &&& (7 : Int32)) % (7 : Int32)) + (1 : Int32)))), .val (.int (f0_s0_36001 p2)), .val (.ref b4), .val (.ref b11), .unset, .unset, .unset, .unset, .unset, .unset, .unset, .unset, .unset, .unset, .unset, .unset, .unset, .unset] [(.int ((f0_e1 p2) % (((p2 &&& (7 : Int32)) % (7 : Int32)) + (1 : Int32)))), (.ref b4), (.ref b11)])) _
      refine XS.iload X28.here hx rfl (hb hby at_131) rfl ?_
      show Steps p.tables e below (T28.setTop (mkF m 133 #[.val (.long q0), .second, .val (.int p1), .val (.int p2), .val (.int ((p2 &&& (7 : Int32)) % (7 : Int32))), .val (.int ((f0_e1 p2) % (((p2 &&& (7 : Int32)) % (7 : Int32)) + (1 : Int32)))), .val (.int (f0_s0_36001 p2)), .val (.ref b4), .val (.ref b11), .unset, .unset, .unset, .unset, .unset, .unset, .unset, .unset, .unset, .unset, .unset, .unset, .unset, .unset] [(.int ((p2 &&& (7 : Int32)) % (7 : Int32))), (.int ((f0_e1 p2) % (((p2 &&& (7 : Int32)) % (7 : Int32)) + (1 : Int32)))), (.ref b4), (.ref b11)])) _
      refine XS.iload X28.here hx rfl (hb hby at_133) rfl ?_
      show Steps p.tables e below (T28.setTop (mkF m 135 #[.val (.long q0), .second, .val (.int p1), .val (.int p2), .val (.int ((p2 &&& (7 : Int32)) % (7 : Int32))), .val (.int ((f0_e1 p2) % (((p2 &&& (7 : Int32)) % (7 : Int32)) + (1 : Int32)))), .val (.int (f0_s0_36001 p2)), .val (.ref b4), .val (.ref b11), .unset, .unset, .unset, .unset, .unset, .unset, .unset, .unset, .unset, .unset, .unset, .unset, .unset, .unset] [(.int ((f0_e1 p2) % (((p2 &&& (7 : Int32)) % (7 : Int32)) + (1 : Int32)))), (.int ((p2 &&& (7 : Int32)) % (7 : Int32))), (.int ((f0_e1 p2) % (((p2 &&& (7 : Int32)) % (7 : Int32)) + (1 : Int32)))), (.ref b4), (.ref b11)])) _
      refine XS.isub X28.here hx rfl (hb hby at_135) rfl ?_
      show Steps p.tables e below (T28.setTop (mkF m 136 #[.val (.long q0), .second, .val (.int p1), .val (.int p2), .val (.int ((p2 &&& (7 : Int32)) % (7 : Int32))), .val (.int ((f0_e1 p2) % (((p2 &&& (7 : Int32)) % (7 : Int32)) + (1 : Int32)))), .val (.int (f0_s0_36001 p2)), .val (.ref b4), .val (.ref b11), .unset, .unset, .unset, .unset, .unset, .unset, .unset, .unset, .unset, .unset, .unset, .unset, .unset, .unset] [(.int (f0_e10 p2)), (.int ((f0_e1 p2) % (((p2 &&& (7 : Int32)) % (7 : Int32)) + (1 : Int32)))), (.ref b4), (.ref b11)])) _
      refine st29.trans ?_
      show Steps p.tables e below (T29.setTop (mkF m 139 #[.val (.long q0), .second, .val (.int p1), .val (.int p2), .val (.int ((p2 &&& (7 : Int32)) % (7 : Int32))), .val (.int ((f0_e1 p2) % (((p2 &&& (7 : Int32)) % (7 : Int32)) + (1 : Int32)))), .val (.int (f0_s0_36001 p2)), .val (.ref b4), .val (.ref b11), .unset, .unset, .unset, .unset, .unset, .unset, .unset, .unset, .unset, .unset, .unset, .unset, .unset, .unset] [])) _
      refine XS.aload X29.here hx rfl (hb hby at_139) rfl rfl ?_
      show Steps p.tables e below (T29.setTop (mkF m 141 #[.val (.long q0), .second, .val (.int p1), .val (.int p2), .val (.int ((p2 &&& (7 : Int32)) % (7 : Int32))), .val (.int ((f0_e1 p2) % (((p2 &&& (7 : Int32)) % (7 : Int32)) + (1 : Int32)))), .val (.int (f0_s0_36001 p2)), .val (.ref b4), .val (.ref b11), .unset, .unset, .unset, .unset, .unset, .unset, .unset, .unset, .unset, .unset, .unset, .unset, .unset, .unset] [(.ref b11)])) _
      refine st30.trans ?_
      show Steps p.tables e below (T30.setTop (mkF m 144 #[.val (.long q0), .second, .val (.int p1), .val (.int p2), .val (.int ((p2 &&& (7 : Int32)) % (7 : Int32))), .val (.int ((f0_e1 p2) % (((p2 &&& (7 : Int32)) % (7 : Int32)) + (1 : Int32)))), .val (.int (f0_s0_36001 p2)), .val (.ref b4), .val (.ref b11), .unset, .unset, .unset, .unset, .unset, .unset, .unset, .unset, .unset, .unset, .unset, .unset, .unset, .unset] [(.long (f8 (f0_e30 q0 p1 p2) (f0_e31 q0 p1 p2)))])) _
      refine XS.lstore X30.here hx rfl (hb hby at_144) rfl (l' := #[.val (.long q0), .second, .val (.int p1), .val (.int p2), .val (.int ((p2 &&& (7 : Int32)) % (7 : Int32))), .val (.int ((f0_e1 p2) % (((p2 &&& (7 : Int32)) % (7 : Int32)) + (1 : Int32)))), .val (.int (f0_s0_36001 p2)), .val (.ref b4), .val (.ref b11), .val (.long (f8 (f0_e30 q0 p1 p2) (f0_e31 q0 p1 p2))), .second, .unset, .unset, .unset, .unset, .unset, .unset, .unset, .unset, .unset, .unset, .unset, .unset]) rfl ?_
      show Steps p.tables e below (T30.setTop (mkF m 146 #[.val (.long q0), .second, .val (.int p1), .val (.int p2), .val (.int ((p2 &&& (7 : Int32)) % (7 : Int32))), .val (.int ((f0_e1 p2) % (((p2 &&& (7 : Int32)) % (7 : Int32)) + (1 : Int32)))), .val (.int (f0_s0_36001 p2)), .val (.ref b4), .val (.ref b11), .val (.long (f8 (f0_e30 q0 p1 p2) (f0_e31 q0 p1 p2))), .second, .unset, .unset, .unset, .unset, .unset, .unset, .unset, .unset, .unset, .unset, .unset, .unset] [])) _
      refine XS.iconst X30.here hx rfl (hb hby at_146) ?_
      show Steps p.tables e below (T30.setTop (mkF m 147 #[.val (.long q0), .second, .val (.int p1), .val (.int p2), .val (.int ((p2 &&& (7 : Int32)) % (7 : Int32))), .val (.int ((f0_e1 p2) % (((p2 &&& (7 : Int32)) % (7 : Int32)) + (1 : Int32)))), .val (.int (f0_s0_36001 p2)), .val (.ref b4), .val (.ref b11), .val (.long (f8 (f0_e30 q0 p1 p2) (f0_e31 q0 p1 p2))), .second, .unset, .unset, .unset, .unset, .unset, .unset, .unset, .unset, .unset, .unset, .unset, .unset] [(.int (0 : Int32))])) _
      refine XS.lloadN X30.here hx rfl (hb hby at_147) rfl ?_
      show Steps p.tables e below (T30.setTop (mkF m 148 #[.val (.long q0), .second, .val (.int p1), .val (.int p2), .val (.int ((p2 &&& (7 : Int32)) % (7 : Int32))), .val (.int ((f0_e1 p2) % (((p2 &&& (7 : Int32)) % (7 : Int32)) + (1 : Int32)))), .val (.int (f0_s0_36001 p2)), .val (.ref b4), .val (.ref b11), .val (.long (f8 (f0_e30 q0 p1 p2) (f0_e31 q0 p1 p2))), .second, .unset, .unset, .unset, .unset, .unset, .unset, .unset, .unset, .unset, .unset, .unset, .unset] [(.long q0), (.int (0 : Int32))])) _
      refine XS.iload X30.here hx rfl (hb hby at_148) rfl ?_
      show Steps p.tables e below (T30.setTop (mkF m 150 #[.val (.long q0), .second, .val (.int p1), .val (.int p2), .val (.int ((p2 &&& (7 : Int32)) % (7 : Int32))), .val (.int ((f0_e1 p2) % (((p2 &&& (7 : Int32)) % (7 : Int32)) + (1 : Int32)))), .val (.int (f0_s0_36001 p2)), .val (.ref b4), .val (.ref b11), .val (.long (f8 (f0_e30 q0 p1 p2) (f0_e31 q0 p1 p2))), .second, .unset, .unset, .unset, .unset, .unset, .unset, .unset, .unset, .unset, .unset, .unset, .unset] [(.int ((f0_e1 p2) % (((p2 &&& (7 : Int32)) % (7 : Int32)) + (1 : Int32)))), (.long q0), (.int (0 : Int32))])) _
      refine XS.iload X30.here hx rfl (hb hby at_150) rfl ?_
      show Steps p.tables e below (T30.setTop (mkF m 152 #[.val (.long q0), .second, .val (.int p1), .val (.int p2), .val (.int ((p2 &&& (7 : Int32)) % (7 : Int32))), .val (.int ((f0_e1 p2) % (((p2 &&& (7 : Int32)) % (7 : Int32)) + (1 : Int32)))), .val (.int (f0_s0_36001 p2)), .val (.ref b4), .val (.ref b11), .val (.long (f8 (f0_e30 q0 p1 p2) (f0_e31 q0 p1 p2))), .second, .unset, .unset, .unset, .unset, .unset, .unset, .unset, .unset, .unset, .unset, .unset, .unset] [(.int ((p2 &&& (7 : Int32)) % (7 : Int32))), (.int ((f0_e1 p2) % (((p2 &&& (7 : Int32)) % (7 : Int32)) + (1 : Int32)))), (.long q0), (.int (0 : Int32))])) _
      refine XS.iload X30.here hx rfl (hb hby at_152) rfl ?_
      show Steps p.tables e below (T30.setTop (mkF m 154 #[.val (.long q0), .second, .val (.int p1), .val (.int p2), .val (.int ((p2 &&& (7 : Int32)) % (7 : Int32))), .val (.int ((f0_e1 p2) % (((p2 &&& (7 : Int32)) % (7 : Int32)) + (1 : Int32)))), .val (.int (f0_s0_36001 p2)), .val (.ref b4), .val (.ref b11), .val (.long (f8 (f0_e30 q0 p1 p2) (f0_e31 q0 p1 p2))), .second, .unset, .unset, .unset, .unset, .unset, .unset, .unset, .unset, .unset, .unset, .unset, .unset] [(.int (f0_s0_36001 p2)), (.int ((p2 &&& (7 : Int32)) % (7 : Int32))), (.int ((f0_e1 p2) % (((p2 &&& (7 : Int32)) % (7 : Int32)) + (1 : Int32)))), (.long q0), (.int (0 : Int32))])) _
      refine XS.iloadN X30.here hx rfl (hb hby at_154) rfl ?_
      show Steps p.tables e below (T30.setTop (mkF m 155 #[.val (.long q0), .second, .val (.int p1), .val (.int p2), .val (.int ((p2 &&& (7 : Int32)) % (7 : Int32))), .val (.int ((f0_e1 p2) % (((p2 &&& (7 : Int32)) % (7 : Int32)) + (1 : Int32)))), .val (.int (f0_s0_36001 p2)), .val (.ref b4), .val (.ref b11), .val (.long (f8 (f0_e30 q0 p1 p2) (f0_e31 q0 p1 p2))), .second, .unset, .unset, .unset, .unset, .unset, .unset, .unset, .unset, .unset, .unset, .unset, .unset] [(.int p1), (.int (f0_s0_36001 p2)), (.int ((p2 &&& (7 : Int32)) % (7 : Int32))), (.int ((f0_e1 p2) % (((p2 &&& (7 : Int32)) % (7 : Int32)) + (1 : Int32)))), (.long q0), (.int (0 : Int32))])) _
      refine st31 _ ?_
      show Steps p.tables e below (T31.setTop (mkF m 158 #[.val (.long q0), .second, .val (.int p1), .val (.int p2), .val (.int ((p2 &&& (7 : Int32)) % (7 : Int32))), .val (.int ((f0_e1 p2) % (((p2 &&& (7 : Int32)) % (7 : Int32)) + (1 : Int32)))), .val (.int (f0_s0_36001 p2)), .val (.ref b4), .val (.ref b11), .val (.long (f8 (f0_e30 q0 p1 p2) (f0_e31 q0 p1 p2))), .second, .unset, .unset, .unset, .unset, .unset, .unset, .unset, .unset, .unset, .unset, .unset, .unset] [(.int (f0_e13 q0 p1 p2))])) _
      refine XS.bipush X31.here hx rfl (hb hby at_158) ?_
      show Steps p.tables e below (T31.setTop (mkF m 160 #[.val (.long q0), .second, .val (.int p1), .val (.int p2), .val (.int ((p2 &&& (7 : Int32)) % (7 : Int32))), .val (.int ((f0_e1 p2) % (((p2 &&& (7 : Int32)) % (7 : Int32)) + (1 : Int32)))), .val (.int (f0_s0_36001 p2)), .val (.ref b4), .val (.ref b11), .val (.long (f8 (f0_e30 q0 p1 p2) (f0_e31 q0 p1 p2))), .second, .unset, .unset, .unset, .unset, .unset, .unset, .unset, .unset, .unset, .unset, .unset, .unset] [(.int (8 : Int32)), (.int (f0_e13 q0 p1 p2))])) _
      refine XS.ishl X31.here hx rfl (hb hby at_160) rfl ?_
      show Steps p.tables e below (T31.setTop (mkF m 161 #[.val (.long q0), .second, .val (.int p1), .val (.int p2), .val (.int ((p2 &&& (7 : Int32)) % (7 : Int32))), .val (.int ((f0_e1 p2) % (((p2 &&& (7 : Int32)) % (7 : Int32)) + (1 : Int32)))), .val (.int (f0_s0_36001 p2)), .val (.ref b4), .val (.ref b11), .val (.long (f8 (f0_e30 q0 p1 p2) (f0_e31 q0 p1 p2))), .second, .unset, .unset, .unset, .unset, .unset, .unset, .unset, .unset, .unset, .unset, .unset, .unset] [(.int ((f0_e13 q0 p1 p2) <<< ((8 : Int32) &&& 31)))])) _
      refine XS.iconst X31.here hx rfl (hb hby at_161) ?_
      show Steps p.tables e below (T31.setTop (mkF m 162 #[.val (.long q0), .second, .val (.int p1), .val (.int p2), .val (.int ((p2 &&& (7 : Int32)) % (7 : Int32))), .val (.int ((f0_e1 p2) % (((p2 &&& (7 : Int32)) % (7 : Int32)) + (1 : Int32)))), .val (.int (f0_s0_36001 p2)), .val (.ref b4), .val (.ref b11), .val (.long (f8 (f0_e30 q0 p1 p2) (f0_e31 q0 p1 p2))), .second, .unset, .unset, .unset, .unset, .unset, .unset, .unset, .unset, .unset, .unset, .unset, .unset] [(.int (1 : Int32)), (.int ((f0_e13 q0 p1 p2) <<< ((8 : Int32) &&& 31)))])) _
      refine XS.lloadN X31.here hx rfl (hb hby at_162) rfl ?_
      show Steps p.tables e below (T31.setTop (mkF m 163 #[.val (.long q0), .second, .val (.int p1), .val (.int p2), .val (.int ((p2 &&& (7 : Int32)) % (7 : Int32))), .val (.int ((f0_e1 p2) % (((p2 &&& (7 : Int32)) % (7 : Int32)) + (1 : Int32)))), .val (.int (f0_s0_36001 p2)), .val (.ref b4), .val (.ref b11), .val (.long (f8 (f0_e30 q0 p1 p2) (f0_e31 q0 p1 p2))), .second, .unset, .unset, .unset, .unset, .unset, .unset, .unset, .unset, .unset, .unset, .unset, .unset] [(.long q0), (.int (1 : Int32)), (.int ((f0_e13 q0 p1 p2) <<< ((8 : Int32) &&& 31)))])) _
      refine XS.iload X31.here hx rfl (hb hby at_163) rfl ?_
      show Steps p.tables e below (T31.setTop (mkF m 165 #[.val (.long q0), .second, .val (.int p1), .val (.int p2), .val (.int ((p2 &&& (7 : Int32)) % (7 : Int32))), .val (.int ((f0_e1 p2) % (((p2 &&& (7 : Int32)) % (7 : Int32)) + (1 : Int32)))), .val (.int (f0_s0_36001 p2)), .val (.ref b4), .val (.ref b11), .val (.long (f8 (f0_e30 q0 p1 p2) (f0_e31 q0 p1 p2))), .second, .unset, .unset, .unset, .unset, .unset, .unset, .unset, .unset, .unset, .unset, .unset, .unset] [(.int ((f0_e1 p2) % (((p2 &&& (7 : Int32)) % (7 : Int32)) + (1 : Int32)))), (.long q0), (.int (1 : Int32)), (.int ((f0_e13 q0 p1 p2) <<< ((8 : Int32) &&& 31)))])) _
      refine XS.iload X31.here hx rfl (hb hby at_165) rfl ?_
      show Steps p.tables e below (T31.setTop (mkF m 167 #[.val (.long q0), .second, .val (.int p1), .val (.int p2), .val (.int ((p2 &&& (7 : Int32)) % (7 : Int32))), .val (.int ((f0_e1 p2) % (((p2 &&& (7 : Int32)) % (7 : Int32)) + (1 : Int32)))), .val (.int (f0_s0_36001 p2)), .val (.ref b4), .val (.ref b11), .val (.long (f8 (f0_e30 q0 p1 p2) (f0_e31 q0 p1 p2))), .second, .unset, .unset, .unset, .unset, .unset, .unset, .unset, .unset, .unset, .unset, .unset, .unset] [(.int ((p2 &&& (7 : Int32)) % (7 : Int32))), (.int ((f0_e1 p2) % (((p2 &&& (7 : Int32)) % (7 : Int32)) + (1 : Int32)))), (.long q0), (.int (1 : Int32)), (.int ((f0_e13 q0 p1 p2) <<< ((8 : Int32) &&& 31)))])) _
      refine XS.iload X31.here hx rfl (hb hby at_167) rfl ?_
      show Steps p.tables e below (T31.setTop (mkF m 169 #[.val (.long q0), .second, .val (.int p1), .val (.int p2), .val (.int ((p2 &&& (7 : Int32)) % (7 : Int32))), .val (.int ((f0_e1 p2) % (((p2 &&& (7 : Int32)) % (7 : Int32)) + (1 : Int32)))), .val (.int (f0_s0_36001 p2)), .val (.ref b4), .val (.ref b11), .val (.long (f8 (f0_e30 q0 p1 p2) (f0_e31 q0 p1 p2))), .second, .unset, .unset, .unset, .unset, .unset, .unset, .unset, .unset, .unset, .unset, .unset, .unset] [(.int (f0_s0_36001 p2)), (.int ((p2 &&& (7 : Int32)) % (7 : Int32))), (.int ((f0_e1 p2) % (((p2 &&& (7 : Int32)) % (7 : Int32)) + (1 : Int32)))), (.long q0), (.int (1 : Int32)), (.int ((f0_e13 q0 p1 p2) <<< ((8 : Int32) &&& 31)))])) _
      refine XS.iloadN X31.here hx rfl (hb hby at_169) rfl ?_
      show Steps p.tables e below (T31.setTop (mkF m 170 #[.val (.long q0), .second, .val (.int p1), .val (.int p2), .val (.int ((p2 &&& (7 : Int32)) % (7 : Int32))), .val (.int ((f0_e1 p2) % (((p2 &&& (7 : Int32)) % (7 : Int32)) + (1 : Int32)))), .val (.int (f0_s0_36001 p2)), .val (.ref b4), .val (.ref b11), .val (.long (f8 (f0_e30 q0 p1 p2) (f0_e31 q0 p1 p2))), .second, .unset, .unset, .unset, .unset, .unset, .unset, .unset, .unset, .unset, .unset, .unset, .unset] [(.int p1), (.int (f0_s0_36001 p2)), (.int ((p2 &&& (7 : Int32)) % (7 : Int32))), (.int ((f0_e1 p2) % (((p2 &&& (7 : Int32)) % (7 : Int32)) + (1 : Int32)))), (.long q0), (.int (1 : Int32)), (.int ((f0_e13 q0 p1 p2) <<< ((8 : Int32) &&& 31)))])) _
      refine st32 _ ?_
      show Steps p.tables e below (T32.setTop (mkF m 173 #[.val (.long q0), .second, .val (.int p1), .val (.int p2), .val (.int ((p2 &&& (7 : Int32)) % (7 : Int32))), .val (.int ((f0_e1 p2) % (((p2 &&& (7 : Int32)) % (7 : Int32)) + (1 : Int32)))), .val (.int (f0_s0_36001 p2)), .val (.ref b4), .val (.ref b11), .val (.long (f8 (f0_e30 q0 p1 p2) (f0_e31 q0 p1 p2))), .second, .unset, .unset, .unset, .unset, .unset, .unset, .unset, .unset, .unset, .unset, .unset, .unset] [(.int (f0_e14 q0 p1 p2)), (.int ((f0_e13 q0 p1 p2) <<< ((8 : Int32) &&& 31)))])) _
      refine XS.ior X32.here hx rfl (hb hby at_173) rfl ?_
      show Steps p.tables e below (T32.setTop (mkF m 174 #[.val (.long q0), .second, .val (.int p1), .val (.int p2), .val (.int ((p2 &&& (7 : Int32)) % (7 : Int32))), .val (.int ((f0_e1 p2) % (((p2 &&& (7 : Int32)) % (7 : Int32)) + (1 : Int32)))), .val (.int (f0_s0_36001 p2)), .val (.ref b4), .val (.ref b11), .val (.long (f8 (f0_e30 q0 p1 p2) (f0_e31 q0 p1 p2))), .second, .unset, .unset, .unset, .unset, .unset, .unset, .unset, .unset, .unset, .unset, .unset, .unset] [(.int (((f0_e13 q0 p1 p2) <<< ((8 : Int32) &&& 31)) ||| (f0_e14 q0 p1 p2)))])) _
      refine XS.i2l X32.here hx rfl (hb hby at_174) rfl ?_
      show Steps p.tables e below (T32.setTop (mkF m 175 #[.val (.long q0), .second, .val (.int p1), .val (.int p2), .val (.int ((p2 &&& (7 : Int32)) % (7 : Int32))), .val (.int ((f0_e1 p2) % (((p2 &&& (7 : Int32)) % (7 : Int32)) + (1 : Int32)))), .val (.int (f0_s0_36001 p2)), .val (.ref b4), .val (.ref b11), .val (.long (f8 (f0_e30 q0 p1 p2) (f0_e31 q0 p1 p2))), .second, .unset, .unset, .unset, .unset, .unset, .unset, .unset, .unset, .unset, .unset, .unset, .unset] [(.long (f0_e15 q0 p1 p2))])) _
      refine XS.lstore X32.here hx rfl (hb hby at_175) rfl (l' := #[.val (.long q0), .second, .val (.int p1), .val (.int p2), .val (.int ((p2 &&& (7 : Int32)) % (7 : Int32))), .val (.int ((f0_e1 p2) % (((p2 &&& (7 : Int32)) % (7 : Int32)) + (1 : Int32)))), .val (.int (f0_s0_36001 p2)), .val (.ref b4), .val (.ref b11), .val (.long (f8 (f0_e30 q0 p1 p2) (f0_e31 q0 p1 p2))), .second, .val (.long (f0_e15 q0 p1 p2)), .second, .unset, .unset, .unset, .unset, .unset, .unset, .unset, .unset, .unset, .unset]) rfl ?_
      show Steps p.tables e below (T32.setTop (mkF m 177 #[.val (.long q0), .second, .val (.int p1), .val (.int p2), .val (.int ((p2 &&& (7 : Int32)) % (7 : Int32))), .val (.int ((f0_e1 p2) % (((p2 &&& (7 : Int32)) % (7 : Int32)) + (1 : Int32)))), .val (.int (f0_s0_36001 p2)), .val (.ref b4), .val (.ref b11), .val (.long (f8 (f0_e30 q0 p1 p2) (f0_e31 q0 p1 p2))), .second, .val (.long (f0_e15 q0 p1 p2)), .second, .unset, .unset, .unset, .unset, .unset, .unset, .unset, .unset, .unset, .unset] [])) _
      refine XS.iconst X32.here hx rfl (hb hby at_177) ?_
      show Steps p.tables e below (T32.setTop (mkF m 178 #[.val (.long q0), .second, .val (.int p1), .val (.int p2), .val (.int ((p2 &&& (7 : Int32)) % (7 : Int32))), .val (.int ((f0_e1 p2) % (((p2 &&& (7 : Int32)) % (7 : Int32)) + (1 : Int32)))), .val (.int (f0_s0_36001 p2)), .val (.ref b4), .val (.ref b11), .val (.long (f8 (f0_e30 q0 p1 p2) (f0_e31 q0 p1 p2))), .second, .val (.long (f0_e15 q0 p1 p2)), .second, .unset, .unset, .unset, .unset, .unset, .unset, .unset, .unset, .unset, .unset] [(.int (2 : Int32))])) _
      refine XS.lloadN X32.here hx rfl (hb hby at_178) rfl ?_
      show Steps p.tables e below (T32.setTop (mkF m 179 #[.val (.long q0), .second, .val (.int p1), .val (.int p2), .val (.int ((p2 &&& (7 : Int32)) % (7 : Int32))), .val (.int ((f0_e1 p2) % (((p2 &&& (7 : Int32)) % (7 : Int32)) + (1 : Int32)))), .val (.int (f0_s0_36001 p2)), .val (.ref b4), .val (.ref b11), .val (.long (f8 (f0_e30 q0 p1 p2) (f0_e31 q0 p1 p2))), .second, .val (.long (f0_e15 q0 p1 p2)), .second, .unset, .unset, .unset, .unset, .unset, .unset, .unset, .unset, .unset, .unset] [(.long q0), (.int (2 : Int32))])) _
      refine XS.iload X32.here hx rfl (hb hby at_179) rfl ?_
      show Steps p.tables e below (T32.setTop (mkF m 181 #[.val (.long q0), .second, .val (.int p1), .val (.int p2), .val (.int ((p2 &&& (7 : Int32)) % (7 : Int32))), .val (.int ((f0_e1 p2) % (((p2 &&& (7 : Int32)) % (7 : Int32)) + (1 : Int32)))), .val (.int (f0_s0_36001 p2)), .val (.ref b4), .val (.ref b11), .val (.long (f8 (f0_e30 q0 p1 p2) (f0_e31 q0 p1 p2))), .second, .val (.long (f0_e15 q0 p1 p2)), .second, .unset, .unset, .unset, .unset, .unset, .unset, .unset, .unset, .unset, .unset] [(.int ((f0_e1 p2) % (((p2 &&& (7 : Int32)) % (7 : Int32)) + (1 : Int32)))), (.long q0), (.int (2 : Int32))])) _
      refine XS.iload X32.here hx rfl (hb hby at_181) rfl ?_
      show Steps p.tables e below (T32.setTop (mkF m 183 #[.val (.long q0), .second, .val (.int p1), .val (.int p2), .val (.int ((p2 &&& (7 : Int32)) % (7 : Int32))), .val (.int ((f0_e1 p2) % (((p2 &&& (7 : Int32)) % (7 : Int32)) + (1 : Int32)))), .val (.int (f0_s0_36001 p2)), .val (.ref b4), .val (.ref b11), .val (.long (f8 (f0_e30 q0 p1 p2) (f0_e31 q0 p1 p2))), .second, .val (.long (f0_e15 q0 p1 p2)), .second, .unset, .unset, .unset, .unset, .unset, .unset, .unset, .unset, .unset, .unset] [(.int ((p2 &&& (7 : Int32)) % (7 : Int32))), (.int ((f0_e1 p2) % (((p2 &&& (7 : Int32)) % (7 : Int32)) + (1 : Int32)))), (.long q0), (.int (2 : Int32))])) _
      refine XS.iload X32.here hx rfl (hb hby at_183) rfl ?_
      show Steps p.tables e below (T32.setTop (mkF m 185 #[.val (.long q0), .second, .val (.int p1), .val (.int p2), .val (.int ((p2 &&& (7 : Int32)) % (7 : Int32))), .val (.int ((f0_e1 p2) % (((p2 &&& (7 : Int32)) % (7 : Int32)) + (1 : Int32)))), .val (.int (f0_s0_36001 p2)), .val (.ref b4), .val (.ref b11), .val (.long (f8 (f0_e30 q0 p1 p2) (f0_e31 q0 p1 p2))), .second, .val (.long (f0_e15 q0 p1 p2)), .second, .unset, .unset, .unset, .unset, .unset, .unset, .unset, .unset, .unset, .unset] [(.int (f0_s0_36001 p2)), (.int ((p2 &&& (7 : Int32)) % (7 : Int32))), (.int ((f0_e1 p2) % (((p2 &&& (7 : Int32)) % (7 : Int32)) + (1 : Int32)))), (.long q0), (.int (2 : Int32))])) _
      refine XS.iloadN X32.here hx rfl (hb hby at_185) rfl ?_
      show Steps p.tables e below (T32.setTop (mkF m 186 #[.val (.long q0), .second, .val (.int p1), .val (.int p2), .val (.int ((p2 &&& (7 : Int32)) % (7 : Int32))), .val (.int ((f0_e1 p2) % (((p2 &&& (7 : Int32)) % (7 : Int32)) + (1 : Int32)))), .val (.int (f0_s0_36001 p2)), .val (.ref b4), .val (.ref b11), .val (.long (f8 (f0_e30 q0 p1 p2) (f0_e31 q0 p1 p2))), .second, .val (.long (f0_e15 q0 p1 p2)), .second, .unset, .unset, .unset, .unset, .unset, .unset, .unset, .unset, .unset, .unset] [(.int p1), (.int (f0_s0_36001 p2)), (.int ((p2 &&& (7 : Int32)) % (7 : Int32))), (.int ((f0_e1 p2) % (((p2 &&& (7 : Int32)) % (7 : Int32)) + (1 : Int32)))), (.long q0), (.int (2 : Int32))])) _
      refine st33 _ ?_
      show Steps p.tables e below (T33.setTop (mkF m 189 #[.val (.long q0), .second, .val (.int p1), .val (.int p2), .val (.int ((p2 &&& (7 : Int32)) % (7 : Int32))), .val (.int ((f0_e1 p2) % (((p2 &&& (7 : Int32)) % (7 : Int32)) + (1 : Int32)))), .val (.int (f0_s0_36001 p2)), .val (.ref b4), .val (.ref b11), .val (.long (f8 (f0_e30 q0 p1 p2) (f0_e31 q0 p1 p2))), .second, .val (.long (f0_e15 q0 p1 p2)), .second, .unset, .unset, .unset, .unset, .unset, .unset, .unset, .unset, .unset, .unset] [(.int (f0_e16 q0 p1 p2))])) _
      refine XS.bipush X33.here hx rfl (hb hby at_189) ?_
      show Steps p.tables e below (T33.setTop (mkF m 191 #[.val (.long q0), .second, .val (.int p1), .val (.int p2), .val (.int ((p2 &&& (7 : Int32)) % (7 : Int32))), .val (.int ((f0_e1 p2) % (((p2 &&& (7 : Int32)) % (7 : Int32)) + (1 : Int32)))), .val (.int (f0_s0_36001 p2)), .val (.ref b4), .val (.ref b11), .val (.long (f8 (f0_e30 q0 p1 p2) (f0_e31 q0 p1 p2))), .second, .val (.long (f0_e15 q0 p1 p2)), .second, .unset, .unset, .unset, .unset, .unset, .unset, .unset, .unset, .unset, .unset] [(.int (8 : Int32)), (.int (f0_e16 q0 p1 p2))])) _
      refine XS.ishl X33.here hx rfl (hb hby at_191) rfl ?_
      show Steps p.tables e below (T33.setTop (mkF m 192 #[.val (.long q0), .second, .val (.int p1), .val (.int p2), .val (.int ((p2 &&& (7 : Int32)) % (7 : Int32))), .val (.int ((f0_e1 p2) % (((p2 &&& (7 : Int32)) % (7 : Int32)) + (1 : Int32)))), .val (.int (f0_s0_36001 p2)), .val (.ref b4), .val (.ref b11), .val (.long (f8 (f0_e30 q0 p1 p2) (f0_e31 q0 p1 p2))), .second, .val (.long (f0_e15 q0 p1 p2)), .second, .unset, .unset, .unset, .unset, .unset, .unset, .unset, .unset, .unset, .unset] [(.int ((f0_e16 q0 p1 p2) <<< ((8 : Int32) &&& 31)))])) _
      refine XS.iconst X33.here hx rfl (hb hby at_192) ?_
      show Steps p.tables e below (T33.setTop (mkF m 193 #[.val (.long q0), .second, .val (.int p1), .val (.int p2), .val (.int ((p2 &&& (7 : Int32)) % (7 : Int32))), .val (.int ((f0_e1 p2) % (((p2 &&& (7 : Int32)) % (7 : Int32)) + (1 : Int32)))), .val (.int (f0_s0_36001 p2)), .val (.ref b4), .val (.ref b11), .val (.long (f8 (f0_e30 q0 p1 p2) (f0_e31 q0 p1 p2))), .second, .val (.long (f0_e15 q0 p1 p2)), .second, .unset, .unset, .unset, .unset, .unset, .unset, .unset, .unset, .unset, .unset] [(.int (3 : Int32)), (.int ((f0_e16 q0 p1 p2) <<< ((8 : Int32) &&& 31)))])) _
      refine XS.lloadN X33.here hx rfl (hb hby at_193) rfl ?_
      show Steps p.tables e below (T33.setTop (mkF m 194 #[.val (.long q0), .second, .val (.int p1), .val (.int p2), .val (.int ((p2 &&& (7 : Int32)) % (7 : Int32))), .val (.int ((f0_e1 p2) % (((p2 &&& (7 : Int32)) % (7 : Int32)) + (1 : Int32)))), .val (.int (f0_s0_36001 p2)), .val (.ref b4), .val (.ref b11), .val (.long (f8 (f0_e30 q0 p1 p2) (f0_e31 q0 p1 p2))), .second, .val (.long (f0_e15 q0 p1 p2)), .second, .unset, .unset, .unset, .unset, .unset, .unset, .unset, .unset, .unset, .unset] [(.long q0), (.int (3 : Int32)), (.int ((f0_e16 q0 p1 p2) <<< ((8 : Int32) &&& 31)))])) _
      refine XS.iload X33.here hx rfl (hb hby at_194) rfl ?_
      show Steps p.tables e below (T33.setTop (mkF m 196 #[.val (.long q0), .second, .val (.int p1), .val (.int p2), .val (.int ((p2 &&& (7 : Int32)) % (7 : Int32))), .val (.int ((f0_e1 p2) % (((p2 &&& (7 : Int32)) % (7 : Int32)) + (1 : Int32)))), .val (.int (f0_s0_36001 p2)), .val (.ref b4), .val (.ref b11), .val (.long (f8 (f0_e30 q0 p1 p2) (f0_e31 q0 p1 p2))), .second, .val (.long (f0_e15 q0 p1 p2)), .second, .unset, .unset, .unset, .unset, .unset, .unset, .unset, .unset, .unset, .unset] [(.int ((f0_e1 p2) % (((p2 &&& (7 : Int32)) % (7 : Int32)) + (1 : Int32)))), (.long q0), (.int (3 : Int32)), (.int ((f0_e16 q0 p1 p2) <<< ((8 : Int32) &&& 31)))])) _
      refine XS.iload X33.here hx rfl (hb hby at_196) rfl ?_
      show Steps p.tables e below (T33.setTop (mkF m 198 #[.val (.long q0), .second, .val (.int p1), .val (.int p2), .val (.int ((p2 &&& (7 : Int32)) % (7 : Int32))), .val (.int ((f0_e1 p2) % (((p2 &&& (7 : Int32)) % (7 : Int32)) + (1 : Int32)))), .val (.int (f0_s0_36001 p2)), .val (.ref b4), .val (.ref b11), .val (.long (f8 (f0_e30 q0 p1 p2) (f0_e31 q0 p1 p2))), .second, .val (.long (f0_e15 q0 p1 p2)), .second, .unset, .unset, .unset, .unset, .unset, .unset, .unset, .unset, .unset, .unset] [(.int ((p2 &&& (7 : Int32)) % (7 : Int32))), (.int ((f0_e1 p2) % (((p2 &&& (7 : Int32)) % (7 : Int32)) + (1 : Int32)))), (.long q0), (.int (3 : Int32)), (.int ((f0_e16 q0 p1 p2) <<< ((8 : Int32) &&& 31)))])) _
      refine XS.iload X33.here hx rfl (hb hby at_198) rfl ?_
      show Steps p.tables e below (T33.setTop (mkF m 200 #[.val (.long q0), .second, .val (.int p1), .val (.int p2), .val (.int ((p2 &&& (7 : Int32)) % (7 : Int32))), .val (.int ((f0_e1 p2) % (((p2 &&& (7 : Int32)) % (7 : Int32)) + (1 : Int32)))), .val (.int (f0_s0_36001 p2)), .val (.ref b4), .val (.ref b11), .val (.long (f8 (f0_e30 q0 p1 p2) (f0_e31 q0 p1 p2))), .second, .val (.long (f0_e15 q0 p1 p2)), .second, .unset, .unset, .unset, .unset, .unset, .unset, .unset, .unset, .unset, .unset] [(.int (f0_s0_36001 p2)), (.int ((p2 &&& (7 : Int32)) % (7 : Int32))), (.int ((f0_e1 p2) % (((p2 &&& (7 : Int32)) % (7 : Int32)) + (1 : Int32)))), (.long q0), (.int (3 : Int32)), (.int ((f0_e16 q0 p1 p2) <<< ((8 : Int32) &&& 31)))])) _
      refine XS.iloadN X33.here hx rfl (hb hby at_200) rfl ?_
      show Steps p.tables e below (T33.setTop (mkF m 201 #[.val (.long q0), .second, .val (.int p1), .val (.int p2), .val (.int ((p2 &&& (7 : Int32)) % (7 : Int32))), .val (.int ((f0_e1 p2) % (((p2 &&& (7 : Int32)) % (7 : Int32)) + (1 : Int32)))), .val (.int (f0_s0_36001 p2)), .val (.ref b4), .val (.ref b11), .val (.long (f8 (f0_e30 q0 p1 p2) (f0_e31 q0 p1 p2))), .second, .val (.long (f0_e15 q0 p1 p2)), .second, .unset, .unset, .unset, .unset, .unset, .unset, .unset, .unset, .unset, .unset] [(.int p1), (.int (f0_s0_36001 p2)), (.int ((p2 &&& (7 : Int32)) % (7 : Int32))), (.int ((f0_e1 p2) % (((p2 &&& (7 : Int32)) % (7 : Int32)) + (1 : Int32)))), (.long q0), (.int (3 : Int32)), (.int ((f0_e16 q0 p1 p2) <<< ((8 : Int32) &&& 31)))])) _
      refine st34 _ ?_
      show Steps p.tables e below (T34.setTop (mkF m 204 #[.val (.long q0), .second, .val (.int p1), .val (.int p2), .val (.int ((p2 &&& (7 : Int32)) % (7 : Int32))), .val (.int ((f0_e1 p2) % (((p2 &&& (7 : Int32)) % (7 : Int32)) + (1 : Int32)))), .val (.int (f0_s0_36001 p2)), .val (.ref b4), .val (.ref b11), .val (.long (f8 (f0_e30 q0 p1 p2) (f0_e31 q0 p1 p2))), .second, .val (.long (f0_e15 q0 p1 p2)), .second, .unset, .unset, .unset, .unset, .unset, .unset, .unset, .unset, .unset, .unset] [(.int (f0_e17 q0 p1 p2)), (.int ((f0_e16 q0 p1 p2) <<< ((8 : Int32) &&& 31)))])) _
      refine XS.ior X34.here hx rfl (hb hby at_204) rfl ?_
      show Steps p.tables e below (T34.setTop (mkF m 205 #[.val (.long q0), .second, .val (.int p1), .val (.int p2), .val (.int ((p2 &&& (7 : Int32)) % (7 : Int32))), .val (.int ((f0_e1 p2) % (((p2 &&& (7 : Int32)) % (7 : Int32)) + (1 : Int32)))), .val (.int (f0_s0_36001 p2)), .val (.ref b4), .val (.ref b11), .val (.long (f8 (f0_e30 q0 p1 p2) (f0_e31 q0 p1 p2))), .second, .val (.long (f0_e15 q0 p1 p2)), .second, .unset, .unset, .unset, .unset, .unset, .unset, .unset, .unset, .unset, .unset] [(.int (((f0_e16 q0 p1 p2) <<< ((8 : Int32) &&& 31)) ||| (f0_e17 q0 p1 p2)))])) _
      refine XS.i2l X34.here hx rfl (hb hby at_205) rfl ?_
      show Steps p.tables e below (T34.setTop (mkF m 206 #[.val (.long q0), .second, .val (.int p1), .val (.int p2), .val (.int ((p2 &&& (7 : Int32)) % (7 : Int32))), .val (.int ((f0_e1 p2) % (((p2 &&& (7 : Int32)) % (7 : Int32)) + (1 : Int32)))), .val (.int (f0_s0_36001 p2)), .val (.ref b4), .val (.ref b11), .val (.long (f8 (f0_e30 q0 p1 p2) (f0_e31 q0 p1 p2))), .second, .val (.long (f0_e15 q0 p1 p2)), .second, .unset, .unset, .unset, .unset, .unset, .unset, .unset, .unset, .unset, .unset] [(.long (f0_e18 q0 p1 p2))])) _
      refine XS.lstore X34.here hx rfl (hb hby at_206) rfl (l' := #[.val (.long q0), .second, .val (.int p1), .val (.int p2), .val (.int ((p2 &&& (7 : Int32)) % (7 : Int32))), .val (.int ((f0_e1 p2) % (((p2 &&& (7 : Int32)) % (7 : Int32)) + (1 : Int32)))), .val (.int (f0_s0_36001 p2)), .val (.ref b4), .val (.ref b11), .val (.long (f8 (f0_e30 q0 p1 p2) (f0_e31 q0 p1 p2))), .second, .val (.long (f0_e15 q0 p1 p2)), .second, .val (.long (f0_e18 q0 p1 p2)), .second, .unset, .unset, .unset, .unset, .unset, .unset, .unset, .unset]) rfl ?_
      show Steps p.tables e below (T34.setTop (mkF m 208 #[.val (.long q0), .second, .val (.int p1), .val (.int p2), .val (.int ((p2 &&& (7 : Int32)) % (7 : Int32))), .val (.int ((f0_e1 p2) % (((p2 &&& (7 : Int32)) % (7 : Int32)) + (1 : Int32)))), .val (.int (f0_s0_36001 p2)), .val (.ref b4), .val (.ref b11), .val (.long (f8 (f0_e30 q0 p1 p2) (f0_e31 q0 p1 p2))), .second, .val (.long (f0_e15 q0 p1 p2)), .second, .val (.long (f0_e18 q0 p1 p2)), .second, .unset, .unset, .unset, .unset, .unset, .unset, .unset, .unset] [])) _
      refine XS.iconst X34.here hx rfl (hb hby at_208) ?_
      show Steps p.tables e below (T34.setTop (mkF m 209 #[.val (.long q0), .second, .val (.int p1), .val (.int p2), .val (.int ((p2 &&& (7 : Int32)) % (7 : Int32))), .val (.int ((f0_e1 p2) % (((p2 &&& (7 : Int32)) % (7 : Int32)) + (1 : Int32)))), .val (.int (f0_s0_36001 p2)), .val (.ref b4), .val (.ref b11), .val (.long (f8 (f0_e30 q0 p1 p2) (f0_e31 q0 p1 p2))), .second, .val (.long (f0_e15 q0 p1 p2)), .second, .val (.long (f0_e18 q0 p1 p2)), .second, .unset, .unset, .unset, .unset, .unset, .unset, .unset, .unset] [(.int (4 : Int32))])) _
      refine XS.lloadN X34.here hx rfl (hb hby at_209) rfl ?_
      show Steps p.tables e below (T34.setTop (mkF m 210 #[.val (.long q0), .second, .val (.int p1), .val (.int p2), .val (.int ((p2 &&& (7 : Int32)) % (7 : Int32))), .val (.int ((f0_e1 p2) % (((p2 &&& (7 : Int32)) % (7 : Int32)) + (1 : Int32)))), .val (.int (f0_s0_36001 p2)), .val (.ref b4), .val (.ref b11), .val (.long (f8 (f0_e30 q0 p1 p2) (f0_e31 q0 p1 p2))), .second, .val (.long (f0_e15 q0 p1 p2)), .second, .val (.long (f0_e18 q0 p1 p2)), .second, .unset, .unset, .unset, .unset, .unset, .unset, .unset, .unset] [(.long q0), (.int (4 : Int32))])) _
      refine XS.iload X34.here hx rfl (hb hby at_210) rfl ?_
      show Steps p.tables e below (T34.setTop (mkF m 212 #[.val (.long q0), .second, .val (.int p1), .val (.int p2), .val (.int ((p2 &&& (7 : Int32)) % (7 : Int32))), .val (.int ((f0_e1 p2) % (((p2 &&& (7 : Int32)) % (7 : Int32)) + (1 : Int32)))), .val (.int (f0_s0_36001 p2)), .val (.ref b4), .val (.ref b11), .val (.long (f8 (f0_e30 q0 p1 p2) (f0_e31 q0 p1 p2))), .second, .val (.long (f0_e15 q0 p1 p2)), .second, .val (.long (f0_e18 q0 p1 p2)), .second, .unset, .unset, .unset, .unset, .unset, .unset, .unset, .unset] [(.int ((f0_e1 p2) % (((p2 &&& (7 : Int32)) % (7 : Int32)) + (1 : Int32)))), (.long q0), (.int (4 : Int32))])) _
      refine XS.iload X34.here hx rfl (hb hby at_212) rfl ?_
      show Steps p.tables e below (T34.setTop (mkF m 214 #[.val (.long q0), .second, .val (.int p1), .val (.int p2), .val (.int ((p2 &&& (7 : Int32)) % (7 : Int32))), .val (.int ((f0_e1 p2) % (((p2 &&& (7 : Int32)) % (7 : Int32)) + (1 : Int32)))), .val (.int (f0_s0_36001 p2)), .val (.ref b4), .val (.ref b11), .val (.long (f8 (f0_e30 q0 p1 p2) (f0_e31 q0 p1 p2))), .second, .val (.long (f0_e15 q0 p1 p2)), .second, .val (.long (f0_e18 q0 p1 p2)), .second, .unset, .unset, .unset, .unset, .unset, .unset, .unset, .unset] [(.int ((p2 &&& (7 : Int32)) % (7 : Int32))), (.int ((f0_e1 p2) % (((p2 &&& (7 : Int32)) % (7 : Int32)) + (1 : Int32)))), (.long q0), (.int (4 : Int32))])) _
      refine XS.iload X34.here hx rfl (hb hby at_214) rfl ?_
      show Steps p.tables e below (T34.setTop (mkF m 216 #[.val (.long q0), .second, .val (.int p1), .val (.int p2), .val (.int ((p2 &&& (7 : Int32)) % (7 : Int32))), .val (.int ((f0_e1 p2) % (((p2 &&& (7 : Int32)) % (7 : Int32)) + (1 : Int32)))), .val (.int (f0_s0_36001 p2)), .val (.ref b4), .val (.ref b11), .val (.long (f8 (f0_e30 q0 p1 p2) (f0_e31 q0 p1 p2))), .second, .val (.long (f0_e15 q0 p1 p2)), .second, .val (.long (f0_e18 q0 p1 p2)), .second, .unset, .unset, .unset, .unset, .unset, .unset, .unset, .unset] [(.int (f0_s0_36001 p2)), (.int ((p2 &&& (7 : Int32)) % (7 : Int32))), (.int ((f0_e1 p2) % (((p2 &&& (7 : Int32)) % (7 : Int32)) + (1 : Int32)))), (.long q0), (.int (4 : Int32))])) _
      refine XS.iloadN X34.here hx rfl (hb hby at_216) rfl ?_
      show Steps p.tables e below (T34.setTop (mkF m 217 #[.val (.long q0), .second, .val (.int p1), .val (.int p2), .val (.int ((p2 &&& (7 : Int32)) % (7 : Int32))), .val (.int ((f0_e1 p2) % (((p2 &&& (7 : Int32)) % (7 : Int32)) + (1 : Int32)))), .val (.int (f0_s0_36001 p2)), .val (.ref b4), .val (.ref b11), .val (.long (f8 (f0_e30 q0 p1 p2) (f0_e31 q0 p1 p2))), .second, .val (.long (f0_e15 q0 p1 p2)), .second, .val (.long (f0_e18 q0 p1 p2)), .second, .unset, .unset, .unset, .unset, .unset, .unset, .unset, .unset] [(.int p1), (.int (f0_s0_36001 p2)), (.int ((p2 &&& (7 : Int32)) % (7 : Int32))), (.int ((f0_e1 p2) % (((p2 &&& (7 : Int32)) % (7 : Int32)) + (1 : Int32)))), (.long q0), (.int (4 : Int32))])) _
      refine st35 _ ?_
      show Steps p.tables e below (T35.setTop (mkF m 220 #[.val (.long q0), .second, .val (.int p1), .val (.int p2), .val (.int ((p2 &&& (7 : Int32)) % (7 : Int32))), .val (.int ((f0_e1 p2) % (((p2 &&& (7 : Int32)) % (7 : Int32)) + (1 : Int32)))), .val (.int (f0_s0_36001 p2)), .val (.ref b4), .val (.ref b11), .val (.long (f8 (f0_e30 q0 p1 p2) (f0_e31 q0 p1 p2))), .second, .val (.long (f0_e15 q0 p1 p2)), .second, .val (.long (f0_e18 q0 p1 p2)), .second, .unset, .unset, .unset, .unset, .unset, .unset, .unset, .unset] [(.int (f0_e19 q0 p1 p2))])) _
      refine XS.bipush X35.here hx rfl (hb hby at_220) ?_
      show Steps p.tables e below (T35.setTop (mkF m 222 #[.val (.long q0), .second, .val (.int p1), .val (.int p2), .val (.int ((p2 &&& (7 : Int32)) % (7 : Int32))), .val (.int ((f0_e1 p2) % (((p2 &&& (7 : Int32)) % (7 : Int32)) + (1 : Int32)))), .val (.int (f0_s0_36001 p2)), .val (.ref b4), .val (.ref b11), .val (.long (f8 (f0_e30 q0 p1 p2) (f0_e31 q0 p1 p2))), .second, .val (.long (f0_e15 q0 p1 p2)), .second, .val (.long (f0_e18 q0 p1 p2)), .second, .unset, .unset, .unset, .unset, .unset, .unset, .unset, .unset] [(.int (8 : Int32)), (.int (f0_e19 q0 p1 p2))])) _
      refine XS.ishl X35.here hx rfl (hb hby at_222) rfl ?_
      show Steps p.tables e below (T35.setTop (mkF m 223 #[.val (.long q0), .second, .val (.int p1), .val (.int p2), .val (.int ((p2 &&& (7 : Int32)) % (7 : Int32))), .val (.int ((f0_e1 p2) % (((p2 &&& (7 : Int32)) % (7 : Int32)) + (1 : Int32)))), .val (.int (f0_s0_36001 p2)), .val (.ref b4), .val (.ref b11), .val (.long (f8 (f0_e30 q0 p1 p2) (f0_e31 q0 p1 p2))), .second, .val (.long (f0_e15 q0 p1 p2)), .second, .val (.long (f0_e18 q0 p1 p2)), .second, .unset, .unset, .unset, .unset, .unset, .unset, .unset, .unset] [(.int ((f0_e19 q0 p1 p2) <<< ((8 : Int32) &&& 31)))])) _
      refine XS.iconst X35.here hx rfl (hb hby at_223) ?_
      show Steps p.tables e below (T35.setTop (mkF m 224 #[.val (.long q0), .second, .val (.int p1), .val (.int p2), .val (.int ((p2 &&& (7 : Int32)) % (7 : Int32))), .val (.int ((f0_e1 p2) % (((p2 &&& (7 : Int32)) % (7 : Int32)) + (1 : Int32)))), .val (.int (f0_s0_36001 p2)), .val (.ref b4), .val (.ref b11), .val (.long (f8 (f0_e30 q0 p1 p2) (f0_e31 q0 p1 p2))), .second, .val (.long (f0_e15 q0 p1 p2)), .second, .val (.long (f0_e18 q0 p1 p2)), .second, .unset, .unset, .unset, .unset, .unset, .unset, .unset, .unset] [(.int (5 : Int32)), (.int ((f0_e19 q0 p1 p2) <<< ((8 : Int32) &&& 31)))])) _
      refine XS.lloadN X35.here hx rfl (hb hby at_224) rfl ?_
      show Steps p.tables e below (T35.setTop (mkF m 225 #[.val (.long q0), .second, .val (.int p1), .val (.int p2), .val (.int ((p2 &&& (7 : Int32)) % (7 : Int32))), .val (.int ((f0_e1 p2) % (((p2 &&& (7 : Int32)) % (7 : Int32)) + (1 : Int32)))), .val (.int (f0_s0_36001 p2)), .val (.ref b4), .val (.ref b11), .val (.long (f8 (f0_e30 q0 p1 p2) (f0_e31 q0 p1 p2))), .second, .val (.long (f0_e15 q0 p1 p2)), .second, .val (.long (f0_e18 q0 p1 p2)), .second, .unset, .unset, .unset, .unset, .unset, .unset, .unset, .unset] [(.long q0), (.int (5 : Int32)), (.int ((f0_e19 q0 p1 p2) <<< ((8 : Int32) &&& 31)))])) _
      refine XS.iload X35.here hx rfl (hb hby at_225) rfl ?_
      show Steps p.tables e below (T35.setTop (mkF m 227 #[.val (.long q0), .second, .val (.int p1), .val (.int p2), .val (.int ((p2 &&& (7 : Int32)) % (7 : Int32))), .val (.int ((f0_e1 p2) % (((p2 &&& (7 : Int32)) % (7 : Int32)) + (1 : Int32)))), .val (.int (f0_s0_36001 p2)), .val (.ref b4), .val (.ref b11), .val (.long (f8 (f0_e30 q0 p1 p2) (f0_e31 q0 p1 p2))), .second, .val (.long (f0_e15 q0 p1 p2)), .second, .val (.long (f0_e18 q0 p1 p2)), .second, .unset, .unset, .unset, .unset, .unset, .unset, .unset, .unset] [(.int ((f0_e1 p2) % (((p2 &&& (7 : Int32)) % (7 : Int32)) + (1 : Int32)))), (.long q0), (.int (5 : Int32)), (.int ((f0_e19 q0 p1 p2) <<< ((8 : Int32) &&& 31)))])) _
      refine XS.iload X35.here hx rfl (hb hby at_227) rfl ?_
      show Steps p.tables e below (T35.setTop (mkF m 229 #[.val (.long q0), .second, .val (.int p1), .val (.int p2), .val (.int ((p2 &&& (7 : Int32)) % (7 : Int32))), .val (.int ((f0_e1 p2) % (((p2 &&& (7 : Int32)) % (7 : Int32)) + (1 : Int32)))), .val (.int (f0_s0_36001 p2)), .val (.ref b4), .val (.ref b11), .val (.long (f8 (f0_e30 q0 p1 p2) (f0_e31 q0 p1 p2))), .second, .val (.long (f0_e15 q0 p1 p2)), .second, .val (.long (f0_e18 q0 p1 p2)), .second, .unset, .unset, .unset, .unset, .unset, .unset, .unset, .unset] [(.int ((p2 &&& (7 : Int32)) % (7 : Int32))), (.int ((f0_e1 p2) % (((p2 &&& (7 : Int32)) % (7 : Int32)) + (1 : Int32)))), (.long q0), (.int (5 : Int32)), (.int ((f0_e19 q0 p1 p2) <<< ((8 : Int32) &&& 31)))])) _
      refine XS.iload X35.here hx rfl (hb hby at_229) rfl ?_
      show Steps p.tables e below (T35.setTop (mkF m 231 #[.val (.long q0), .second, .val (.int p1), .val (.int p2), .val (.int ((p2 &&& (7 : Int32)) % (7 : Int32))), .val (.int ((f0_e1 p2) % (((p2 &&& (7 : Int32)) % (7 : Int32)) + (1 : Int32)))), .val (.int (f0_s0_36001 p2)), .val (.ref b4), .val (.ref b11), .val (.long (f8 (f0_e30 q0 p1 p2) (f0_e31 q0 p1 p2))), .second, .val (.long (f0_e15 q0 p1 p2)), .second, .val (.long (f0_e18 q0 p1 p2)), .second, .unset, .unset, .unset, .unset, .unset, .unset, .unset, .unset] [(.int (f0_s0_36001 p2)), (.int ((p2 &&& (7 : Int32)) % (7 : Int32))), (.int ((f0_e1 p2) % (((p2 &&& (7 : Int32)) % (7 : Int32)) + (1 : Int32)))), (.long q0), (.int (5 : Int32)), (.int ((f0_e19 q0 p1 p2) <<< ((8 : Int32) &&& 31)))])) _
      refine XS.iloadN X35.here hx rfl (hb hby at_231) rfl ?_
      show Steps p.tables e below (T35.setTop (mkF m 232 #[.val (.long q0), .second, .val (.int p1), .val (.int p2), .val (.int ((p2 &&& (7 : Int32)) % (7 : Int32))), .val (.int ((f0_e1 p2) % (((p2 &&& (7 : Int32)) % (7 : Int32)) + (1 : Int32)))), .val (.int (f0_s0_36001 p2)), .val (.ref b4), .val (.ref b11), .val (.long (f8 (f0_e30 q0 p1 p2) (f0_e31 q0 p1 p2))), .second, .val (.long (f0_e15 q0 p1 p2)), .second, .val (.long (f0_e18 q0 p1 p2)), .second, .unset, .unset, .unset, .unset, .unset, .unset, .unset, .unset] [(.int p1), (.int (f0_s0_36001 p2)), (.int ((p2 &&& (7 : Int32)) % (7 : Int32))), (.int ((f0_e1 p2) % (((p2 &&& (7 : Int32)) % (7 : Int32)) + (1 : Int32)))), (.long q0), (.int (5 : Int32)), (.int ((f0_e19 q0 p1 p2) <<< ((8 : Int32) &&& 31)))])) _
      refine st36 _ ?_
      show Steps p.tables e below (T36.setTop (mkF m 235 #[.val (.long q0), .second, .val (.int p1), .val (.int p2), .val (.int ((p2 &&& (7 : Int32)) % (7 : Int32))), .val (.int ((f0_e1 p2) % (((p2 &&& (7 : Int32)) % (7 : Int32)) + (1 : Int32)))), .val (.int (f0_s0_36001 p2)), .val (.ref b4), .val (.ref b11), .val (.long (f8 (f0_e30 q0 p1 p2) (f0_e31 q0 p1 p2))), .second, .val (.long (f0_e15 q0 p1 p2)), .second, .val (.long (f0_e18 q0 p1 p2)), .second, .unset, .unset, .unset, .unset, .unset, .unset, .unset, .unset] [(.int (f0_e20 q0 p1 p2)), (.int ((f0_e19 q0 p1 p2) <<< ((8 : Int32) &&& 31)))])) _
      refine XS.ior X36.here hx rfl (hb hby at_235) rfl ?_
      show Steps p.tables e below (T36.setTop (mkF m 236 #[.val (.long q0), .second, .val (.int p1), .val (.int p2), .val (.int ((p2 &&& (7 : Int32)) % (7 : Int32))), .val (.int ((f0_e1 p2) % (((p2 &&& (7 : Int32)) % (7 : Int32)) + (1 : Int32)))), .val (.int (f0_s0_36001 p2)), .val (.ref b4), .val (.ref b11), .val (.long (f8 (f0_e30 q0 p1 p2) (f0_e31 q0 p1 p2))), .second, .val (.long (f0_e15 q0 p1 p2)), .second, .val (.long (f0_e18 q0 p1 p2)), .second, .unset, .unset, .unset, .unset, .unset, .unset, .unset, .unset] [(.int (((f0_e19 q0 p1 p2) <<< ((8 : Int32) &&& 31)) ||| (f0_e20 q0 p1 p2)))])) _
      refine XS.i2l X36.here hx rfl (hb hby at_236) rfl ?_
      show Steps p.tables e below (T36.setTop (mkF m 237 #[.val (.long q0), .second, .val (.int p1), .val (.int p2), .val (.int ((p2 &&& (7 : Int32)) % (7 : Int32))), .val (.int ((f0_e1 p2) % (((p2 &&& (7 : Int32)) % (7 : Int32)) + (1 : Int32)))), .val (.int (f0_s0_36001 p2)), .val (.ref b4), .val (.ref b11), .val (.long (f8 (f0_e30 q0 p1 p2) (f0_e31 q0 p1 p2))), .second, .val (.long (f0_e15 q0 p1 p2)), .second, .val (.long (f0_e18 q0 p1 p2)), .second, .unset, .unset, .unset, .unset, .unset, .unset, .unset, .unset] [(.long (f0_e21 q0 p1 p2))])) _
      refine XS.lstore X36.here hx rfl (hb hby at_237) rfl (l' := #[.val (.long q0), .second, .val (.int p1), .val (.int p2), .val (.int ((p2 &&& (7 : Int32)) % (7 : Int32))), .val (.int ((f0_e1 p2) % (((p2 &&& (7 : Int32)) % (7 : Int32)) + (1 : Int32)))), .val (.int (f0_s0_36001 p2)), .val (.ref b4), .val (.ref b11), .val (.long (f8 (f0_e30 q0 p1 p2) (f0_e31 q0 p1 p2))), .second, .val (.long (f0_e15 q0 p1 p2)), .second, .val (.long (f0_e18 q0 p1 p2)), .second, .val (.long (f0_e21 q0 p1 p2)), .second, .unset, .unset, .unset, .unset, .unset, .unset]) rfl ?_
      show Steps p.tables e below (T36.setTop (mkF m 239 #[.val (.long q0), .second, .val (.int p1), .val (.int p2), .val (.int ((p2 &&& (7 : Int32)) % (7 : Int32))), .val (.int ((f0_e1 p2) % (((p2 &&& (7 : Int32)) % (7 : Int32)) + (1 : Int32)))), .val (.int (f0_s0_36001 p2)), .val (.ref b4), .val (.ref b11), .val (.long (f8 (f0_e30 q0 p1 p2) (f0_e31 q0 p1 p2))), .second, .val (.long (f0_e15 q0 p1 p2)), .second, .val (.long (f0_e18 q0 p1 p2)), .second, .val (.long (f0_e21 q0 p1 p2)), .second, .unset, .unset, .unset, .unset, .unset, .unset] [])) _
      refine XS.bipush X36.here hx rfl (hb hby at_239) ?_
      show Steps p.tables e below (T36.setTop (mkF m 241 #[.val (.long q0), .second, .val (.int p1), .val (.int p2), .val (.int ((p2 &&& (7 : Int32)) % (7 : Int32))), .val (.int ((f0_e1 p2) % (((p2 &&& (7 : Int32)) % (7 : Int32)) + (1 : Int32)))), .val (.int (f0_s0_36001 p2)), .val (.ref b4), .val (.ref b11), .val (.long (f8 (f0_e30 q0 p1 p2) (f0_e31 q0 p1 p2))), .second, .val (.long (f0_e15 q0 p1 p2)), .second, .val (.long (f0_e18 q0 p1 p2)), .second, .val (.long (f0_e21 q0 p1 p2)), .second, .unset, .unset, .unset, .unset, .unset, .unset] [(.int (6 : Int32))])) _
      refine XS.lloadN X36.here hx rfl (hb hby at_241) rfl ?_
      show Steps p.tables e below (T36.setTop (mkF m 242 #[.val (.long q0), .second, .val (.int p1), .val (.int p2), .val (.int ((p2 &&& (7 : Int32)) % (7 : Int32))), .val (.int ((f0_e1 p2) % (((p2 &&& (7 : Int32)) % (7 : Int32)) + (1 : Int32)))), .val (.int (f0_s0_36001 p2)), .val (.ref b4), .val (.ref b11), .val (.long (f8 (f0_e30 q0 p1 p2) (f0_e31 q0 p1 p2))), .second, .val (.long (f0_e15 q0 p1 p2)), .second, .val (.long (f0_e18 q0 p1 p2)), .second, .val (.long (f0_e21 q0 p1 p2)), .second, .unset, .unset, .unset, .unset, .unset, .unset] [(.long q0), (.int (6 : Int32))])) _
      refine XS.iload X36.here hx rfl (hb hby at_242) rfl ?_
      show Steps p.tables e below (T36.setTop (mkF m 244 #[.val (.long q0), .second, .val (.int p1), .val (.int p2), .val (.int ((p2 &&& (7 : Int32)) % (7 : Int32))), .val (.int ((f0_e1 p2) % (((p2 &&& (7 : Int32)) % (7 : Int32)) + (1 : Int32)))), .val (.int (f0_s0_36001 p2)), .val (.ref b4), .val (.ref b11), .val (.long (f8 (f0_e30 q0 p1 p2) (f0_e31 q0 p1 p2))), .second, .val (.long (f0_e15 q0 p1 p2)), .second, .val (.long (f0_e18 q0 p1 p2)), .second, .val (.long (f0_e21 q0 p1 p2)), .second, .unset, .unset, .unset, .unset, .unset, .unset] [(.int ((f0_e1 p2) % (((p2 &&& (7 : Int32)) % (7 : Int32)) + (1 : Int32)))), (.long q0), (.int (6 : Int32))])) _
      refine XS.iload X36.here hx rfl (hb hby at_244) rfl ?_
      show Steps p.tables e below (T36.setTop (mkF m 246 #[.val (.long q0), .second, .val (.int p1), .val (.int p2), .val (.int ((p2 &&& (7 : Int32)) % (7 : Int32))), .val (.int ((f0_e1 p2) % (((p2 &&& (7 : Int32)) % (7 : Int32)) + (1 : Int32)))), .val (.int (f0_s0_36001 p2)), .val (.ref b4), .val (.ref b11), .val (.long (f8 (f0_e30 q0 p1 p2) (f0_e31 q0 p1 p2))), .second, .val (.long (f0_e15 q0 p1 p2)), .second, .val (.long (f0_e18 q0 p1 p2)), .second, .val (.long (f0_e21 q0 p1 p2)), .second, .unset, .unset, .unset, .unset, .unset, .unset] [(.int ((p2 &&& (7 : Int32)) % (7 : Int32))), (.int ((f0_e1 p2) % (((p2 &&& (7 : Int32)) % (7 : Int32)) + (1 : Int32)))), (.long q0), (.int (6 : Int32))])) _
      refine XS.iload X36.here hx rfl (hb hby at_246) rfl ?_
      show Steps p.tables e below (T36.setTop (mkF m 248 #[.val (.long q0), .second, .val (.int p1), .val (.int p2), .val (.int ((p2 &&& (7 : Int32)) % (7 : Int32))), .val (.int ((f0_e1 p2) % (((p2 &&& (7 : Int32)) % (7 : Int32)) + (1 : Int32)))), .val (.int (f0_s0_36001 p2)), .val (.ref b4), .val (.ref b11), .val (.long (f8 (f0_e30 q0 p1 p2) (f0_e31 q0 p1 p2))), .second, .val (.long (f0_e15 q0 p1 p2)), .second, .val (.long (f0_e18 q0 p1 p2)), .second, .val (.long (f0_e21 q0 p1 p2)), .second, .unset, .unset, .unset, .unset, .unset, .unset] [(.int (f0_s0_36001 p2)), (.int ((p2 &&& (7 : Int32)) % (7 : Int32))), (.int ((f0_e1 p2) % (((p2 &&& (7 : Int32)) % (7 : Int32)) + (1 : Int32)))), (.long q0), (.int (6 : Int32))])) _
      refine XS.iloadN X36.here hx rfl (hb hby at_248) rfl ?_
      show Steps p.tables e below (T36.setTop (mkF m 249 #[.val (.long q0), .second, .val (.int p1), .val (.int p2), .val (.int ((p2 &&& (7 : Int32)) % (7 : Int32))), .val (.int ((f0_e1 p2) % (((p2 &&& (7 : Int32)) % (7 : Int32)) + (1 : Int32)))), .val (.int (f0_s0_36001 p2)), .val (.ref b4), .val (.ref b11), .val (.long (f8 (f0_e30 q0 p1 p2) (f0_e31 q0 p1 p2))), .second, .val (.long (f0_e15 q0 p1 p2)), .second, .val (.long (f0_e18 q0 p1 p2)), .second, .val (.long (f0_e21 q0 p1 p2)), .second, .unset, .unset, .unset, .unset, .unset, .unset] [(.int p1), (.int (f0_s0_36001 p2)), (.int ((p2 &&& (7 : Int32)) % (7 : Int32))), (.int ((f0_e1 p2) % (((p2 &&& (7 : Int32)) % (7 : Int32)) + (1 : Int32)))), (.long q0), (.int (6 : Int32))])) _
      refine st37 _ ?_
      show Steps p.tables e below (T37.setTop (mkF m 252 #[.val (.long q0), .second, .val (.int p1), .val (.int p2), .val (.int ((p2 &&& (7 : Int32)) % (7 : Int32))), .val (.int ((f0_e1 p2) % (((p2 &&& (7 : Int32)) % (7 : Int32)) + (1 : Int32)))), .val (.int (f0_s0_36001 p2)), .val (.ref b4), .val (.ref b11), .val (.long (f8 (f0_e30 q0 p1 p2) (f0_e31 q0 p1 p2))), .second, .val (.long (f0_e15 q0 p1 p2)), .second, .val (.long (f0_e18 q0 p1 p2)), .second, .val (.long (f0_e21 q0 p1 p2)), .second, .unset, .unset, .unset, .unset, .unset, .unset] [(.int (f0_e22 q0 p1 p2))])) _
      refine XS.bipush X37.here hx rfl (hb hby at_252) ?_
      show Steps p.tables e below (T37.setTop (mkF m 254 #[.val (.long q0), .second, .val (.int p1), .val (.int p2), .val (.int ((p2 &&& (7 : Int32)) % (7 : Int32))), .val (.int ((f0_e1 p2) % (((p2 &&& (7 : Int32)) % (7 : Int32)) + (1 : Int32)))), .val (.int (f0_s0_36001 p2)), .val (.ref b4), .val (.ref b11), .val (.long (f8 (f0_e30 q0 p1 p2) (f0_e31 q0 p1 p2))), .second, .val (.long (f0_e15 q0 p1 p2)), .second, .val (.long (f0_e18 q0 p1 p2)), .second, .val (.long (f0_e21 q0 p1 p2)), .second, .unset, .unset, .unset, .unset, .unset, .unset] [(.int (8 : Int32)), (.int (f0_e22 q0 p1 p2))])) _
      refine XS.ishl X37.here hx rfl (hb hby at_254) rfl ?_
      show Steps p.tables e below (T37.setTop (mkF m 255 #[.val (.long q0), .second, .val (.int p1), .val (.int p2), .val (.int ((p2 &&& (7 : Int32)) % (7 : Int32))), .val (.int ((f0_e1 p2) % (((p2 &&& (7 : Int32)) % (7 : Int32)) + (1 : Int32)))), .val (.int (f0_s0_36001 p2)), .val (.ref b4), .val (.ref b11), .val (.long (f8 (f0_e30 q0 p1 p2) (f0_e31 q0 p1 p2))), .second, .val (.long (f0_e15 q0 p1 p2)), .second, .val (.long (f0_e18 q0 p1 p2)), .second, .val (.long (f0_e21 q0 p1 p2)), .second, .unset, .unset, .unset, .unset, .unset, .unset] [(.int ((f0_e22 q0 p1 p2) <<< ((8 : Int32) &&& 31)))])) _
      refine XS.bipush X37.here hx rfl (hb hby at_255) ?_
      show Steps p.tables e below (T37.setTop (mkF m 257 #[.val (.long q0), .second, .val (.int p1), .val (.int p2), .val (.int ((p2 &&& (7 : Int32)) % (7 : Int32))), .val (.int ((f0_e1 p2) % (((p2 &&& (7 : Int32)) % (7 : Int32)) + (1 : Int32)))), .val (.int (f0_s0_36001 p2)), .val (.ref b4), .val (.ref b11), .val (.long (f8 (f0_e30 q0 p1 p2) (f0_e31 q0 p1 p2))), .second, .val (.long (f0_e15 q0 p1 p2)), .second, .val (.long (f0_e18 q0 p1 p2)), .second, .val (.long (f0_e21 q0 p1 p2)), .second, .unset, .unset, .unset, .unset, .unset, .unset] [(.int (7 : Int32)), (.int ((f0_e22 q0 p1 p2) <<< ((8 : Int32) &&& 31)))])) _
      refine XS.lloadN X37.here hx rfl (hb hby at_257) rfl ?_
      show Steps p.tables e below (T37.setTop (mkF m 258 #[.val (.long q0), .second, .val (.int p1), .val (.int p2), .val (.int ((p2 &&& (7 : Int32)) % (7 : Int32))), .val (.int ((f0_e1 p2) % (((p2 &&& (7 : Int32)) % (7 : Int32)) + (1 : Int32)))), .val (.int (f0_s0_36001 p2)), .val (.ref b4), .val (.ref b11), .val (.long (f8 (f0_e30 q0 p1 p2) (f0_e31 q0 p1 p2))), .second, .val (.long (f0_e15 q0 p1 p2)), .second, .val (.long (f0_e18 q0 p1 p2)), .second, .val (.long (f0_e21 q0 p1 p2)), .second, .unset, .unset, .unset, .unset, .unset, .unset] [(.long q0), (.int (7 : Int32)), (.int ((f0_e22 q0 p1 p2) <<< ((8 : Int32) &&& 31)))])) _
      refine XS.iload X37.here hx rfl (hb hby at_258) rfl ?_
      show Steps p.tables e below (T37.setTop (mkF m 260 #[.val (.long q0), .second, .val (.int p1), .val (.int p2), .val (.int ((p2 &&& (7 : Int32)) % (7 : Int32))), .val (.int ((f0_e1 p2) % (((p2 &&& (7 : Int32)) % (7 : Int32)) + (1 : Int32)))), .val (.int (f0_s0_36001 p2)), .val (.ref b4), .val (.ref b11), .val (.long (f8 (f0_e30 q0 p1 p2) (f0_e31 q0 p1 p2))), .second, .val (.long (f0_e15 q0 p1 p2)), .second, .val (.long (f0_e18 q0 p1 p2)), .second, .val (.long (f0_e21 q0 p1 p2)), .second, .unset, .unset, .unset, .unset, .unset, .unset] [(.int ((f0_e1 p2) % (((p2 &&& (7 : Int32)) % (7 : Int32)) + (1 : Int32)))), (.long q0), (.int (7 : Int32)), (.int ((f0_e22 q0 p1 p2) <<< ((8 : Int32) &&& 31)))])) _
      refine XS.iload X37.here hx rfl (hb hby at_260) rfl ?_
      show Steps p.tables e below (T37.setTop (mkF m 262 #[.val (.long q0), .second, .val (.int p1), .val (.int p2), .val (.int ((p2 &&& (7 : Int32)) % (7 : Int32))), .val (.int ((f0_e1 p2) % (((p2 &&& (7 : Int32)) % (7 : Int32)) + (1 : Int32)))), .val (.int (f0_s0_36001 p2)), .val (.ref b4), .val (.ref b11), .val (.long (f8 (f0_e30 q0 p1 p2) (f0_e31 q0 p1 p2))), .second, .val (.long (f0_e15 q0 p1 p2)), .second, .val (.long (f0_e18 q0 p1 p2)), .second, .val (.long (f0_e21 q0 p1 p2)), .second, .unset, .unset, .unset, .unset, .unset, .unset] [(.int ((p2 &&& (7 : Int32)) % (7 : Int32))), (.int ((f0_e1 p2) % (((p2 &&& (7 : Int32)) % (7 : Int32)) + (1 : Int32)))), (.long q0), (.int (7 : Int32)), (.int ((f0_e22 q0 p1 p2) <<< ((8 : Int32) &&& 31)))])) _
      refine XS.iload X37.here hx rfl (hb hby at_262) rfl ?_
      show Steps p.tables e below (T37.setTop (mkF m 264 #[.val (.long q0), .second, .val (.int p1), .val (.int p2), .val (.int ((p2 &&& (7 : Int32)) % (7 : Int32))), .val (.int ((f0_e1 p2) % (((p2 &&& (7 : Int32)) % (7 : Int32)) + (1 : Int32)))), .val (.int (f0_s0_36001 p2)), .val (.ref b4), .val (.ref b11), .val (.long (f8 (f0_e30 q0 p1 p2) (f0_e31 q0 p1 p2))), .second, .val (.long (f0_e15 q0 p1 p2)), .second, .val (.long (f0_e18 q0 p1 p2)), .second, .val (.long (f0_e21 q0 p1 p2)), .second, .unset, .unset, .unset, .unset, .unset, .unset] [(.int (f0_s0_36001 p2)), (.int ((p2 &&& (7 : Int32)) % (7 : Int32))), (.int ((f0_e1 p2) % (((p2 &&& (7 : Int32)) % (7 : Int32)) + (1 : Int32)))), (.long q0), (.int (7 : Int32)), (.int ((f0_e22 q0 p1 p2) <<< ((8 : Int32) &&& 31)))])) _
      refine XS.iloadN X37.here hx rfl (hb hby at_264) rfl ?_
      show Steps p.tables e below (T37.setTop (mkF m 265 #[.val (.long q0), .second, .val (.int p1), .val (.int p2), .val (.int ((p2 &&& (7 : Int32)) % (7 : Int32))), .val (.int ((f0_e1 p2) % (((p2 &&& (7 : Int32)) % (7 : Int32)) + (1 : Int32)))), .val (.int (f0_s0_36001 p2)), .val (.ref b4), .val (.ref b11), .val (.long (f8 (f0_e30 q0 p1 p2) (f0_e31 q0 p1 p2))), .second, .val (.long (f0_e15 q0 p1 p2)), .second, .val (.long (f0_e18 q0 p1 p2)), .second, .val (.long (f0_e21 q0 p1 p2)), .second, .unset, .unset, .unset, .unset, .unset, .unset] [(.int p1), (.int (f0_s0_36001 p2)), (.int ((p2 &&& (7 : Int32)) % (7 : Int32))), (.int ((f0_e1 p2) % (((p2 &&& (7 : Int32)) % (7 : Int32)) + (1 : Int32)))), (.long q0), (.int (7 : Int32)), (.int ((f0_e22 q0 p1 p2) <<< ((8 : Int32) &&& 31)))])) _
      refine st38 _ ?_
      show Steps p.tables e below (T38.setTop (mkF m 268 #[.val (.long q0), .second, .val (.int p1), .val (.int p2), .val (.int ((p2 &&& (7 : Int32)) % (7 : Int32))), .val (.int ((f0_e1 p2) % (((p2 &&& (7 : Int32)) % (7 : Int32)) + (1 : Int32)))), .val (.int (f0_s0_36001 p2)), .val (.ref b4), .val (.ref b11), .val (.long (f8 (f0_e30 q0 p1 p2) (f0_e31 q0 p1 p2))), .second, .val (.long (f0_e15 q0 p1 p2)), .second, .val (.long (f0_e18 q0 p1 p2)), .second, .val (.long (f0_e21 q0 p1 p2)), .second, .unset, .unset, .unset, .unset, .unset, .unset] [(.int (f0_e23 q0 p1 p2)), (.int ((f0_e22 q0 p1 p2) <<< ((8 : Int32) &&& 31)))])) _
      refine XS.ior X38.here hx rfl (hb hby at_268) rfl ?_
      show Steps p.tables e below (T38.setTop (mkF m 269 #[.val (.long q0), .second, .val (.int p1), .val (.int p2), .val (.int ((p2 &&& (7 : Int32)) % (7 : Int32))), .val (.int ((f0_e1 p2) % (((p2 &&& (7 : Int32)) % (7 : Int32)) + (1 : Int32)))), .val (.int (f0_s0_36001 p2)), .val (.ref b4), .val (.ref b11), .val (.long (f8 (f0_e30 q0 p1 p2) (f0_e31 q0 p1 p2))), .second, .val (.long (f0_e15 q0 p1 p2)), .second, .val (.long (f0_e18 q0 p1 p2)), .second, .val (.long (f0_e21 q0 p1 p2)), .second, .unset, .unset, .unset, .unset, .unset, .unset] [(.int (((f0_e22 q0 p1 p2) <<< ((8 : Int32) &&& 31)) ||| (f0_e23 q0 p1 p2)))])) _
      refine XS.i2l X38.here hx rfl (hb hby at_269) rfl ?_
      show Steps p.tables e below (T38.setTop (mkF m 270 #[.val (.long q0), .second, .val (.int p1), .val (.int p2), .val (.int ((p2 &&& (7 : Int32)) % (7 : Int32))), .val (.int ((f0_e1 p2) % (((p2 &&& (7 : Int32)) % (7 : Int32)) + (1 : Int32)))), .val (.int (f0_s0_36001 p2)), .val (.ref b4), .val (.ref b11), .val (.long (f8 (f0_e30 q0 p1 p2) (f0_e31 q0 p1 p2))), .second, .val (.long (f0_e15 q0 p1 p2)), .second, .val (.long (f0_e18 q0 p1 p2)), .second, .val (.long (f0_e21 q0 p1 p2)), .second, .unset, .unset, .unset, .unset, .unset, .unset] [(.long (f0_e24 q0 p1 p2))])) _
      refine XS.lstore X38.here hx rfl (hb hby at_270) rfl (l' := #[.val (.long q0), .second, .val (.int p1), .val (.int p2), .val (.int ((p2 &&& (7 : Int32)) % (7 : Int32))), .val (.int ((f0_e1 p2) % (((p2 &&& (7 : Int32)) % (7 : Int32)) + (1 : Int32)))), .val (.int (f0_s0_36001 p2)), .val (.ref b4), .val (.ref b11), .val (.long (f8 (f0_e30 q0 p1 p2) (f0_e31 q0 p1 p2))), .second, .val (.long (f0_e15 q0 p1 p2)), .second, .val (.long (f0_e18 q0 p1 p2)), .second, .val (.long (f0_e21 q0 p1 p2)), .second, .val (.long (f0_e24 q0 p1 p2)), .second, .unset, .unset, .unset, .unset]) rfl ?_
      show Steps p.tables e below (T38.setTop (mkF m 272 #[.val (.long q0), .second, .val (.int p1), .val (.int p2), .val (.int ((p2 &&& (7 : Int32)) % (7 : Int32))), .val (.int ((f0_e1 p2) % (((p2 &&& (7 : Int32)) % (7 : Int32)) + (1 : Int32)))), .val (.int (f0_s0_36001 p2)), .val (.ref b4), .val (.ref b11), .val (.long (f8 (f0_e30 q0 p1 p2) (f0_e31 q0 p1 p2))), .second, .val (.long (f0_e15 q0 p1 p2)), .second, .val (.long (f0_e18 q0 p1 p2)), .second, .val (.long (f0_e21 q0 p1 p2)), .second, .val (.long (f0_e24 q0 p1 p2)), .second, .unset, .unset, .unset, .unset] [])) _
      refine XS.lload X38.here hx rfl (hb hby at_272) rfl ?_
      show Steps p.tables e below (T38.setTop (mkF m 274 #[.val (.long q0), .second, .val (.int p1), .val (.int p2), .val (.int ((p2 &&& (7 : Int32)) % (7 : Int32))), .val (.int ((f0_e1 p2) % (((p2 &&& (7 : Int32)) % (7 : Int32)) + (1 : Int32)))), .val (.int (f0_s0_36001 p2)), .val (.ref b4), .val (.ref b11), .val (.long (f8 (f0_e30 q0 p1 p2) (f0_e31 q0 p1 p2))), .second, .val (.long (f0_e15 q0 p1 p2)), .second, .val (.long (f0_e18 q0 p1 p2)), .second, .val (.long (f0_e21 q0 p1 p2)), .second, .val (.long (f0_e24 q0 p1 p2)), .second, .unset, .unset, .unset, .unset] [(.long (f0_e15 q0 p1 p2))])) _
      refine XS.lload X38.here hx rfl (hb hby at_274) rfl ?_
      show Steps p.tables e below (T38.setTop (mkF m 276 #[.val (.long q0), .second, .val (.int p1), .val (.int p2), .val (.int ((p2 &&& (7 : Int32)) % (7 : Int32))), .val (.int ((f0_e1 p2) % (((p2 &&& (7 : Int32)) % (7 : Int32)) + (1 : Int32)))), .val (.int (f0_s0_36001 p2)), .val (.ref b4), .val (.ref b11), .val (.long (f8 (f0_e30 q0 p1 p2) (f0_e31 q0 p1 p2))), .second, .val (.long (f0_e15 q0 p1 p2)), .second, .val (.long (f0_e18 q0 p1 p2)), .second, .val (.long (f0_e21 q0 p1 p2)), .second, .val (.long (f0_e24 q0 p1 p2)), .second, .unset, .unset, .unset, .unset] [(.long (f0_e18 q0 p1 p2)), (.long (f0_e15 q0 p1 p2))])) _
      refine XS.ladd X38.here hx rfl (hb hby at_276) rfl ?_
      show Steps p.tables e below (T38.setTop (mkF m 277 #[.val (.long q0), .second, .val (.int p1), .val (.int p2), .val (.int ((p2 &&& (7 : Int32)) % (7 : Int32))), .val (.int ((f0_e1 p2) % (((p2 &&& (7 : Int32)) % (7 : Int32)) + (1 : Int32)))), .val (.int (f0_s0_36001 p2)), .val (.ref b4), .val (.ref b11), .val (.long (f8 (f0_e30 q0 p1 p2) (f0_e31 q0 p1 p2))), .second, .val (.long (f0_e15 q0 p1 p2)), .second, .val (.long (f0_e18 q0 p1 p2)), .second, .val (.long (f0_e21 q0 p1 p2)), .second, .val (.long (f0_e24 q0 p1 p2)), .second, .unset, .unset, .unset, .unset] [(.long ((f0_e15 q0 p1 p2) + (f0_e18 q0 p1 p2)))])) _
      refine XS.lload X38.here hx rfl (hb hby at_277) rfl ?_
      show Steps p.tables e below (T38.setTop (mkF m 279 #[.val (.long q0), .second, .val (.int p1), .val (.int p2), .val (.int ((p2 &&& (7 : Int32)) % (7 : Int32))), .val (.int ((f0_e1 p2) % (((p2 &&& (7 : Int32)) % (7 : Int32)) + (1 : Int32)))), .val (.int (f0_s0_36001 p2)), .val (.ref b4), .val (.ref b11), .val (.long (f8 (f0_e30 q0 p1 p2) (f0_e31 q0 p1 p2))), .second, .val (.long (f0_e15 q0 p1 p2)), .second, .val (.long (f0_e18 q0 p1 p2)), .second, .val (.long (f0_e21 q0 p1 p2)), .second, .val (.long (f0_e24 q0 p1 p2)), .second, .unset, .unset, .unset, .unset] [(.long (f0_e21 q0 p1 p2)), (.long ((f0_e15 q0 p1 p2) + (f0_e18 q0 p1 p2)))])) _
      refine XS.ladd X38.here hx rfl (hb hby at_279) rfl ?_
      show Steps p.tables e below (T38.setTop (mkF m 280 #[.val (.long q0), .second, .val (.int p1), .val (.int p2), .val (.int ((p2 &&& (7 : Int32)) % (7 : Int32))), .val (.int ((f0_e1 p2) % (((p2 &&& (7 : Int32)) % (7 : Int32)) + (1 : Int32)))), .val (.int (f0_s0_36001 p2)), .val (.ref b4), .val (.ref b11), .val (.long (f8 (f0_e30 q0 p1 p2) (f0_e31 q0 p1 p2))), .second, .val (.long (f0_e15 q0 p1 p2)), .second, .val (.long (f0_e18 q0 p1 p2)), .second, .val (.long (f0_e21 q0 p1 p2)), .second, .val (.long (f0_e24 q0 p1 p2)), .second, .unset, .unset, .unset, .unset] [(.long (((f0_e15 q0 p1 p2) + (f0_e18 q0 p1 p2)) + (f0_e21 q0 p1 p2)))])) _
      refine XS.lload X38.here hx rfl (hb hby at_280) rfl ?_
      show Steps p.tables e below (T38.setTop (mkF m 282 #[.val (.long q0), .second, .val (.int p1), .val (.int p2), .val (.int ((p2 &&& (7 : Int32)) % (7 : Int32))), .val (.int ((f0_e1 p2) % (((p2 &&& (7 : Int32)) % (7 : Int32)) + (1 : Int32)))), .val (.int (f0_s0_36001 p2)), .val (.ref b4), .val (.ref b11), .val (.long (f8 (f0_e30 q0 p1 p2) (f0_e31 q0 p1 p2))), .second, .val (.long (f0_e15 q0 p1 p2)), .second, .val (.long (f0_e18 q0 p1 p2)), .second, .val (.long (f0_e21 q0 p1 p2)), .second, .val (.long (f0_e24 q0 p1 p2)), .second, .unset, .unset, .unset, .unset] [(.long (f0_e24 q0 p1 p2)), (.long (((f0_e15 q0 p1 p2) + (f0_e18 q0 p1 p2)) + (f0_e21 q0 p1 p2)))])) _
      refine XS.ladd X38.here hx rfl (hb hby at_282) rfl ?_
      show Steps p.tables e below (T38.setTop (mkF m 283 #[.val (.long q0), .second, .val (.int p1), .val (.int p2), .val (.int ((p2 &&& (7 : Int32)) % (7 : Int32))), .val (.int ((f0_e1 p2) % (((p2 &&& (7 : Int32)) % (7 : Int32)) + (1 : Int32)))), .val (.int (f0_s0_36001 p2)), .val (.ref b4), .val (.ref b11), .val (.long (f8 (f0_e30 q0 p1 p2) (f0_e31 q0 p1 p2))), .second, .val (.long (f0_e15 q0 p1 p2)), .second, .val (.long (f0_e18 q0 p1 p2)), .second, .val (.long (f0_e21 q0 p1 p2)), .second, .val (.long (f0_e24 q0 p1 p2)), .second, .unset, .unset, .unset, .unset] [(.long (f0_e25 q0 p1 p2))])) _
      refine XS.lstore X38.here hx rfl (hb hby at_283) rfl (l' := #[.val (.long q0), .second, .val (.int p1), .val (.int p2), .val (.int ((p2 &&& (7 : Int32)) % (7 : Int32))), .val (.int ((f0_e1 p2) % (((p2 &&& (7 : Int32)) % (7 : Int32)) + (1 : Int32)))), .val (.int (f0_s0_36001 p2)), .val (.ref b4), .val (.ref b11), .val (.long (f8 (f0_e30 q0 p1 p2) (f0_e31 q0 p1 p2))), .second, .val (.long (f0_e15 q0 p1 p2)), .second, .val (.long (f0_e18 q0 p1 p2)), .second, .val (.long (f0_e21 q0 p1 p2)), .second, .val (.long (f0_e24 q0 p1 p2)), .second, .val (.long (f0_e25 q0 p1 p2)), .second, .unset, .unset]) rfl ?_
      show Steps p.tables e below (T38.setTop (mkF m 285 #[.val (.long q0), .second, .val (.int p1), .val (.int p2), .val (.int ((p2 &&& (7 : Int32)) % (7 : Int32))), .val (.int ((f0_e1 p2) % (((p2 &&& (7 : Int32)) % (7 : Int32)) + (1 : Int32)))), .val (.int (f0_s0_36001 p2)), .val (.ref b4), .val (.ref b11), .val (.long (f8 (f0_e30 q0 p1 p2) (f0_e31 q0 p1 p2))), .second, .val (.long (f0_e15 q0 p1 p2)), .second, .val (.long (f0_e18 q0 p1 p2)), .second, .val (.long (f0_e21 q0 p1 p2)), .second, .val (.long (f0_e24 q0 p1 p2)), .second, .val (.long (f0_e25 q0 p1 p2)), .second, .unset, .unset] [])) _
      refine XS.lload X38.here hx rfl (hb hby at_285) rfl ?_
      show Steps p.tables e below (T38.setTop (mkF m 287 #[.val (.long q0), .second, .val (.int p1), .val (.int p2), .val (.int ((p2 &&& (7 : Int32)) % (7 : Int32))), .val (.int ((f0_e1 p2) % (((p2 &&& (7 : Int32)) % (7 : Int32)) + (1 : Int32)))), .val (.int (f0_s0_36001 p2)), .val (.ref b4), .val (.ref b11), .val (.long (f8 (f0_e30 q0 p1 p2) (f0_e31 q0 p1 p2))), .second, .val (.long (f0_e15 q0 p1 p2)), .second, .val (.long (f0_e18 q0 p1 p2)), .second, .val (.long (f0_e21 q0 p1 p2)), .second, .val (.long (f0_e24 q0 p1 p2)), .second, .val (.long (f0_e25 q0 p1 p2)), .second, .unset, .unset] [(.long (f0_e25 q0 p1 p2))])) _
      refine X38.ldc2Long hx hown (mvT hZ (hw _ (List.mem_of_getElem? (i := 50) rfl))) (g := (mkF m 287 #[.val (.long q0), .second, .val (.int p1), .val (.int p2), .val (.int ((p2 &&& (7 : Int32)) % (7 : Int32))), .val (.int ((f0_e1 p2) % (((p2 &&& (7 : Int32)) % (7 : Int32)) + (1 : Int32)))), .val (.int (f0_s0_36001 p2)), .val (.ref b4), .val (.ref b11), .val (.long (f8 (f0_e30 q0 p1 p2) (f0_e31 q0 p1 p2))), .second, .val (.long (f0_e15 q0 p1 p2)), .second, .val (.long (f0_e18 q0 p1 p2)), .second, .val (.long (f0_e21 q0 p1 p2)), .second, .val (.long (f0_e24 q0 p1 p2)), .second, .val (.long (f0_e25 q0 p1 p2)), .second, .unset, .unset] [(.long (f0_e25 q0 p1 p2))])) rfl (hb hby at_287) _ ?_
      show Steps p.tables e below (T38.setTop (mkF m 290 #[.val (.long q0), .second, .val (.int p1), .val (.int p2), .val (.int ((p2 &&& (7 : Int32)) % (7 : Int32))), .val (.int ((f0_e1 p2) % (((p2 &&& (7 : Int32)) % (7 : Int32)) + (1 : Int32)))), .val (.int (f0_s0_36001 p2)), .val (.ref b4), .val (.ref b11), .val (.long (f8 (f0_e30 q0 p1 p2) (f0_e31 q0 p1 p2))), .second, .val (.long (f0_e15 q0 p1 p2)), .second, .val (.long (f0_e18 q0 p1 p2)), .second, .val (.long (f0_e21 q0 p1 p2)), .second, .val (.long (f0_e24 q0 p1 p2)), .second, .val (.long (f0_e25 q0 p1 p2)), .second, .unset, .unset] [(.long (65535 : Int64)), (.long (f0_e25 q0 p1 p2))])) _
      refine XS.land X38.here hx rfl (hb hby at_290) rfl ?_
      show Steps p.tables e below (T38.setTop (mkF m 291 #[.val (.long q0), .second, .val (.int p1), .val (.int p2), .val (.int ((p2 &&& (7 : Int32)) % (7 : Int32))), .val (.int ((f0_e1 p2) % (((p2 &&& (7 : Int32)) % (7 : Int32)) + (1 : Int32)))), .val (.int (f0_s0_36001 p2)), .val (.ref b4), .val (.ref b11), .val (.long (f8 (f0_e30 q0 p1 p2) (f0_e31 q0 p1 p2))), .second, .val (.long (f0_e15 q0 p1 p2)), .second, .val (.long (f0_e18 q0 p1 p2)), .second, .val (.long (f0_e21 q0 p1 p2)), .second, .val (.long (f0_e24 q0 p1 p2)), .second, .val (.long (f0_e25 q0 p1 p2)), .second, .unset, .unset] [(.long ((f0_e25 q0 p1 p2) &&& (65535 : Int64)))])) _
      refine XS.lload X38.here hx rfl (hb hby at_291) rfl ?_
      show Steps p.tables e below (T38.setTop (mkF m 293 #[.val (.long q0), .second, .val (.int p1), .val (.int p2), .val (.int ((p2 &&& (7 : Int32)) % (7 : Int32))), .val (.int ((f0_e1 p2) % (((p2 &&& (7 : Int32)) % (7 : Int32)) + (1 : Int32)))), .val (.int (f0_s0_36001 p2)), .val (.ref b4), .val (.ref b11), .val (.long (f8 (f0_e30 q0 p1 p2) (f0_e31 q0 p1 p2))), .second, .val (.long (f0_e15 q0 p1 p2)), .second, .val (.long (f0_e18 q0 p1 p2)), .second, .val (.long (f0_e21 q0 p1 p2)), .second, .val (.long (f0_e24 q0 p1 p2)), .second, .val (.long (f0_e25 q0 p1 p2)), .second, .unset, .unset] [(.long (f0_e25 q0 p1 p2)), (.long ((f0_e25 q0 p1 p2) &&& (65535 : Int64)))])) _
      refine XS.bipush X38.here hx rfl (hb hby at_293) ?_
      show Steps p.tables e below (T38.setTop (mkF m 295 #[.val (.long q0), .second, .val (.int p1), .val (.int p2), .val (.int ((p2 &&& (7 : Int32)) % (7 : Int32))), .val (.int ((f0_e1 p2) % (((p2 &&& (7 : Int32)) % (7 : Int32)) + (1 : Int32)))), .val (.int (f0_s0_36001 p2)), .val (.ref b4), .val (.ref b11), .val (.long (f8 (f0_e30 q0 p1 p2) (f0_e31 q0 p1 p2))), .second, .val (.long (f0_e15 q0 p1 p2)), .second, .val (.long (f0_e18 q0 p1 p2)), .second, .val (.long (f0_e21 q0 p1 p2)), .second, .val (.long (f0_e24 q0 p1 p2)), .second, .val (.long (f0_e25 q0 p1 p2)), .second, .unset, .unset] [(.int (16 : Int32)), (.long (f0_e25 q0 p1 p2)), (.long ((f0_e25 q0 p1 p2) &&& (65535 : Int64)))])) _
      refine XS.lushr X38.here hx rfl (hb hby at_295) rfl ?_
      show Steps p.tables e below (T38.setTop (mkF m 296 #[.val (.long q0), .second, .val (.int p1), .val (.int p2), .val (.int ((p2 &&& (7 : Int32)) % (7 : Int32))), .val (.int ((f0_e1 p2) % (((p2 &&& (7 : Int32)) % (7 : Int32)) + (1 : Int32)))), .val (.int (f0_s0_36001 p2)), .val (.ref b4), .val (.ref b11), .val (.long (f8 (f0_e30 q0 p1 p2) (f0_e31 q0 p1 p2))), .second, .val (.long (f0_e15 q0 p1 p2)), .second, .val (.long (f0_e18 q0 p1 p2)), .second, .val (.long (f0_e21 q0 p1 p2)), .second, .val (.long (f0_e24 q0 p1 p2)), .second, .val (.long (f0_e25 q0 p1 p2)), .second, .unset, .unset] [(.long (f0_e26 q0 p1 p2)), (.long ((f0_e25 q0 p1 p2) &&& (65535 : Int64)))])) _
      refine XS.ladd X38.here hx rfl (hb hby at_296) rfl ?_
      show Steps p.tables e below (T38.setTop (mkF m 297 #[.val (.long q0), .second, .val (.int p1), .val (.int p2), .val (.int ((p2 &&& (7 : Int32)) % (7 : Int32))), .val (.int ((f0_e1 p2) % (((p2 &&& (7 : Int32)) % (7 : Int32)) + (1 : Int32)))), .val (.int (f0_s0_36001 p2)), .val (.ref b4), .val (.ref b11), .val (.long (f8 (f0_e30 q0 p1 p2) (f0_e31 q0 p1 p2))), .second, .val (.long (f0_e15 q0 p1 p2)), .second, .val (.long (f0_e18 q0 p1 p2)), .second, .val (.long (f0_e21 q0 p1 p2)), .second, .val (.long (f0_e24 q0 p1 p2)), .second, .val (.long (f0_e25 q0 p1 p2)), .second, .unset, .unset] [(.long (((f0_e25 q0 p1 p2) &&& (65535 : Int64)) + (f0_e26 q0 p1 p2)))])) _
      refine XS.lstore X38.here hx rfl (hb hby at_297) rfl (l' := #[.val (.long q0), .second, .val (.int p1), .val (.int p2), .val (.int ((p2 &&& (7 : Int32)) % (7 : Int32))), .val (.int ((f0_e1 p2) % (((p2 &&& (7 : Int32)) % (7 : Int32)) + (1 : Int32)))), .val (.int (f0_s0_36001 p2)), .val (.ref b4), .val (.ref b11), .val (.long (f8 (f0_e30 q0 p1 p2) (f0_e31 q0 p1 p2))), .second, .val (.long (f0_e15 q0 p1 p2)), .second, .val (.long (f0_e18 q0 p1 p2)), .second, .val (.long (f0_e21 q0 p1 p2)), .second, .val (.long (f0_e24 q0 p1 p2)), .second, .val (.long (((f0_e25 q0 p1 p2) &&& (65535 : Int64)) + (f0_e26 q0 p1 p2))), .second, .unset, .unset]) rfl ?_
      show Steps p.tables e below (T38.setTop (mkF m 299 #[.val (.long q0), .second, .val (.int p1), .val (.int p2), .val (.int ((p2 &&& (7 : Int32)) % (7 : Int32))), .val (.int ((f0_e1 p2) % (((p2 &&& (7 : Int32)) % (7 : Int32)) + (1 : Int32)))), .val (.int (f0_s0_36001 p2)), .val (.ref b4), .val (.ref b11), .val (.long (f8 (f0_e30 q0 p1 p2) (f0_e31 q0 p1 p2))), .second, .val (.long (f0_e15 q0 p1 p2)), .second, .val (.long (f0_e18 q0 p1 p2)), .second, .val (.long (f0_e21 q0 p1 p2)), .second, .val (.long (f0_e24 q0 p1 p2)), .second, .val (.long (((f0_e25 q0 p1 p2) &&& (65535 : Int64)) + (f0_e26 q0 p1 p2))), .second, .unset, .unset] [])) _
      refine XS.lload X38.here hx rfl (hb hby at_299) rfl ?_
      show Steps p.tables e below (T38.setTop (mkF m 301 #[.val (.long q0), .second, .val (.int p1), .val (.int p2), .val (.int ((p2 &&& (7 : Int32)) % (7 : Int32))), .val (.int ((f0_e1 p2) % (((p2 &&& (7 : Int32)) % (7 : Int32)) + (1 : Int32)))), .val (.int (f0_s0_36001 p2)), .val (.ref b4), .val (.ref b11), .val (.long (f8 (f0_e30 q0 p1 p2) (f0_e31 q0 p1 p2))), .second, .val (.long (f0_e15 q0 p1 p2)), .second, .val (.long (f0_e18 q0 p1 p2)), .second, .val (.long (f0_e21 q0 p1 p2)), .second, .val (.long (f0_e24 q0 p1 p2)), .second, .val (.long (((f0_e25 q0 p1 p2) &&& (65535 : Int64)) + (f0_e26 q0 p1 p2))), .second, .unset, .unset] [(.long (((f0_e25 q0 p1 p2) &&& (65535 : Int64)) + (f0_e26 q0 p1 p2)))])) _
      refine X38.ldc2Long hx hown (mvT hZ (hw _ (List.mem_of_getElem? (i := 50) rfl))) (g := (mkF m 301 #[.val (.long q0), .second, .val (.int p1), .val (.int p2), .val (.int ((p2 &&& (7 : Int32)) % (7 : Int32))), .val (.int ((f0_e1 p2) % (((p2 &&& (7 : Int32)) % (7 : Int32)) + (1 : Int32)))), .val (.int (f0_s0_36001 p2)), .val (.ref b4), .val (.ref b11), .val (.long (f8 (f0_e30 q0 p1 p2) (f0_e31 q0 p1 p2))), .second, .val (.long (f0_e15 q0 p1 p2)), .second, .val (.long (f0_e18 q0 p1 p2)), .second, .val (.long (f0_e21 q0 p1 p2)), .second, .val (.long (f0_e24 q0 p1 p2)), .second, .val (.long (((f0_e25 q0 p1 p2) &&& (65535 : Int64)) + (f0_e26 q0 p1 p2))), .second, .unset, .unset] [(.long (((f0_e25 q0 p1 p2) &&& (65535 : Int64)) + (f0_e26 q0 p1 p2)))])) rfl (hb hby at_301) _ ?_
      show Steps p.tables e below (T38.setTop (mkF m 304 #[.val (.long q0), .second, .val (.int p1), .val (.int p2), .val (.int ((p2 &&& (7 : Int32)) % (7 : Int32))), .val (.int ((f0_e1 p2) % (((p2 &&& (7 : Int32)) % (7 : Int32)) + (1 : Int32)))), .val (.int (f0_s0_36001 p2)), .val (.ref b4), .val (.ref b11), .val (.long (f8 (f0_e30 q0 p1 p2) (f0_e31 q0 p1 p2))), .second, .val (.long (f0_e15 q0 p1 p2)), .second, .val (.long (f0_e18 q0 p1 p2)), .second, .val (.long (f0_e21 q0 p1 p2)), .second, .val (.long (f0_e24 q0 p1 p2)), .second, .val (.long (((f0_e25 q0 p1 p2) &&& (65535 : Int64)) + (f0_e26 q0 p1 p2))), .second, .unset, .unset] [(.long (65535 : Int64)), (.long (((f0_e25 q0 p1 p2) &&& (65535 : Int64)) + (f0_e26 q0 p1 p2)))])) _
      refine XS.land X38.here hx rfl (hb hby at_304) rfl ?_
      show Steps p.tables e below (T38.setTop (mkF m 305 #[.val (.long q0), .second, .val (.int p1), .val (.int p2), .val (.int ((p2 &&& (7 : Int32)) % (7 : Int32))), .val (.int ((f0_e1 p2) % (((p2 &&& (7 : Int32)) % (7 : Int32)) + (1 : Int32)))), .val (.int (f0_s0_36001 p2)), .val (.ref b4), .val (.ref b11), .val (.long (f8 (f0_e30 q0 p1 p2) (f0_e31 q0 p1 p2))), .second, .val (.long (f0_e15 q0 p1 p2)), .second, .val (.long (f0_e18 q0 p1 p2)), .second, .val (.long (f0_e21 q0 p1 p2)), .second, .val (.long (f0_e24 q0 p1 p2)), .second, .val (.long (((f0_e25 q0 p1 p2) &&& (65535 : Int64)) + (f0_e26 q0 p1 p2))), .second, .unset, .unset] [(.long (f0_e27 q0 p1 p2))])) _
      refine XS.lload X38.here hx rfl (hb hby at_305) rfl ?_
      show Steps p.tables e below (T38.setTop (mkF m 307 #[.val (.long q0), .second, .val (.int p1), .val (.int p2), .val (.int ((p2 &&& (7 : Int32)) % (7 : Int32))), .val (.int ((f0_e1 p2) % (((p2 &&& (7 : Int32)) % (7 : Int32)) + (1 : Int32)))), .val (.int (f0_s0_36001 p2)), .val (.ref b4), .val (.ref b11), .val (.long (f8 (f0_e30 q0 p1 p2) (f0_e31 q0 p1 p2))), .second, .val (.long (f0_e15 q0 p1 p2)), .second, .val (.long (f0_e18 q0 p1 p2)), .second, .val (.long (f0_e21 q0 p1 p2)), .second, .val (.long (f0_e24 q0 p1 p2)), .second, .val (.long (((f0_e25 q0 p1 p2) &&& (65535 : Int64)) + (f0_e26 q0 p1 p2))), .second, .unset, .unset] [(.long (((f0_e25 q0 p1 p2) &&& (65535 : Int64)) + (f0_e26 q0 p1 p2))), (.long (f0_e27 q0 p1 p2))])) _
      refine XS.bipush X38.here hx rfl (hb hby at_307) ?_
      show Steps p.tables e below (T38.setTop (mkF m 309 #[.val (.long q0), .second, .val (.int p1), .val (.int p2), .val (.int ((p2 &&& (7 : Int32)) % (7 : Int32))), .val (.int ((f0_e1 p2) % (((p2 &&& (7 : Int32)) % (7 : Int32)) + (1 : Int32)))), .val (.int (f0_s0_36001 p2)), .val (.ref b4), .val (.ref b11), .val (.long (f8 (f0_e30 q0 p1 p2) (f0_e31 q0 p1 p2))), .second, .val (.long (f0_e15 q0 p1 p2)), .second, .val (.long (f0_e18 q0 p1 p2)), .second, .val (.long (f0_e21 q0 p1 p2)), .second, .val (.long (f0_e24 q0 p1 p2)), .second, .val (.long (((f0_e25 q0 p1 p2) &&& (65535 : Int64)) + (f0_e26 q0 p1 p2))), .second, .unset, .unset] [(.int (16 : Int32)), (.long (((f0_e25 q0 p1 p2) &&& (65535 : Int64)) + (f0_e26 q0 p1 p2))), (.long (f0_e27 q0 p1 p2))])) _
      refine XS.lushr X38.here hx rfl (hb hby at_309) rfl ?_
      show Steps p.tables e below (T38.setTop (mkF m 310 #[.val (.long q0), .second, .val (.int p1), .val (.int p2), .val (.int ((p2 &&& (7 : Int32)) % (7 : Int32))), .val (.int ((f0_e1 p2) % (((p2 &&& (7 : Int32)) % (7 : Int32)) + (1 : Int32)))), .val (.int (f0_s0_36001 p2)), .val (.ref b4), .val (.ref b11), .val (.long (f8 (f0_e30 q0 p1 p2) (f0_e31 q0 p1 p2))), .second, .val (.long (f0_e15 q0 p1 p2)), .second, .val (.long (f0_e18 q0 p1 p2)), .second, .val (.long (f0_e21 q0 p1 p2)), .second, .val (.long (f0_e24 q0 p1 p2)), .second, .val (.long (((f0_e25 q0 p1 p2) &&& (65535 : Int64)) + (f0_e26 q0 p1 p2))), .second, .unset, .unset] [(.long (f0_e28 q0 p1 p2)), (.long (f0_e27 q0 p1 p2))])) _
      refine XS.ladd X38.here hx rfl (hb hby at_310) rfl ?_
      show Steps p.tables e below (T38.setTop (mkF m 311 #[.val (.long q0), .second, .val (.int p1), .val (.int p2), .val (.int ((p2 &&& (7 : Int32)) % (7 : Int32))), .val (.int ((f0_e1 p2) % (((p2 &&& (7 : Int32)) % (7 : Int32)) + (1 : Int32)))), .val (.int (f0_s0_36001 p2)), .val (.ref b4), .val (.ref b11), .val (.long (f8 (f0_e30 q0 p1 p2) (f0_e31 q0 p1 p2))), .second, .val (.long (f0_e15 q0 p1 p2)), .second, .val (.long (f0_e18 q0 p1 p2)), .second, .val (.long (f0_e21 q0 p1 p2)), .second, .val (.long (f0_e24 q0 p1 p2)), .second, .val (.long (((f0_e25 q0 p1 p2) &&& (65535 : Int64)) + (f0_e26 q0 p1 p2))), .second, .unset, .unset] [(.long ((f0_e27 q0 p1 p2) + (f0_e28 q0 p1 p2)))])) _
      refine XS.lstore X38.here hx rfl (hb hby at_311) rfl (l' := #[.val (.long q0), .second, .val (.int p1), .val (.int p2), .val (.int ((p2 &&& (7 : Int32)) % (7 : Int32))), .val (.int ((f0_e1 p2) % (((p2 &&& (7 : Int32)) % (7 : Int32)) + (1 : Int32)))), .val (.int (f0_s0_36001 p2)), .val (.ref b4), .val (.ref b11), .val (.long (f8 (f0_e30 q0 p1 p2) (f0_e31 q0 p1 p2))), .second, .val (.long (f0_e15 q0 p1 p2)), .second, .val (.long (f0_e18 q0 p1 p2)), .second, .val (.long (f0_e21 q0 p1 p2)), .second, .val (.long (f0_e24 q0 p1 p2)), .second, .val (.long ((f0_e27 q0 p1 p2) + (f0_e28 q0 p1 p2))), .second, .unset, .unset]) rfl ?_
      show Steps p.tables e below (T38.setTop (mkF m 313 #[.val (.long q0), .second, .val (.int p1), .val (.int p2), .val (.int ((p2 &&& (7 : Int32)) % (7 : Int32))), .val (.int ((f0_e1 p2) % (((p2 &&& (7 : Int32)) % (7 : Int32)) + (1 : Int32)))), .val (.int (f0_s0_36001 p2)), .val (.ref b4), .val (.ref b11), .val (.long (f8 (f0_e30 q0 p1 p2) (f0_e31 q0 p1 p2))), .second, .val (.long (f0_e15 q0 p1 p2)), .second, .val (.long (f0_e18 q0 p1 p2)), .second, .val (.long (f0_e21 q0 p1 p2)), .second, .val (.long (f0_e24 q0 p1 p2)), .second, .val (.long ((f0_e27 q0 p1 p2) + (f0_e28 q0 p1 p2))), .second, .unset, .unset] [])) _
      refine XS.lload X38.here hx rfl (hb hby at_313) rfl ?_
      show Steps p.tables e below (T38.setTop (mkF m 315 #[.val (.long q0), .second, .val (.int p1), .val (.int p2), .val (.int ((p2 &&& (7 : Int32)) % (7 : Int32))), .val (.int ((f0_e1 p2) % (((p2 &&& (7 : Int32)) % (7 : Int32)) + (1 : Int32)))), .val (.int (f0_s0_36001 p2)), .val (.ref b4), .val (.ref b11), .val (.long (f8 (f0_e30 q0 p1 p2) (f0_e31 q0 p1 p2))), .second, .val (.long (f0_e15 q0 p1 p2)), .second, .val (.long (f0_e18 q0 p1 p2)), .second, .val (.long (f0_e21 q0 p1 p2)), .second, .val (.long (f0_e24 q0 p1 p2)), .second, .val (.long ((f0_e27 q0 p1 p2) + (f0_e28 q0 p1 p2))), .second, .unset, .unset] [(.long ((f0_e27 q0 p1 p2) + (f0_e28 q0 p1 p2)))])) _
      refine X38.ldc2Long hx hown (mvT hZ (hw _ (List.mem_of_getElem? (i := 51) rfl))) (g := (mkF m 315 #[.val (.long q0), .second, .val (.int p1), .val (.int p2), .val (.int ((p2 &&& (7 : Int32)) % (7 : Int32))), .val (.int ((f0_e1 p2) % (((p2 &&& (7 : Int32)) % (7 : Int32)) + (1 : Int32)))), .val (.int (f0_s0_36001 p2)), .val (.ref b4), .val (.ref b11), .val (.long (f8 (f0_e30 q0 p1 p2) (f0_e31 q0 p1 p2))), .second, .val (.long (f0_e15 q0 p1 p2)), .second, .val (.long (f0_e18 q0 p1 p2)), .second, .val (.long (f0_e21 q0 p1 p2)), .second, .val (.long (f0_e24 q0 p1 p2)), .second, .val (.long ((f0_e27 q0 p1 p2) + (f0_e28 q0 p1 p2))), .second, .unset, .unset] [(.long ((f0_e27 q0 p1 p2) + (f0_e28 q0 p1 p2)))])) rfl (hb hby at_315) _ ?_
      show Steps p.tables e below (T38.setTop (mkF m 318 #[.val (.long q0), .second, .val (.int p1), .val (.int p2), .val (.int ((p2 &&& (7 : Int32)) % (7 : Int32))), .val (.int ((f0_e1 p2) % (((p2 &&& (7 : Int32)) % (7 : Int32)) + (1 : Int32)))), .val (.int (f0_s0_36001 p2)), .val (.ref b4), .val (.ref b11), .val (.long (f8 (f0_e30 q0 p1 p2) (f0_e31 q0 p1 p2))), .second, .val (.long (f0_e15 q0 p1 p2)), .second, .val (.long (f0_e18 q0 p1 p2)), .second, .val (.long (f0_e21 q0 p1 p2)), .second, .val (.long (f0_e24 q0 p1 p2)), .second, .val (.long ((f0_e27 q0 p1 p2) + (f0_e28 q0 p1 p2))), .second, .unset, .unset] [(.long (-1 : Int64)), (.long ((f0_e27 q0 p1 p2) + (f0_e28 q0 p1 p2)))])) _
      refine XS.lxor X38.here hx rfl (hb hby at_318) rfl ?_
      show Steps p.tables e below (T38.setTop (mkF m 319 #[.val (.long q0), .second, .val (.int p1), .val (.int p2), .val (.int ((p2 &&& (7 : Int32)) % (7 : Int32))), .val (.int ((f0_e1 p2) % (((p2 &&& (7 : Int32)) % (7 : Int32)) + (1 : Int32)))), .val (.int (f0_s0_36001 p2)), .val (.ref b4), .val (.ref b11), .val (.long (f8 (f0_e30 q0 p1 p2) (f0_e31 q0 p1 p2))), .second, .val (.long (f0_e15 q0 p1 p2)), .second, .val (.long (f0_e18 q0 p1 p2)), .second, .val (.long (f0_e21 q0 p1 p2)), .second, .val (.long (f0_e24 q0 p1 p2)), .second, .val (.long ((f0_e27 q0 p1 p2) + (f0_e28 q0 p1 p2))), .second, .unset, .unset] [(.long (((f0_e27 q0 p1 p2) + (f0_e28 q0 p1 p2)) ^^^ (-1 : Int64)))])) _
      refine X38.ldc2Long hx hown (mvT hZ (hw _ (List.mem_of_getElem? (i := 50) rfl))) (g := (mkF m 319 #[.val (.long q0), .second, .val (.int p1), .val (.int p2), .val (.int ((p2 &&& (7 : Int32)) % (7 : Int32))), .val (.int ((f0_e1 p2) % (((p2 &&& (7 : Int32)) % (7 : Int32)) + (1 : Int32)))), .val (.int (f0_s0_36001 p2)), .val (.ref b4), .val (.ref b11), .val (.long (f8 (f0_e30 q0 p1 p2) (f0_e31 q0 p1 p2))), .second, .val (.long (f0_e15 q0 p1 p2)), .second, .val (.long (f0_e18 q0 p1 p2)), .second, .val (.long (f0_e21 q0 p1 p2)), .second, .val (.long (f0_e24 q0 p1 p2)), .second, .val (.long ((f0_e27 q0 p1 p2) + (f0_e28 q0 p1 p2))), .second, .unset, .unset] [(.long (((f0_e27 q0 p1 p2) + (f0_e28 q0 p1 p2)) ^^^ (-1 : Int64)))])) rfl (hb hby at_319) _ ?_
      show Steps p.tables e below (T38.setTop (mkF m 322 #[.val (.long q0), .second, .val (.int p1), .val (.int p2), .val (.int ((p2 &&& (7 : Int32)) % (7 : Int32))), .val (.int ((f0_e1 p2) % (((p2 &&& (7 : Int32)) % (7 : Int32)) + (1 : Int32)))), .val (.int (f0_s0_36001 p2)), .val (.ref b4), .val (.ref b11), .val (.long (f8 (f0_e30 q0 p1 p2) (f0_e31 q0 p1 p2))), .second, .val (.long (f0_e15 q0 p1 p2)), .second, .val (.long (f0_e18 q0 p1 p2)), .second, .val (.long (f0_e21 q0 p1 p2)), .second, .val (.long (f0_e24 q0 p1 p2)), .second, .val (.long ((f0_e27 q0 p1 p2) + (f0_e28 q0 p1 p2))), .second, .unset, .unset] [(.long (65535 : Int64)), (.long (((f0_e27 q0 p1 p2) + (f0_e28 q0 p1 p2)) ^^^ (-1 : Int64)))])) _
      refine XS.land X38.here hx rfl (hb hby at_322) rfl ?_
      show Steps p.tables e below (T38.setTop (mkF m 323 #[.val (.long q0), .second, .val (.int p1), .val (.int p2), .val (.int ((p2 &&& (7 : Int32)) % (7 : Int32))), .val (.int ((f0_e1 p2) % (((p2 &&& (7 : Int32)) % (7 : Int32)) + (1 : Int32)))), .val (.int (f0_s0_36001 p2)), .val (.ref b4), .val (.ref b11), .val (.long (f8 (f0_e30 q0 p1 p2) (f0_e31 q0 p1 p2))), .second, .val (.long (f0_e15 q0 p1 p2)), .second, .val (.long (f0_e18 q0 p1 p2)), .second, .val (.long (f0_e21 q0 p1 p2)), .second, .val (.long (f0_e24 q0 p1 p2)), .second, .val (.long ((f0_e27 q0 p1 p2) + (f0_e28 q0 p1 p2))), .second, .unset, .unset] [(.long (f0_e29 q0 p1 p2))])) _
      refine XS.lstore X38.here hx rfl (hb hby at_323) rfl (l' := #[.val (.long q0), .second, .val (.int p1), .val (.int p2), .val (.int ((p2 &&& (7 : Int32)) % (7 : Int32))), .val (.int ((f0_e1 p2) % (((p2 &&& (7 : Int32)) % (7 : Int32)) + (1 : Int32)))), .val (.int (f0_s0_36001 p2)), .val (.ref b4), .val (.ref b11), .val (.long (f8 (f0_e30 q0 p1 p2) (f0_e31 q0 p1 p2))), .second, .val (.long (f0_e15 q0 p1 p2)), .second, .val (.long (f0_e18 q0 p1 p2)), .second, .val (.long (f0_e21 q0 p1 p2)), .second, .val (.long (f0_e24 q0 p1 p2)), .second, .val (.long ((f0_e27 q0 p1 p2) + (f0_e28 q0 p1 p2))), .second, .val (.long (f0_e29 q0 p1 p2)), .second]) rfl ?_
      show Steps p.tables e below (T38.setTop (mkF m 325 #[.val (.long q0), .second, .val (.int p1), .val (.int p2), .val (.int ((p2 &&& (7 : Int32)) % (7 : Int32))), .val (.int ((f0_e1 p2) % (((p2 &&& (7 : Int32)) % (7 : Int32)) + (1 : Int32)))), .val (.int (f0_s0_36001 p2)), .val (.ref b4), .val (.ref b11), .val (.long (f8 (f0_e30 q0 p1 p2) (f0_e31 q0 p1 p2))), .second, .val (.long (f0_e15 q0 p1 p2)), .second, .val (.long (f0_e18 q0 p1 p2)), .second, .val (.long (f0_e21 q0 p1 p2)), .second, .val (.long (f0_e24 q0 p1 p2)), .second, .val (.long ((f0_e27 q0 p1 p2) + (f0_e28 q0 p1 p2))), .second, .val (.long (f0_e29 q0 p1 p2)), .second] [])) _
      refine XS.lload X38.here hx rfl (hb hby at_325) rfl ?_
      show Steps p.tables e below (T38.setTop (mkF m 327 #[.val (.long q0), .second, .val (.int p1), .val (.int p2), .val (.int ((p2 &&& (7 : Int32)) % (7 : Int32))), .val (.int ((f0_e1 p2) % (((p2 &&& (7 : Int32)) % (7 : Int32)) + (1 : Int32)))), .val (.int (f0_s0_36001 p2)), .val (.ref b4), .val (.ref b11), .val (.long (f8 (f0_e30 q0 p1 p2) (f0_e31 q0 p1 p2))), .second, .val (.long (f0_e15 q0 p1 p2)), .second, .val (.long (f0_e18 q0 p1 p2)), .second, .val (.long (f0_e21 q0 p1 p2)), .second, .val (.long (f0_e24 q0 p1 p2)), .second, .val (.long ((f0_e27 q0 p1 p2) + (f0_e28 q0 p1 p2))), .second, .val (.long (f0_e29 q0 p1 p2)), .second] [(.long (f8 (f0_e30 q0 p1 p2) (f0_e31 q0 p1 p2)))])) _
      refine XS.lload X38.here hx rfl (hb hby at_327) rfl ?_
      show Steps p.tables e below (T38.setTop (mkF m 329 #[.val (.long q0), .second, .val (.int p1), .val (.int p2), .val (.int ((p2 &&& (7 : Int32)) % (7 : Int32))), .val (.int ((f0_e1 p2) % (((p2 &&& (7 : Int32)) % (7 : Int32)) + (1 : Int32)))), .val (.int (f0_s0_36001 p2)), .val (.ref b4), .val (.ref b11), .val (.long (f8 (f0_e30 q0 p1 p2) (f0_e31 q0 p1 p2))), .second, .val (.long (f0_e15 q0 p1 p2)), .second, .val (.long (f0_e18 q0 p1 p2)), .second, .val (.long (f0_e21 q0 p1 p2)), .second, .val (.long (f0_e24 q0 p1 p2)), .second, .val (.long ((f0_e27 q0 p1 p2) + (f0_e28 q0 p1 p2))), .second, .val (.long (f0_e29 q0 p1 p2)), .second] [(.long (f0_e29 q0 p1 p2)), (.long (f8 (f0_e30 q0 p1 p2) (f0_e31 q0 p1 p2)))])) _
      refine XS.lcmp X38.here hx rfl (hb hby at_329) rfl ?_
      exact kt)
    by_cases hc40 : (lcmpW (f8 (f0_e30 q0 p1 p2) (f0_e31 q0 p1 p2)) (f0_e29 q0 p1 p2)) = (0 : Int32)
    · obtain ⟨fs, hr, hrun, hended, hW, hsame⟩ := X38.leave (v := some (.int (1 : Int32))) (fun h => by rw [Bd.returns] at h; cases h) hlk
      refine ⟨_, _, pre39 _ ?_, hrun, hended, _, _, rfl, ?_, ⟨_, rfl⟩, hW, hsame.mono (by decide) (by decide)⟩
      · show Steps p.tables e below (T38.setTop (mkF m 330 #[.val (.long q0), .second, .val (.int p1), .val (.int p2), .val (.int ((p2 &&& (7 : Int32)) % (7 : Int32))), .val (.int ((f0_e1 p2) % (((p2 &&& (7 : Int32)) % (7 : Int32)) + (1 : Int32)))), .val (.int (f0_s0_36001 p2)), .val (.ref b4), .val (.ref b11), .val (.long (f8 (f0_e30 q0 p1 p2) (f0_e31 q0 p1 p2))), .second, .val (.long (f0_e15 q0 p1 p2)), .second, .val (.long (f0_e18 q0 p1 p2)), .second, .val (.long (f0_e21 q0 p1 p2)), .second, .val (.long (f0_e24 q0 p1 p2)), .second, .val (.long ((f0_e27 q0 p1 p2) + (f0_e28 q0 p1 p2))), .second, .val (.long (f0_e29 q0 p1 p2)), .second] [(.int (lcmpW (f8 (f0_e30 q0 p1 p2) (f0_e31 q0 p1 p2)) (f0_e29 q0 p1 p2)))])) _
        refine XS.ifNo X38.here hx rfl (hb hby at_330) rfl ((if0 _ _).trans (teq hc40).2) ?_
        show Steps p.tables e below (T38.setTop (mkF m 333 #[.val (.long q0), .second, .val (.int p1), .val (.int p2), .val (.int ((p2 &&& (7 : Int32)) % (7 : Int32))), .val (.int ((f0_e1 p2) % (((p2 &&& (7 : Int32)) % (7 : Int32)) + (1 : Int32)))), .val (.int (f0_s0_36001 p2)), .val (.ref b4), .val (.ref b11), .val (.long (f8 (f0_e30 q0 p1 p2) (f0_e31 q0 p1 p2))), .second, .val (.long (f0_e15 q0 p1 p2)), .second, .val (.long (f0_e18 q0 p1 p2)), .second, .val (.long (f0_e21 q0 p1 p2)), .second, .val (.long (f0_e24 q0 p1 p2)), .second, .val (.long ((f0_e27 q0 p1 p2) + (f0_e28 q0 p1 p2))), .second, .val (.long (f0_e29 q0 p1 p2)), .second] [])) _
        refine XS.iconst X38.here hx rfl (hb hby at_333) ?_
        show Steps p.tables e below (T38.setTop (mkF m 334 #[.val (.long q0), .second, .val (.int p1), .val (.int p2), .val (.int ((p2 &&& (7 : Int32)) % (7 : Int32))), .val (.int ((f0_e1 p2) % (((p2 &&& (7 : Int32)) % (7 : Int32)) + (1 : Int32)))), .val (.int (f0_s0_36001 p2)), .val (.ref b4), .val (.ref b11), .val (.long (f8 (f0_e30 q0 p1 p2) (f0_e31 q0 p1 p2))), .second, .val (.long (f0_e15 q0 p1 p2)), .second, .val (.long (f0_e18 q0 p1 p2)), .second, .val (.long (f0_e21 q0 p1 p2)), .second, .val (.long (f0_e24 q0 p1 p2)), .second, .val (.long ((f0_e27 q0 p1 p2) + (f0_e28 q0 p1 p2))), .second, .val (.long (f0_e29 q0 p1 p2)), .second] [(.int (1 : Int32))])) _
        refine XS.goto X38.here hx rfl (pc0 := 334) (pc' := 338) rfl (hb hby at_334) (by decide) (by decide) ?_
        show Steps p.tables e below (T38.setTop (mkF m 338 #[.val (.long q0), .second, .val (.int p1), .val (.int p2), .val (.int ((p2 &&& (7 : Int32)) % (7 : Int32))), .val (.int ((f0_e1 p2) % (((p2 &&& (7 : Int32)) % (7 : Int32)) + (1 : Int32)))), .val (.int (f0_s0_36001 p2)), .val (.ref b4), .val (.ref b11), .val (.long (f8 (f0_e30 q0 p1 p2) (f0_e31 q0 p1 p2))), .second, .val (.long (f0_e15 q0 p1 p2)), .second, .val (.long (f0_e18 q0 p1 p2)), .second, .val (.long (f0_e21 q0 p1 p2)), .second, .val (.long (f0_e24 q0 p1 p2)), .second, .val (.long ((f0_e27 q0 p1 p2) + (f0_e28 q0 p1 p2))), .second, .val (.long (f0_e29 q0 p1 p2)), .second] [(.int (1 : Int32))])) _
        exact retN X38 hx (t := .boolean) Bd.returns (by simp) (hb hby at_338) hr
      · show Q0 Z q0 p1 p2 h0 n0 _ T38.heap _
        rw [e38]
        exact ⟨by rw [show f0 q0 p1 p2 = (1 : Int32) from by unfold f0; rw [if_neg hc15, if_pos hc40]], N38⟩
    · obtain ⟨fs, hr, hrun, hended, hW, hsame⟩ := X38.leave (v := some (.int (0 : Int32))) (fun h => by rw [Bd.returns] at h; cases h) hlk
      refine ⟨_, _, pre39 _ ?_, hrun, hended, _, _, rfl, ?_, ⟨_, rfl⟩, hW, hsame.mono (by decide) (by decide)⟩
      · show Steps p.tables e below (T38.setTop (mkF m 330 #[.val (.long q0), .second, .val (.int p1), .val (.int p2), .val (.int ((p2 &&& (7 : Int32)) % (7 : Int32))), .val (.int ((f0_e1 p2) % (((p2 &&& (7 : Int32)) % (7 : Int32)) + (1 : Int32)))), .val (.int (f0_s0_36001 p2)), .val (.ref b4), .val (.ref b11), .val (.long (f8 (f0_e30 q0 p1 p2) (f0_e31 q0 p1 p2))), .second, .val (.long (f0_e15 q0 p1 p2)), .second, .val (.long (f0_e18 q0 p1 p2)), .second, .val (.long (f0_e21 q0 p1 p2)), .second, .val (.long (f0_e24 q0 p1 p2)), .second, .val (.long ((f0_e27 q0 p1 p2) + (f0_e28 q0 p1 p2))), .second, .val (.long (f0_e29 q0 p1 p2)), .second] [(.int (lcmpW (f8 (f0_e30 q0 p1 p2) (f0_e31 q0 p1 p2)) (f0_e29 q0 p1 p2)))])) _
        refine XS.ifYes X38.here hx rfl (pc0 := 330) (pc' := 337) rfl (hb hby at_330) rfl ((if0 _ _).trans (feq hc40).2) (by decide) (by decide) ?_
        show Steps p.tables e below (T38.setTop (mkF m 337 #[.val (.long q0), .second, .val (.int p1), .val (.int p2), .val (.int ((p2 &&& (7 : Int32)) % (7 : Int32))), .val (.int ((f0_e1 p2) % (((p2 &&& (7 : Int32)) % (7 : Int32)) + (1 : Int32)))), .val (.int (f0_s0_36001 p2)), .val (.ref b4), .val (.ref b11), .val (.long (f8 (f0_e30 q0 p1 p2) (f0_e31 q0 p1 p2))), .second, .val (.long (f0_e15 q0 p1 p2)), .second, .val (.long (f0_e18 q0 p1 p2)), .second, .val (.long (f0_e21 q0 p1 p2)), .second, .val (.long (f0_e24 q0 p1 p2)), .second, .val (.long ((f0_e27 q0 p1 p2) + (f0_e28 q0 p1 p2))), .second, .val (.long (f0_e29 q0 p1 p2)), .second] [])) _
        refine XS.iconst X38.here hx rfl (hb hby at_337) ?_
        show Steps p.tables e below (T38.setTop (mkF m 338 #[.val (.long q0), .second, .val (.int p1), .val (.int p2), .val (.int ((p2 &&& (7 : Int32)) % (7 : Int32))), .val (.int ((f0_e1 p2) % (((p2 &&& (7 : Int32)) % (7 : Int32)) + (1 : Int32)))), .val (.int (f0_s0_36001 p2)), .val (.ref b4), .val (.ref b11), .val (.long (f8 (f0_e30 q0 p1 p2) (f0_e31 q0 p1 p2))), .second, .val (.long (f0_e15 q0 p1 p2)), .second, .val (.long (f0_e18 q0 p1 p2)), .second, .val (.long (f0_e21 q0 p1 p2)), .second, .val (.long (f0_e24 q0 p1 p2)), .second, .val (.long ((f0_e27 q0 p1 p2) + (f0_e28 q0 p1 p2))), .second, .val (.long (f0_e29 q0 p1 p2)), .second] [(.int (0 : Int32))])) _
        exact retN X38 hx (t := .boolean) Bd.returns (by simp) (hb hby at_338) hr
      · show Q0 Z q0 p1 p2 h0 n0 _ T38.heap _
        rw [e38]
        exact ⟨by rw [show f0 q0 p1 p2 = (0 : Int32) from by unfold f0; rw [if_neg hc15, if_neg hc40]], N38⟩
def own_B (vv : Int32 → Int32) (j : Nat) : Int := (vv (Int32.ofInt (j : Int)) &&& 255).toInt
def own_tot (B : Nat → Int) : Nat → Bool → Nat → Int
  | 0, _, _ => 0
  | k + 1, o, a => (if o = true then B a else 256 * B a) + own_tot B k (!o) (a + 1)
def own_par : Bool → Nat → Bool
  | o, 0 => o
  | o, k + 1 => own_par (!o) k
theorem own_Bb (vv : Int32 → Int32) (j : Nat) : 0 ≤ own_B vv j ∧ own_B vv j ≤ 255 := own_b8 _
theorem own_tot0 (B : Nat → Int) (hB : ∀ j, 0 ≤ B j) : ∀ (k : Nat) (o : Bool) (a : Nat), 0 ≤ own_tot B k o a := by
  intro k
  induction k with
  | zero => intro o a; show (0 : Int) ≤ 0; omega
  | succ k ih =>
    intro o a
    have h1 := ih (!o) (a + 1)
    have h2 := hB a
    show 0 ≤ (if o = true then B a else 256 * B a) + own_tot B k (!o) (a + 1)
    split <;> omega
theorem own_app (B : Nat → Int) : ∀ (j k : Nat) (o : Bool) (a : Nat), own_tot B (j + k) o a = own_tot B j o a + own_tot B k (own_par o j) (a + j) := by
  intro j
  induction j with
  | zero => intro k o a; show own_tot B (0 + k) o a = 0 + own_tot B k o (a + 0); rw [Nat.zero_add, Nat.add_zero, Int.zero_add]
  | succ j ih =>
    intro k o a
    rw [Nat.succ_add_eq_add_succ j k, ← Nat.add_assoc]
    show (if o = true then B a else 256 * B a) + own_tot B (j + k) (!o) (a + 1) = ((if o = true then B a else 256 * B a) + own_tot B j (!o) (a + 1)) + own_tot B k (own_par (!o) j) (a + (j + 1))
    rw [ih k (!o) (a + 1), show a + 1 + j = a + (j + 1) by omega]
    omega
theorem own_par2 : ∀ (k : Nat) (o : Bool), own_par o (2 * k) = o := by
  intro k
  induction k with
  | zero => intro o; rfl
  | succ k ih =>
    intro o
    show own_par (!(!o)) (2 * k) = o
    rw [ih]; cases o <;> rfl
theorem own_ov (a : Nat) (h : a ≤ 2000) : (Int32.ofInt (a : Int)).toInt = a := Int32.toInt_ofInt_of_le (by omega) (by omega)
theorem own_o1 (a : Nat) (h : a ≤ 1000) : Int32.ofInt (a : Int) + 1 = Int32.ofInt ((a + 1 : Nat) : Int) := by
  apply Int32.toInt_inj.mp
  have e := own_ov a (by omega)
  rw [own_add1 _ (by omega) (by omega), own_ov (a + 1) (by omega), e]
  omega
theorem own_o2 (a : Nat) (h : a ≤ 1000) : Int32.ofInt (a : Int) + 2 = Int32.ofInt ((a + 2 : Nat) : Int) := by
  apply Int32.toInt_inj.mp
  have e := own_ov a (by omega)
  rw [own_add2 _ (by omega) (by omega), own_ov (a + 2) (by omega), e]
  omega
theorem own_wwt (vv : Int32 → Int32) : ∀ (k a : Nat) (W : Int64), a + 2 * k ≤ 900 → 0 ≤ W.toInt → W.toInt + 65535 * (k : Int) ≤ 100000000 → (own_ww vv k (Int32.ofInt (a : Int)) W).toInt = W.toInt + own_tot (own_B vv) (2 * k) false a := by
  intro k
  induction k with
  | zero => intro a W h1 h2 h3; show W.toInt = W.toInt + 0; omega
  | succ k ih =>
    intro a W h1 h2 h3
    show (own_ww vv k (Int32.ofInt (a : Int) + 2) (W + ((((vv (Int32.ofInt (a : Int)) &&& (255 : Int32)) <<< ((8 : Int32) &&& 31)) ||| (vv (Int32.ofInt (a : Int) + (1 : Int32)) &&& (255 : Int32))).toInt64))).toInt = W.toInt + (256 * own_B vv a + (own_B vv (a + 1) + own_tot (own_B vv) (2 * k) false (a + 2)))
    rw [own_o1 a (by omega), own_o2 a (by omega)]
    have w := own_word (vv (Int32.ofInt (a : Int))) (vv (Int32.ofInt ((a + 1 : Nat) : Int)))
    have hx := own_Bb vv a
    have hy := own_Bb vv (a + 1)
    have w' : (((vv (Int32.ofInt (a : Int)) &&& (255 : Int32)) <<< ((8 : Int32) &&& 31)) ||| (vv (Int32.ofInt ((a + 1 : Nat) : Int)) &&& (255 : Int32))).toInt = 256 * own_B vv a + own_B vv (a + 1) := w
    have ad := own_add W (((vv (Int32.ofInt (a : Int)) &&& (255 : Int32)) <<< ((8 : Int32) &&& 31)) ||| (vv (Int32.ofInt ((a + 1 : Nat) : Int)) &&& (255 : Int32))) h2 (by omega) (by omega)
    rw [ih (a + 2) _ (by omega) (by omega) (by omega), ad, w']
    omega
theorem own_7v (x o : Int32) (S : Int64) (hs0 : 0 ≤ S.toInt) (hs1 : S.toInt ≤ 65535) : (f7_sum x o S).toInt = own_canon (S.toInt + (if o = 0 then 256 * (x &&& 255).toInt else (x &&& 255).toInt)) := by
  have e := own_v7 x S o hs0 hs1
  unfold f7_sum f6
  rw [own_foldv]
  exact congrArg own_canon e
theorem own_7o (x o : Int32) (S : Int64) : f7_odd x o S = if o = 0 then 1 else 0 := by
  unfold f7_odd f7_s0_49002
  split <;> decide
theorem own_wio (k a : Nat) (h : a + 2 * k ≤ 900) : own_wi k (Int32.ofInt (a : Int)) = Int32.ofInt ((a + 2 * k : Nat) : Int) := by
  apply Int32.toInt_inj.mp
  have e := own_ov a (by omega)
  rw [own_wiv k _ (by omega) (by omega), e, own_ov (a + 2 * k) (by omega)]
  omega
theorem own_mid (vv : Int32 → Int32) (a m : Nat) (S : Int64) (h : a + m ≤ 6) (hs0 : 0 ≤ S.toInt) (hs1 : S.toInt ≤ 65535) (E : Int32) (hE : E = Int32.ofInt ((a + m : Nat) : Int)) :
    (if (own_wi (own_k (Int32.ofInt (a : Int)) E) (Int32.ofInt (a : Int))) < E then (f7_sum (vv (own_wi (own_k (Int32.ofInt (a : Int)) E) (Int32.ofInt (a : Int)))) 0 (f6 (own_ww vv (own_k (Int32.ofInt (a : Int)) E) (Int32.ofInt (a : Int)) S))) else (f6 (own_ww vv (own_k (Int32.ofInt (a : Int)) E) (Int32.ofInt (a : Int)) S))).toInt = own_canon (S.toInt + own_tot (own_B vv) m false a) ∧
    (if (own_wi (own_k (Int32.ofInt (a : Int)) E) (Int32.ofInt (a : Int))) < E then (f7_odd (vv (own_wi (own_k (Int32.ofInt (a : Int)) E) (Int32.ofInt (a : Int)))) 0 (f6 (own_ww vv (own_k (Int32.ofInt (a : Int)) E) (Int32.ofInt (a : Int)) S))) else (0 : Int32)) = (if own_par false m = true then 1 else 0) := by
  have ea := own_ov a (by omega)
  have eE : E.toInt = (a : Int) + m := by rw [hE, own_ov (a + m) (by omega)]; omega
  have hk : own_k (Int32.ofInt (a : Int)) E = m / 2 := by unfold own_k; rw [eE, ea]; omega
  rw [hk, own_wio (m / 2) a (by omega)]
  have t0 := own_tot0 (own_B vv) (fun j => (own_Bb vv j).1) (2 * (m / 2)) false a
  have w := own_wwt vv (m / 2) a S (by omega) hs0 (by omega)
  have x6 : (f6 (own_ww vv (m / 2) (Int32.ofInt (a : Int)) S)).toInt = own_canon (S.toInt + own_tot (own_B vv) (2 * (m / 2)) false a) := by
    unfold f6; rw [own_foldv, w]
  have b6 := own_cr (S.toInt + own_tot (own_B vv) (2 * (m / 2)) false a)
  have ev := own_ov (a + 2 * (m / 2)) (by omega)
  by_cases hm : m = 2 * (m / 2)
  · have hn : ¬ Int32.ofInt ((a + 2 * (m / 2) : Nat) : Int) < E := by rw [Int32.lt_iff_toInt_lt]; omega
    rw [if_neg hn, if_neg hn, x6, ← hm]
    refine ⟨rfl, ?_⟩
    rw [hm, own_par2]
    decide
  · have hn : Int32.ofInt ((a + 2 * (m / 2) : Nat) : Int) < E := by rw [Int32.lt_iff_toInt_lt]; omega
    have hm' : m = 2 * (m / 2) + 1 := by omega
    rw [if_pos hn, if_pos hn, own_7v _ _ _ (by rw [x6]; exact b6.1) (by rw [x6]; exact b6.2), own_7o, if_pos rfl, if_pos rfl, x6]
    have hB := own_Bb vv (a + 2 * (m / 2))
    have ap := own_app (own_B vv) (2 * (m / 2)) 1 false a
    rw [own_par2, ← hm'] at ap
    have t1 : own_tot (own_B vv) 1 false (a + 2 * (m / 2)) = 256 * own_B vv (a + 2 * (m / 2)) := by show 256 * own_B vv (a + 2 * (m / 2)) + 0 = _; omega
    rw [t1] at ap
    refine ⟨?_, ?_⟩
    · show own_canon (own_canon (S.toInt + own_tot (own_B vv) (2 * (m / 2)) false a) + 256 * own_B vv (a + 2 * (m / 2))) = _
      rw [own_cc _ _ (by omega) (by omega), ap, Int.add_assoc]
    · have pm : ∀ k : Nat, own_par false (2 * k + 1) = true := fun k => by show own_par true (2 * k) = true; exact own_par2 k true
      rw [hm', pm]
      decide
theorem own_F3 (vv : Int32 → Int32) (a l : Nat) (ob : Bool) (o : Int32) (ho : o = if ob = true then 1 else 0) (S : Int64) (h : a + l ≤ 6) (hs0 : 0 ≤ S.toInt) (hs1 : S.toInt ≤ 65535) :
    (f3_sum (Int32.ofInt (a : Int)) (Int32.ofInt (l : Int)) o S vv).toInt = own_canon (S.toInt + own_tot (own_B vv) l ob a) ∧ f3_odd (Int32.ofInt (a : Int)) (Int32.ofInt (l : Int)) o S vv = (if own_par ob l = true then 1 else 0) := by
  have ea := own_ov a (by omega)
  have el := own_ov l (by omega)
  have hE : Int32.ofInt (a : Int) + Int32.ofInt (l : Int) = Int32.ofInt ((a + l : Nat) : Int) := by
    apply Int32.toInt_inj.mp
    rw [own_Ev _ _ (by omega) (by omega) (by omega), ea, el, own_ov (a + l) (by omega)]
    omega
  unfold f3_sum f3_odd
  rw [hE]
  cases ob with
  | false =>
    have h0 : o = 0 := ho
    subst h0
    rw [if_pos rfl, if_pos rfl]
    exact own_mid vv a l S h hs0 hs1 _ rfl
  | true =>
    have h1 : o = 1 := ho
    subst h1
    rw [if_neg (show ¬ (1 : Int32) = 0 by decide), if_neg (show ¬ (1 : Int32) = 0 by decide)]
    have eE := own_ov (a + l) (by omega)
    cases l with
    | zero =>
      have hn : ¬ Int32.ofInt (a : Int) < Int32.ofInt ((a + 0 : Nat) : Int) := by rw [Int32.lt_iff_toInt_lt]; omega
      have hk : own_k (Int32.ofInt (a : Int)) (Int32.ofInt ((a + 0 : Nat) : Int)) = 0 := by unfold own_k; rw [eE, ea]; omega
      rw [if_neg hn, if_neg hn, hk]
      show (if Int32.ofInt (a : Int) < _ then _ else f6 S).toInt = own_canon (S.toInt + 0) ∧ (if Int32.ofInt (a : Int) < _ then _ else (1 : Int32)) = _
      rw [if_neg hn, if_neg hn]
      refine ⟨?_, by decide⟩
      unfold f6
      rw [own_foldv, Int.add_zero]
    | succ m =>
      have hn : Int32.ofInt (a : Int) < Int32.ofInt ((a + (m + 1) : Nat) : Int) := by rw [Int32.lt_iff_toInt_lt]; omega
      have v7 := own_7v (vv (Int32.ofInt (a : Int))) 1 S hs0 hs1
      rw [if_neg (show ¬ (1 : Int32) = 0 by decide)] at v7
      have b7 := own_b7 (vv (Int32.ofInt (a : Int))) S 1 hs0 hs1
      rw [if_pos hn, if_pos hn, own_7o _ 1, if_neg (show ¬ (1 : Int32) = 0 by decide), own_o1 a (by omega)]
      have q := own_mid vv (a + 1) m (f7_sum (vv (Int32.ofInt (a : Int))) 1 S) (by omega) b7.1 b7.2 (Int32.ofInt ((a + (m + 1) : Nat) : Int)) (by rw [show a + (m + 1) = a + 1 + m by omega])
      have hB := own_Bb vv a
      have t0 := own_tot0 (own_B vv) (fun j => (own_Bb vv j).1) m false (a + 1)
      refine ⟨q.1.trans ?_, q.2⟩
      rw [v7]
      show own_canon (own_canon (S.toInt + own_B vv a) + own_tot (own_B vv) m false (a + 1)) = own_canon (S.toInt + (own_B vv a + own_tot (own_B vv) m false (a + 1)))
      rw [own_cc _ _ (by omega) t0, Int.add_assoc]
theorem own_f10 (q0 : Int64) (i : Int32) : 0 ≤ (f10 q0 i).toInt ∧ (f10 q0 i).toInt = (f10_e1 q0 i).toInt % 256 := by
  unfold f10
  have e := c_maskL (f10_e1 q0 i) 255 8 (by decide) (by decide)
  have e2 : ((2 ^ 8 : Nat) : Int) = 256 := by decide
  rw [e2] at e
  have l := c_l2i (f10_e1 q0 i &&& 255)
  have r := rng32 (f10_e1 q0 i &&& 255).toInt32
  omega
theorem own_bb (u : Int64) : (u.toInt32.toInt8.toInt32.toInt8.toInt32 &&& 255).toInt = u.toInt % 256 := by
  have b0 := c_l2i u
  have b1 := c_i2b u.toInt32
  have b2 := c_i2b u.toInt32.toInt8.toInt32
  have e := c_mask u.toInt32.toInt8.toInt32.toInt8.toInt32 255 8 (by decide) (by decide)
  have e2 : ((2 ^ 8 : Nat) : Int) = 256 := by decide
  rw [e2] at e
  omega
theorem own_z0 (q0 : Int64) : f10_e1 q0 0 = q0 := by
  unfold f10_e1
  apply Int64.toBitVec_inj.mp
  show (q0.toBitVec >>> ((((8 : Int32) * 0) &&& 0x3f).toInt64.toBitVec % 64)) = q0.toBitVec
  rw [show ((((8 : Int32) * 0) &&& 0x3f).toInt64.toBitVec % 64) = 0#64 from by decide]
  simp
theorem own_Bv (q0 : Int64) (j : Nat) (h : j < 6) : own_B (own_vb q0) j = (f10 q0 (Int32.ofInt (j : Int))).toInt := by
  rw [(own_f10 q0 _).2]
  unfold own_B
  rcases (show j = 0 ∨ j = 1 ∨ j = 2 ∨ j = 3 ∨ j = 4 ∨ j = 5 by omega) with rfl | rfl | rfl | rfl | rfl | rfl
  · have z : f10_e1 q0 (Int32.ofInt ((0 : Nat) : Int)) = q0 := own_z0 q0
    rw [z]; exact own_bb q0
  · exact own_bb _
  · exact own_bb _
  · exact own_bb _
  · exact own_bb _
  · exact own_bb _
theorem own_lt (i j : Nat) (hi : i ≤ 1000) (hj : j ≤ 1000) : (Int32.ofInt (i : Int) < Int32.ofInt (j : Int)) ↔ i < j := by
  rw [Int32.lt_iff_toInt_lt, own_ov i (by omega), own_ov j (by omega)]
  omega
theorem own_at0 (q0 : Int64) (x : Int32) (i s n : Nat) (hi : i < 8) (hs : s ≤ n) (hn : n ≤ 6) : (f9 (Int32.ofInt (i : Int)) q0 (Int32.ofInt (s : Int)) (Int32.ofInt (n : Int)) 0 x).toInt = if i < n then own_B (own_vb q0) i else 0 := by
  unfold f9
  have z : f9_s0_10001 0 = 0 := by decide
  rw [z, if_pos rfl, Int32.add_zero, Int32.sub_zero]
  by_cases h1 : i < s
  · rw [if_pos ((own_lt i s (by omega) (by omega)).mpr h1), if_pos (by omega), own_Bv q0 i (by omega)]
  · rw [if_neg (fun q => h1 ((own_lt i s (by omega) (by omega)).mp q))]
    by_cases h2 : i < n
    · rw [if_pos ((own_lt i n (by omega) (by omega)).mpr h2), if_pos h2, own_Bv q0 i (by omega)]
    · rw [if_neg (fun q => h2 ((own_lt i n (by omega) (by omega)).mp q)), if_neg h2]; rfl
theorem own_at1 (q0 : Int64) (x : Int32) (i s n : Nat) (hi : i < 8) (hs : s ≤ n) (hn : n ≤ 6) : (f9 (Int32.ofInt (i : Int)) q0 (Int32.ofInt (s : Int)) (Int32.ofInt (n : Int)) 1 x).toInt = if i < s then own_B (own_vb q0) i else if i = s then (x &&& 255).toInt else if i < n + 1 then own_B (own_vb q0) (i - 1) else 0 := by
  unfold f9
  have z : f9_s0_10001 1 = 1 := by decide
  rw [z, if_neg (by decide : ¬ (1 : Int32) = 0), own_o1 n (by omega)]
  by_cases h1 : i < s
  · rw [if_pos ((own_lt i s (by omega) (by omega)).mpr h1), if_pos h1, own_Bv q0 i (by omega)]
  · rw [if_neg (fun q => h1 ((own_lt i s (by omega) (by omega)).mp q)), if_neg h1]
    by_cases h2 : i = s
    · rw [if_pos (by rw [h2]), if_pos h2]
    · have h2' : ¬ Int32.ofInt (i : Int) = Int32.ofInt (s : Int) := fun q => h2 (by
        have q' := congrArg Int32.toInt q
        rw [own_ov i (by omega), own_ov s (by omega)] at q'
        omega)
      rw [if_neg h2', if_neg h2]
      by_cases h3 : i < n + 1
      · have e : Int32.ofInt (i : Int) - 1 = Int32.ofInt ((i - 1 : Nat) : Int) := by
          apply Int32.toInt_inj.mp
          have c := c_isub (Int32.ofInt (i : Int)) 1
          have r := rng32 (Int32.ofInt (i : Int) - 1)
          have l : (1 : Int32).toInt = 1 := rfl
          rw [own_ov i (by omega)] at c
          rw [own_ov (i - 1) (by omega)]
          omega
        rw [if_pos ((own_lt i (n + 1) (by omega) (by omega)).mpr h3), if_pos h3, e, own_Bv q0 (i - 1) (by omega)]
      · rw [if_neg (fun q => h3 ((own_lt i (n + 1) (by omega) (by omega)).mp q)), if_neg h3]; rfl
theorem own_pair (x y : Int32) (hx : 0 ≤ x.toInt) (hx1 : x.toInt ≤ 255) (hy : 0 ≤ y.toInt) (hy1 : y.toInt ≤ 255) : (((x <<< ((8 : Int32) &&& 31)) ||| y).toInt64).toInt = 256 * x.toInt + y.toInt := by
  have s := own_s8 x hx hx1
  have o := c_or (x <<< ((8 : Int32) &&& 31)) y 8 (by decide) 256 (by decide) (by omega) hy (by omega)
  have r := rng32 ((x <<< ((8 : Int32) &&& 31)) ||| y)
  rw [c_i2l]
  omega
theorem own_fold2 (t v : Int) (h0 : 0 ≤ t) (h1 : t ≤ 262140) (hv : v = (t % 65536 + t / 65536) % 65536 + (t % 65536 + t / 65536) / 65536) : own_canon t = v := by
  unfold own_canon
  split <;> omega
def own_A (q0 : Int64) (p1 p2 : Int32) (i : Nat) : Int := (f9 (Int32.ofInt (i : Int)) q0 (own_s p2) (own_n p2) (f0_s0_36001 p2) p1).toInt
theorem own_exp (q0 : Int64) (p1 p2 : Int32) (hA : ∀ i : Nat, i < 8 → 0 ≤ own_A q0 p1 p2 i ∧ own_A q0 p1 p2 i ≤ 255) (X : Int64)
    (hX : X.toInt = own_canon (256 * own_A q0 p1 p2 0 + own_A q0 p1 p2 1 + (256 * own_A q0 p1 p2 2 + own_A q0 p1 p2 3) + (256 * own_A q0 p1 p2 4 + own_A q0 p1 p2 5) + (256 * own_A q0 p1 p2 6 + own_A q0 p1 p2 7))) : (X ^^^ (-1 : Int64)) &&& (65535 : Int64) = f0_e29 q0 p1 p2 := by
  have a0 := hA 0 (by decide)
  have a1 := hA 1 (by decide)
  have a2 := hA 2 (by decide)
  have a3 := hA 3 (by decide)
  have a4 := hA 4 (by decide)
  have a5 := hA 5 (by decide)
  have a6 := hA 6 (by decide)
  have a7 := hA 7 (by decide)
  have w0 : (f0_e15 q0 p1 p2).toInt = 256 * own_A q0 p1 p2 0 + own_A q0 p1 p2 1 := own_pair (f0_e13 q0 p1 p2) (f0_e14 q0 p1 p2) a0.1 a0.2 a1.1 a1.2
  have w1 : (f0_e18 q0 p1 p2).toInt = 256 * own_A q0 p1 p2 2 + own_A q0 p1 p2 3 := own_pair (f0_e16 q0 p1 p2) (f0_e17 q0 p1 p2) a2.1 a2.2 a3.1 a3.2
  have w2 : (f0_e21 q0 p1 p2).toInt = 256 * own_A q0 p1 p2 4 + own_A q0 p1 p2 5 := own_pair (f0_e19 q0 p1 p2) (f0_e20 q0 p1 p2) a4.1 a4.2 a5.1 a5.2
  have w3 : (f0_e24 q0 p1 p2).toInt = 256 * own_A q0 p1 p2 6 + own_A q0 p1 p2 7 := own_pair (f0_e22 q0 p1 p2) (f0_e23 q0 p1 p2) a6.1 a6.2 a7.1 a7.2
  have s1 := c_ladd (f0_e15 q0 p1 p2) (f0_e18 q0 p1 p2)
  have r1 := rng64 (f0_e15 q0 p1 p2 + f0_e18 q0 p1 p2)
  have s2 := c_ladd (f0_e15 q0 p1 p2 + f0_e18 q0 p1 p2) (f0_e21 q0 p1 p2)
  have r2 := rng64 (f0_e15 q0 p1 p2 + f0_e18 q0 p1 p2 + f0_e21 q0 p1 p2)
  have s3 := c_ladd (f0_e15 q0 p1 p2 + f0_e18 q0 p1 p2 + f0_e21 q0 p1 p2) (f0_e24 q0 p1 p2)
  have r3 := rng64 (f0_e15 q0 p1 p2 + f0_e18 q0 p1 p2 + f0_e21 q0 p1 p2 + f0_e24 q0 p1 p2)
  have t : (f0_e25 q0 p1 p2).toInt = 256 * own_A q0 p1 p2 0 + own_A q0 p1 p2 1 + (256 * own_A q0 p1 p2 2 + own_A q0 p1 p2 3) + (256 * own_A q0 p1 p2 4 + own_A q0 p1 p2 5) + (256 * own_A q0 p1 p2 6 + own_A q0 p1 p2 7) := by
    unfold f0_e25
    omega
  rw [← t] at hX
  have tb : 0 ≤ (f0_e25 q0 p1 p2).toInt ∧ (f0_e25 q0 p1 p2).toInt ≤ 262140 := by omega
  clear s1 s2 s3 r1 r2 r3 w0 w1 w2 w3 t a0 a1 a2 a3 a4 a5 a6 a7
  unfold f0_e29 f0_e27 f0_e28 f0_e26
  generalize f0_e25 q0 p1 p2 = T at *
  have e2 : ((2 ^ 16 : Nat) : Int) = 65536 := by decide
  have m1 := c_maskL T 65535 16 (by decide) (by decide)
  rw [e2] at m1
  have h1 := own_sh16 T tb.1
  generalize (T.toUInt64 >>> ((16 : Int32) &&& 0x3f).toInt64.toUInt64).toInt64 = U at *
  have s4 := c_ladd (T &&& 65535) U
  have r4 := rng64 ((T &&& 65535) + U)
  have v4 : ((T &&& 65535) + U).toInt = T.toInt % 65536 + T.toInt / 65536 := by omega
  generalize (T &&& 65535) + U = Y at *
  have m2 := c_maskL Y 65535 16 (by decide) (by decide)
  rw [e2] at m2
  have h2 := own_sh16 Y (by omega)
  generalize (Y.toUInt64 >>> ((16 : Int32) &&& 0x3f).toInt64.toUInt64).toInt64 = U2 at *
  have s5 := c_ladd (Y &&& 65535) U2
  have r5 := rng64 ((Y &&& 65535) + U2)
  have v5 : ((Y &&& 65535) + U2).toInt = Y.toInt % 65536 + Y.toInt / 65536 := by omega
  have e : X = (Y &&& 65535) + U2 := Int64.toInt_inj.mp (by
    rw [hX, v5]
    exact own_fold2 _ _ tb.1 tb.2 (by rw [v4]))
  rw [e]
set_option maxRecDepth 65536 in
set_option maxHeartbeats 4000000 in
theorem own_sum0 (B : Nat → Int) (n : Nat) (hn : n ≤ 6) : own_tot B n false 0 = 256 * (if 0 < n then B 0 else 0) + (if 1 < n then B 1 else 0) + (256 * (if 2 < n then B 2 else 0) + (if 3 < n then B 3 else 0)) + (256 * (if 4 < n then B 4 else 0) + (if 5 < n then B 5 else 0)) + (256 * (if 6 < n then B 6 else 0) + (if 7 < n then B 7 else 0)) := by
  rcases (show n = 0 ∨ n = 1 ∨ n = 2 ∨ n = 3 ∨ n = 4 ∨ n = 5 ∨ n = 6 by omega) with rfl | rfl | rfl | rfl | rfl | rfl | rfl <;> simp [own_tot] <;> omega
set_option maxRecDepth 65536 in
set_option maxHeartbeats 4000000 in
theorem own_sum1 (B : Nat → Int) (x : Int) (n s : Nat) (hs : s ≤ n) (hn : n ≤ 6) : own_tot B s false 0 + (if own_par false s = true then x else 256 * x) + own_tot B (n - s) (!(own_par false s)) s = 256 * (if 0 < s then B 0 else if 0 = s then x else if 0 < n + 1 then B (0 - 1) else 0) + (if 1 < s then B 1 else if 1 = s then x else if 1 < n + 1 then B (1 - 1) else 0) + (256 * (if 2 < s then B 2 else if 2 = s then x else if 2 < n + 1 then B (2 - 1) else 0) + (if 3 < s then B 3 else if 3 = s then x else if 3 < n + 1 then B (3 - 1) else 0)) + (256 * (if 4 < s then B 4 else if 4 = s then x else if 4 < n + 1 then B (4 - 1) else 0) + (if 5 < s then B 5 else if 5 = s then x else if 5 < n + 1 then B (5 - 1) else 0)) + (256 * (if 6 < s then B 6 else if 6 = s then x else if 6 < n + 1 then B (6 - 1) else 0) + (if 7 < s then B 7 else if 7 = s then x else if 7 < n + 1 then B (7 - 1) else 0)) := by
  rcases (show n = 0 ∨ n = 1 ∨ n = 2 ∨ n = 3 ∨ n = 4 ∨ n = 5 ∨ n = 6 by omega) with rfl | rfl | rfl | rfl | rfl | rfl | rfl <;>
  rcases (show s = 0 ∨ s = 1 ∨ s = 2 ∨ s = 3 ∨ s = 4 ∨ s = 5 ∨ s = 6 by omega) with rfl | rfl | rfl | rfl | rfl | rfl | rfl <;>
  first | (exfalso; omega) | (simp [own_tot, own_par] <;> omega)
theorem own_law (q0 : Int64) (p1 p2 : Int32) : f0 q0 p1 p2 = 1 := by
  have nv := own_nv p2
  have sv := own_sv p2
  obtain ⟨⟨n, hn7⟩, hn⟩ := own_of (c := own_n p2) (k := 7) nv.1 (by omega)
  obtain ⟨⟨s, hs7⟩, hs⟩ := own_of (c := own_s p2) (k := 7) sv.1 (by omega)
  replace hn : own_n p2 = Int32.ofInt (n : Int) := hn
  replace hs : own_s p2 = Int32.ofInt (s : Int) := hs
  have en := own_ov n (by omega)
  have es := own_ov s (by omega)
  have hsn : s ≤ n := by rw [hn, hs] at sv; omega
  have hd : own_n p2 - own_s p2 = Int32.ofInt ((n - s : Nat) : Int) := by
    apply Int32.toInt_inj.mp
    rw [own_ns, own_ov _ (by omega), hn, hs, en, es]
    omega
  have F1 := own_F3 (own_vb q0) 0 s false 0 rfl 0 (by omega) (by decide) (by decide)
  have e8 : f0_e8 q0 p2 = (if own_par false s = true then 1 else 0) := by
    have : f0_e8 q0 p2 = f3_odd 0 (own_s p2) 0 0 (own_vb q0) := rfl
    rw [this, hs]; exact F1.2
  have e9 : (f0_e9 q0 p2).toInt = own_canon (own_tot (own_B (own_vb q0)) s false 0) := by
    have : f0_e9 q0 p2 = f3_sum 0 (own_s p2) 0 0 (own_vb q0) := rfl
    rw [this, hs]
    have h := F1.1
    have l0 : (0 : Int64).toInt = 0 := rfl
    rw [l0, Int.zero_add] at h
    exact h
  have b9 := own_cr (own_tot (own_B (own_vb q0)) s false 0)
  have pos := own_tot0 (own_B (own_vb q0)) (fun j => (own_Bb _ j).1)
  unfold f0
  by_cases fl : f0_s0_36001 p2 = 0
  · rw [if_pos fl, if_pos]
    rw [lw_eq]
    have hA : ∀ i : Nat, i < 8 → own_A q0 p1 p2 i = if i < n then own_B (own_vb q0) i else 0 := fun i hi => by
      unfold own_A
      rw [fl, hn, hs]
      exact own_at0 q0 p1 i s n hi hsn (by omega)
    refine own_exp q0 p1 p2 (fun i hi => ?_) (f0_e12 q0 p2) ?_
    · rw [hA i hi]
      have := own_Bb (own_vb q0) i
      split <;> omega
    · have F2 := own_F3 (own_vb q0) s (n - s) (own_par false s) (f0_e8 q0 p2) e8 (f0_e9 q0 p2) (by omega) (by omega) (by omega)
      have e12 : f0_e12 q0 p2 = f3_sum (own_s p2) (own_n p2 - own_s p2) (f0_e8 q0 p2) (f0_e9 q0 p2) (own_vb q0) := rfl
      rw [e12, hd, hs, F2.1, e9, own_cc _ _ (pos _ _ _) (pos _ _ _)]
      have ap := own_app (own_B (own_vb q0)) s (n - s) false 0
      rw [show s + (n - s) = n by omega, Nat.zero_add] at ap
      rw [← ap, own_sum0 _ n (by omega), hA 0 (by decide), hA 1 (by decide), hA 2 (by decide), hA 3 (by decide), hA 4 (by decide), hA 5 (by decide), hA 6 (by decide), hA 7 (by decide)]
  · have fl1 : f0_s0_36001 p2 = 1 := by
      unfold f0_s0_36001 at fl ⊢
      split
      · rename_i h; rw [if_pos h] at fl; exact absurd rfl fl
      · rfl
    rw [if_neg fl, if_pos]
    rw [lw_eq]
    have hA : ∀ i : Nat, i < 8 → own_A q0 p1 p2 i = if i < s then own_B (own_vb q0) i else if i = s then (p1 &&& 255).toInt else if i < n + 1 then own_B (own_vb q0) (i - 1) else 0 := fun i hi => by
      unfold own_A
      rw [fl1, hn, hs]
      exact own_at1 q0 p1 i s n hi hsn (by omega)
    have hx := own_b8 p1
    refine own_exp q0 p1 p2 (fun i hi => ?_) (f0_e31 q0 p1 p2) ?_
    · rw [hA i hi]
      have a := own_Bb (own_vb q0) i
      have b := own_Bb (own_vb q0) (i - 1)
      split
      · exact a
      · split
        · exact hx
        · split
          · exact b
          · omega
    · have v7 := own_7v p1 (f0_e8 q0 p2) (f0_e9 q0 p2) (by omega) (by omega)
      have o7 := own_7o p1 (f0_e8 q0 p2) (f0_e9 q0 p2)
      have ho : f7_odd p1 (f0_e8 q0 p2) (f0_e9 q0 p2) = (if (!(own_par false s)) = true then 1 else 0) := by
        rw [o7, e8]; cases own_par false s <;> decide
      have hw : (if f0_e8 q0 p2 = 0 then 256 * (p1 &&& 255).toInt else (p1 &&& 255).toInt) = (if own_par false s = true then (p1 &&& 255).toInt else 256 * (p1 &&& 255).toInt) := by
        rw [e8]; cases own_par false s <;> rfl
      have hw0 : 0 ≤ (if own_par false s = true then (p1 &&& 255).toInt else 256 * (p1 &&& 255).toInt) := by split <;> omega
      rw [hw, e9, own_cc _ _ (pos _ _ _) hw0] at v7
      have b7 := own_cr (own_tot (own_B (own_vb q0)) s false 0 + (if own_par false s = true then (p1 &&& 255).toInt else 256 * (p1 &&& 255).toInt))
      have F2 := own_F3 (own_vb q0) s (n - s) (!(own_par false s)) (f7_odd p1 (f0_e8 q0 p2) (f0_e9 q0 p2)) ho (f7_sum p1 (f0_e8 q0 p2) (f0_e9 q0 p2)) (by omega) (by omega) (by omega)
      have e31 : f0_e31 q0 p1 p2 = f3_sum (own_s p2) (own_n p2 - own_s p2) (f7_odd p1 (f0_e8 q0 p2) (f0_e9 q0 p2)) (f7_sum p1 (f0_e8 q0 p2) (f0_e9 q0 p2)) (own_vb q0) := rfl
      have p0 := pos s false 0
      rw [e31, hd, hs, F2.1, v7, own_cc _ _ (by omega) (pos _ _ _), own_sum1 _ _ n s hsn (by omega), hA 0 (by decide), hA 1 (by decide), hA 2 (by decide), hA 3 (by decide), hA 4 (by decide), hA 5 (by decide), hA 6 (by decide), hA 7 (by decide)]
set_option maxRecDepth 65536 in
set_option maxHeartbeats 40000000 in
theorem comes_1 {Post : Tables → Env → Array Value → State → Outcome → State → Prop} (hpost : ∀ tb e args s v u, (limb_1_1.after args s (.returned v) u = true ∧ limb_1_2.after args s (.returned v) u = true ∧ True) → FrameEnd s (.returned v) u (Jvm.fieldLocs frame_1_writes args s ++ Jvm.arrayLocs frame_1_arrays args s ++ Jvm.staticLocs frame_1_statics s) 16 128 → Post tb e args s (.returned v) u) :
    ArmFor flags0 classFile x code maxLocals ret World_1 tables_1 room_1 Calls_1 rest_1 Pre_1 Post := by
  intro l hfl _ _ p e ha hc hk s m args below hf hA hF happ hP
  obtain ⟨hcalls, hrest, hpre⟩ := hP
  obtain ⟨-, -, -, hnamed, -, -, -, hat⟩ := (Spec.applies_iff hf).mp happ
  obtain ⟨hg, hn⟩ := and_e (Cond.before_iff.mp (show (Jvm.Cond.and given_1 narrow_1).before args s = true from hpre))
  obtain ⟨g1, g2⟩ := and_e hg
  obtain ⟨g3, g4⟩ := and_e g2
  obtain ⟨g5, g6⟩ := and_e g4
  obtain ⟨w0, w1, w2, rfl⟩ : ∃ w0 w1 w2 : Value, args = #[w0, w1, w2] := by
    have hs : args.size = 3 := by simpa [Cond.value, given_1] using g1
    obtain ⟨L⟩ := args
    match L, hs with
    | [w0, w1, w2], _ => exact ⟨w0, w1, w2, rfl⟩
  have hw := fun d (hd : d ∈ tables_1) => atoms_spec (ws := Jvm.Cond.code x code maxLocals ret :: tables_1) hat d (List.mem_cons_of_mem _ hd)
  have hfit : Fit s := fun {y c} hc i hi => by
    obtain ⟨ha, rfl⟩ := Array.getElem?_eq_some_iff.mp hc
    have q := List.all_eq_true.mp ((Array.all_eq_true_iff_forall_mem.mp hF) _ (Array.getElem_mem ha)) i (List.mem_range.mpr hi)
    simpa [Array.getElem?_eq_getElem hi] using q
  obtain ⟨i0, ei0⟩ := isL_v g3
  obtain rfl : w0 = (.long i0) := Option.some.inj ei0
  obtain ⟨i1, ei1⟩ := is_v g5
  obtain rfl : w1 = (.int i1) := Option.some.inj ei1
  obtain ⟨i2, ei2⟩ := is_v g6
  obtain rfl : w2 = (.int i2) := Option.some.inj ei2
  obtain ⟨n, o, h1, h2, h3, _, L, rfl, ⟨rfl, N⟩, hq⟩ := rm0 l s _ hw tables_1 i0 i1 i2 s.heap s.heap.size (Nat.le_refl _) p e ha hc hk s m _ below hf ((Spec.applies_iff_loose hf).mp happ).1 ⟨rfl, State.Warmed39.refl s, rfl⟩ trivial
  refine ⟨n, _, h1, h2, h3, hpost _ _ _ _ _ _ ⟨Cond.after_iff.mpr rfl, Cond.after_iff.mpr (eq_i res_at (Term.int_eval (1)) (by rw [own_law i0 i1 i2])), trivial⟩ ⟨hq.1, hq.2.1, (hq.2.2.sift fun y hy => Or.inr (N y hy)).mono (by decide) (by decide)⟩⟩
theorem main_1_1 : Claimed_1_1 := comes_1 fun _ _ _ _ _ _ h hF => ⟨h.1, hF⟩
theorem main_1_2 : Claimed_1_2 := comes_1 fun _ _ _ _ _ _ h hF => ⟨h.2.1, hF⟩
end Jvm.Pilot.@@N@@
namespace Jvm.Pilot.@@N@@
open Jvm Jvm.ClassFile Sem Op Lib Jvm.Free Jvm.Stand Jvm.Pilot.@@N@@.Jvm.D
/-! MADE BY PROGRAM (witnessworld.py) out of the Statement's table words and the real class files: 12 classes; the members and pool entries that the words name. The judged class is class 1, her method 3. -/
namespace start1
open Jvm.ClassFile
def u (s : String) : CpInfo := .utf8 (stringToUtf16 s)
/-- a pool by its gaps: so many unusable entries, then the entry; so many at the end -/
def gap : Nat → List CpInfo → List CpInfo
  | 0, r => r
  | n + 1, r => .unusable :: gap n r
def poolList (es : List (Nat × CpInfo)) (last : Nat) : List CpInfo := es.foldr (fun e r => gap e.1 (e.2 :: r)) (gap last [])
def pool (es : List (Nat × CpInfo)) (last : Nat) : Array CpInfo := ⟨poolList es last⟩
def fileOf (pool : Array CpInfo) (this : Nat) (attrs : Array Attribute := #[]) (ms : Array MethodInfo := #[]) (fl : Nat := 33) (sup : Nat := 0) (ifs : Array Nat := #[]) (fds : Array FieldInfo := #[]) : ClassFile where
  minorVersion := 0
  majorVersion := 65
  constantPool := pool
  accessFlags := fl
  thisClass := this
  superClass := sup
  interfaces := ifs
  fields := fds
  methods := ms
  attributes := attrs
def plain (name : String) (sup : Option ClassId) : Class where
  name := name
  kind := .ordinary
  loader := none
  accessFlags := 33
  super := sup
  interfaces := #[]
  cf := none
  fields := #[]
  methods := #[]
  instanceTypes := #[]
  staticTypes := #[]
  resolved := #[]
  callSites := []
  init := .initialized
  statics := none
  mirror := none

def pool0 : Array CpInfo := pool [(5, u "<init>"), (0, u "()V"), (1, .class_ 10), (1, u "java/lang/Object")] 113

def k0c0 : Code := { maxStack := 0, maxLocals := 1, code := object_method_1_code, exceptionTable := #[], attributes := #[] }
def k0m0 : Method := { name := "<init>", desc := "()V", sig := { parameters := [], returnType := none }, accessFlags := 1, code := some k0c0 }
/-- java/lang/Object -/
def k0 : Class := { plain "java/lang/Object" none with
  accessFlags := 33
  interfaces := #[]
  cf := some (fileOf pool0 8 #[] #[{ accessFlags := 1, nameIndex := 5, descriptorIndex := 6, attributes := #[] }] 33 0 #[] #[])
  fields := #[]
  methods := #[k0m0]
  instanceTypes := #[]
  staticTypes := #[]
  resolved := Array.replicate 124 none
  statics := none }

def pool1 : Array CpInfo := pool [(2, .class_ 4), (0, .nameAndType 5 6), (0, u "java/lang/Object"), (0, u "<init>"), (0, u "()V"), (0, .long 255), (1, .methodref 10 11), (0, .class_ 12), (0, .nameAndType 13 14), (0, u "com/example/wireshape/wireshape/model/InternetChecksumGetValuePinLaw"), (0, u "byteOf"), (0, u "(JI)I"), (0, .class_ 16), (0, u "com/example/wireshape/wireshape/model/InternetChecksum"), (0, .methodref 15 3), (0, .methodref 15 19), (0, .nameAndType 20 21), (0, u "update"), (0, u "([BII)V"), (0, .methodref 15 23), (0, .nameAndType 20 24), (0, u "(I)V"), (0, .methodref 15 26), (0, .nameAndType 27 28), (0, u "getValue"), (0, u "()J"), (0, .methodref 10 30), (0, .nameAndType 31 32), (0, u "at"), (0, u "(IJIIZI)I"), (0, .long 65535), (1, .long 18446744073709551615), (4, u "law"), (0, u "(JII)Z")] 4

def k1m0 : Method := { name := "<init>", desc := "()V", sig := { parameters := [], returnType := none }, accessFlags := 1, code := none }
def k1c1 : Code := { maxStack := 4, maxLocals := 3, code := method_2_code, exceptionTable := #[], attributes := #[] }
def k1m1 : Method := { name := "byteOf", desc := "(JI)I", sig := { parameters := [.long, .int], returnType := some .int }, accessFlags := 10, code := some k1c1 }
def k1c2 : Code := { maxStack := 4, maxLocals := 8, code := method_3_code, exceptionTable := #[], attributes := #[] }
def k1m2 : Method := { name := "at", desc := "(IJIIZI)I", sig := { parameters := [.int, .long, .int, .int, .boolean, .int], returnType := some .int }, accessFlags := 10, code := some k1c2 }
def k1c3 : Code := { maxStack := 8, maxLocals := 23, code := code, exceptionTable := #[], attributes := #[] }
def k1m3 : Method := { name := "law", desc := "(JII)Z", sig := { parameters := [.long, .int, .int], returnType := some .boolean }, accessFlags := 9, code := some k1c3 }
/-- com/example/wireshape/wireshape/model/InternetChecksumGetValuePinLaw -/
def k1 : Class := { plain "com/example/wireshape/wireshape/model/InternetChecksumGetValuePinLaw" (some 0) with
  accessFlags := 49
  interfaces := #[]
  cf := some (fileOf pool1 10 #[] #[{ accessFlags := 1, nameIndex := 5, descriptorIndex := 6, attributes := #[] }, { accessFlags := 10, nameIndex := 13, descriptorIndex := 14, attributes := #[] }, { accessFlags := 10, nameIndex := 31, descriptorIndex := 32, attributes := #[] }, { accessFlags := 9, nameIndex := 40, descriptorIndex := 41, attributes := #[] }] 49 2 #[] #[])
  fields := #[]
  methods := #[k1m0, k1m1, k1m2, k1m3]
  instanceTypes := #[]
  staticTypes := #[]
  resolved := Array.replicate 46 none
  statics := none }

def pool2 : Array CpInfo := pool [(2, .class_ 4), (1, u "java/util/zip/Checksum"), (12, .class_ 19), (1, u "java/util/zip/Checksum$1"), (38, .class_ 59), (0, u "java/lang/Object")] 26

/-- java/util/zip/Checksum -/
def k2 : Class := { plain "java/util/zip/Checksum" (some 0) with
  accessFlags := 1537
  interfaces := #[]
  cf := some (fileOf pool2 2 #[.nestMembers #[17]] #[] 1537 58 #[] #[])
  fields := #[]
  methods := #[]
  instanceTypes := #[]
  staticTypes := #[]
  resolved := Array.replicate 86 none
  statics := none }

def pool3 : Array CpInfo := pool [(1, .methodref 2 3), (0, .class_ 4), (0, .nameAndType 5 6), (0, u "java/lang/Object"), (0, u "<init>"), (0, u "()V"), (0, .fieldref 8 9), (0, .class_ 10), (0, .nameAndType 11 12), (0, u "com/example/wireshape/wireshape/model/InternetChecksum"), (0, u "sum"), (0, u "J"), (0, .fieldref 8 14), (0, .nameAndType 15 16), (0, u "odd"), (0, u "Z"), (0, .methodref 8 18), (0, .nameAndType 19 20), (0, u "fold"), (0, u "(J)J"), (0, .methodref 22 23), (0, .class_ 24), (0, .nameAndType 25 26), (0, u "java/util/Objects"), (0, u "checkFromIndexSize"), (0, u "(III)I"), (0, .methodref 8 28), (0, .nameAndType 29 30), (0, u "update"), (0, u "(I)V"), (0, .long 18446744073709551615), (1, .long 65535), (1, .class_ 36), (0, u "java/util/zip/Checksum"), (3, u "([BII)V"), (0, u "getValue"), (0, u "()J")] 3

def k3c0 : Code := { maxStack := 1, maxLocals := 1, code := prog_41_method_1_code, exceptionTable := #[], attributes := #[] }
def k3m0 : Method := { name := "<init>", desc := "()V", sig := { parameters := [], returnType := none }, accessFlags := 0, code := some k3c0 }
def k3c1 : Code := { maxStack := 5, maxLocals := 2, code := prog_41_method_2_code, exceptionTable := #[], attributes := #[] }
def k3m1 : Method := { name := "update", desc := "(I)V", sig := { parameters := [.int], returnType := none }, accessFlags := 1, code := some k3c1 }
def k3c2 : Code := { maxStack := 6, maxLocals := 8, code := prog_41_method_3_code, exceptionTable := #[], attributes := #[] }
def k3m2 : Method := { name := "update", desc := "([BII)V", sig := { parameters := [(.array .byte), .int, .int], returnType := none }, accessFlags := 1, code := some k3c2 }
def k3c3 : Code := { maxStack := 4, maxLocals := 1, code := prog_41_method_4_code, exceptionTable := #[], attributes := #[] }
def k3m3 : Method := { name := "getValue", desc := "()J", sig := { parameters := [], returnType := some .long }, accessFlags := 1, code := some k3c3 }
def k3c4 : Code := { maxStack := 5, maxLocals := 4, code := prog_41_method_6_code, exceptionTable := #[], attributes := #[] }
def k3m4 : Method := { name := "fold", desc := "(J)J", sig := { parameters := [.long], returnType := some .long }, accessFlags := 10, code := some k3c4 }
/-- com/example/wireshape/wireshape/model/InternetChecksum -/
def k3 : Class := { plain "com/example/wireshape/wireshape/model/InternetChecksum" (some 0) with
  accessFlags := 48
  interfaces := #[2]
  cf := some (fileOf pool3 8 #[] #[{ accessFlags := 0, nameIndex := 5, descriptorIndex := 6, attributes := #[] }, { accessFlags := 1, nameIndex := 29, descriptorIndex := 30, attributes := #[] }, { accessFlags := 1, nameIndex := 29, descriptorIndex := 40, attributes := #[] }, { accessFlags := 1, nameIndex := 41, descriptorIndex := 42, attributes := #[] }, { accessFlags := 10, nameIndex := 19, descriptorIndex := 20, attributes := #[] }] 48 2 #[35] #[{ accessFlags := 2, nameIndex := 11, descriptorIndex := 12, attributes := #[] }, { accessFlags := 2, nameIndex := 15, descriptorIndex := 16, attributes := #[] }])
  fields := #[{ name := "sum", type := .long, accessFlags := 2, slot := 0, constantValue := 0 }, { name := "odd", type := .boolean, accessFlags := 2, slot := 1, constantValue := 0 }]
  methods := #[k3m0, k3m1, k3m2, k3m3, k3m4]
  instanceTypes := #[.long, .boolean]
  staticTypes := #[]
  resolved := Array.replicate 46 none
  statics := none }

def pool4 : Array CpInfo := pool [(2, .class_ 4), (1, u "java/lang/Object"), (0, u "<init>"), (0, u "()V"), (35, .class_ 44), (1, u "java/util/Objects"), (61, .class_ 108), (1, u "jdk/internal/util/Preconditions"), (5, u "(IIILjava/util/function/BiFunction;)I"), (0, .methodref 106 116), (0, .nameAndType 117 114), (0, u "checkFromIndexSize"), (57, u "(III)I")] 8

def k4m0 : Method := { name := "<init>", desc := "()V", sig := { parameters := [], returnType := none }, accessFlags := 2, code := none }
def k4c1 : Code := { maxStack := 4, maxLocals := 3, code := jdk_31_method_19_code, exceptionTable := #[], attributes := #[] }
def k4m1 : Method := { name := "checkFromIndexSize", desc := "(III)I", sig := { parameters := [.int, .int, .int], returnType := some .int }, accessFlags := 9, code := some k4c1 }
/-- java/util/Objects -/
def k4 : Class := { plain "java/util/Objects" (some 0) with
  accessFlags := 49
  interfaces := #[]
  cf := some (fileOf pool4 42 #[] #[{ accessFlags := 2, nameIndex := 5, descriptorIndex := 6, attributes := #[] }, { accessFlags := 9, nameIndex := 117, descriptorIndex := 175, attributes := #[] }] 49 2 #[] #[])
  fields := #[]
  methods := #[k4m0, k4m1]
  instanceTypes := #[]
  staticTypes := #[]
  resolved := Array.replicate 184 none
  statics := none }

def pool5 : Array CpInfo := pool [(2, .class_ 4), (1, u "java/lang/Object"), (0, u "<init>"), (0, u "()V"), (17, .class_ 26), (1, u "jdk/internal/util/Preconditions"), (22, u "checkFromIndexSize"), (5, .class_ 56), (0, u "jdk/internal/util/Preconditions$4"), (57, .class_ 115), (0, u "jdk/internal/util/Preconditions$1"), (7, u "SIOOBE_FORMATTER"), (0, u "Ljava/util/function/BiFunction;"), (0, .class_ 126), (0, u "jdk/internal/util/Preconditions$2"), (3, u "AIOOBE_FORMATTER"), (0, .class_ 132), (0, u "jdk/internal/util/Preconditions$3"), (3, u "IOOBE_FORMATTER"), (46, u "(IIILjava/util/function/BiFunction;)I")] 10

def k5m0 : Method := { name := "<init>", desc := "()V", sig := { parameters := [], returnType := none }, accessFlags := 1, code := none }
def k5c1 : Code := { maxStack := 4, maxLocals := 4, code := jdk_41_method_13_code, exceptionTable := #[], attributes := #[] }
def k5m1 : Method := { name := "checkFromIndexSize", desc := "(IIILjava/util/function/BiFunction;)I", sig := { parameters := [.int, .int, .int, (.object "java/util/function/BiFunction")], returnType := some .int }, accessFlags := 9, code := some k5c1 }
/-- jdk/internal/util/Preconditions -/
def k5 : Class := { plain "jdk/internal/util/Preconditions" (some 0) with
  accessFlags := 33
  interfaces := #[]
  cf := some (fileOf pool5 24 #[.nestMembers #[55, 131, 125, 114]] #[{ accessFlags := 1, nameIndex := 5, descriptorIndex := 6, attributes := #[] }, { accessFlags := 9, nameIndex := 49, descriptorIndex := 183, attributes := #[] }] 33 2 #[] #[{ accessFlags := 25, nameIndex := 123, descriptorIndex := 124, attributes := #[] }, { accessFlags := 25, nameIndex := 130, descriptorIndex := 124, attributes := #[] }, { accessFlags := 25, nameIndex := 136, descriptorIndex := 124, attributes := #[] }])
  fields := #[{ name := "SIOOBE_FORMATTER", type := (.object "java/util/function/BiFunction"), accessFlags := 25, slot := 0, constantValue := 0 }, { name := "AIOOBE_FORMATTER", type := (.object "java/util/function/BiFunction"), accessFlags := 25, slot := 1, constantValue := 0 }, { name := "IOOBE_FORMATTER", type := (.object "java/util/function/BiFunction"), accessFlags := 25, slot := 2, constantValue := 0 }]
  methods := #[k5m0, k5m1]
  instanceTypes := #[]
  staticTypes := #[(.object "java/util/function/BiFunction"), (.object "java/util/function/BiFunction"), (.object "java/util/function/BiFunction")]
  resolved := Array.replicate 194 none
  statics := none }

def pool6 : Array CpInfo := pool [(1, u "java/lang/Cloneable"), (0, .class_ 1), (0, u "java/lang/Object"), (0, .class_ 3)] 3

/-- java/lang/Cloneable -/
def k6 : Class := { plain "java/lang/Cloneable" (some 0) with
  accessFlags := 1537
  interfaces := #[]
  cf := some (fileOf pool6 2 #[] #[] 1537 4 #[] #[])
  fields := #[]
  methods := #[]
  instanceTypes := #[]
  staticTypes := #[]
  resolved := Array.replicate 8 none
  statics := none }

def pool7 : Array CpInfo := pool [(1, u "java/io/Serializable"), (0, .class_ 1), (0, u "java/lang/Object"), (0, .class_ 3)] 3

/-- java/io/Serializable -/
def k7 : Class := { plain "java/io/Serializable" (some 0) with
  accessFlags := 1537
  interfaces := #[]
  cf := some (fileOf pool7 2 #[] #[] 1537 4 #[] #[])
  fields := #[]
  methods := #[]
  instanceTypes := #[]
  staticTypes := #[]
  resolved := Array.replicate 8 none
  statics := none }

/-- the primitive byte -/
def k8 : Class := { plain "byte" none with kind := .primitive 'B', accessFlags := 0x411 }
/-- [B -/
def k9 : Class := { plain "[B" (some 0) with kind := .array 8 .byte, interfaces := #[6, 7], accessFlags := 1041 }

/-- the primitive int -/
def k10 : Class := { plain "int" none with kind := .primitive 'I', accessFlags := 0x411 }
/-- [I -/
def k11 : Class := { plain "[I" (some 0) with kind := .array 10 .int, interfaces := #[6, 7], accessFlags := 1041 }

def heap : Heap := #[]
def classes : Array Class := #[k0, k1, k2, k3, k4, k5, k6, k7, k8, k9, k10, k11]
def interned : List (Array UInt16 × Addr) := []
def slotsUsed : Nat := 0
def theMethod : MethodId := ⟨1, 3⟩
def args0 : Array Value := #[.long 5, .int 5, .int 5]
def aboutOver (below : List Frame) : State where
  vm := { classes := classes, interned := interned.toArray }
  heap := heap
  slotsUsed := slotsUsed
  threads := #[{ frames := .invoking theMethod args0 :: below }]
def below0 : List Frame := [.native { method := ⟨0, 0⟩, args := #[] }]
def about1 : State := aboutOver below0
def p0 : Program := .bare "" "" ""
def e0 : Env := launch0.env 0 0 0
theorem w_frames : about1.frames = Frame.invoking theMethod args0 :: below0 := rfl
set_option maxRecDepth 65536 in
theorem w_args : argsFit about1.vm theMethod args0 = true := by decide +kernel
set_option maxRecDepth 65536 in
theorem w_heap : heapFits about1 = true := by decide +kernel
set_option maxRecDepth 65536 in
theorem w_runnable : about1.curStatus? = some .runnable := by decide +kernel
set_option maxRecDepth 65536 in
theorem w_alone : about1.alone = true := by decide +kernel
set_option maxRecDepth 65536 in
theorem w_named : about1.methodNamed? x = some theMethod := by decide +kernel
set_option maxRecDepth 65536 in
theorem w_hears : about1.hears theMethod below0 = true := by decide +kernel
set_option maxRecDepth 65536 in
theorem w_ripe : about1.ripe theMethod args0 below0 = true := by decide +kernel
theorem w_running : about1.status = .running := rfl
set_option maxRecDepth 65536 in
theorem w_room : about1.hasRoom e0.platform room_1 = true :=
  launch0.hasRoom_least _ room_1 (by decide +kernel) (by decide +kernel) (by decide +kernel) (by decide +kernel) (by decide +kernel) (by decide +kernel)
theorem allAtoms_all (ts : List Jvm.Cond) (a : Array Jvm.Value) (st : Jvm.State) : (allAtoms ts).before a st = ts.all (fun c => c.before a st) := by
  induction ts with
  | nil => rfl
  | cons c t ih =>
    show (Jvm.Cond.and c (allAtoms t)).before a st = _
    rw [Jvm.Cond.before_and, ih, List.all_cons]
def words1 : List Jvm.Cond := Jvm.Cond.code x code maxLocals ret :: tables_1
/-- a 'code' word, met by the world's own term for the bytes: nothing is compared byte by byte -/
theorem code_word {y : MethodName} {bytes : ByteArray} {mx : Nat} {rt : Option FieldType} {a : Array Value} {s : State} {m : MethodId} {meth : Method} {c : Code} (h1 : s.methodNamed? y = some m) (h2 : s.vm.method? m = some meth) (h3 : meth.code = some c) (h4 : c.code = bytes)
    (h5 : (c.maxLocals == mx && c.exceptionTable.isEmpty && decide (c.maxStack ≤ mostOperands) && decide (meth.sig.returnType = rt) && !meth.locks && decide (parseMethodDescriptor y.desc = some meth.sig)) = true) : (Jvm.Cond.code y bytes mx rt).before a s = true := by
  simp only [Bool.and_eq_true, beq_iff_eq, Bool.not_eq_true', decide_eq_true_eq] at h5
  obtain ⟨⟨⟨⟨⟨g1, g2⟩, g3⟩, g4⟩, g5⟩, g6⟩ := h5
  simp [Cond.before, Cond.holds, Cond.value, h1, h2, h3, h4, g1, g2, g3, g4, g5, g6]
def isCode : Jvm.Cond → Bool
  | .code _ _ _ _ => true
  | _ => false
theorem all_split {L : List Jvm.Cond} {P : Jvm.Cond → Bool} (h1 : L.all (fun c => isCode c || P c) = true) (h2 : ∀ c ∈ L.filter isCode, P c = true) : L.all P = true := by
  refine List.all_eq_true.mpr fun c hc => ?_
  have h := List.all_eq_true.mp h1 c hc
  rcases Bool.eq_false_or_eq_true (isCode c) with hi | hi
  · exact h2 c (List.mem_filter.mpr ⟨hc, hi⟩)
  · simpa [hi] using h
set_option maxRecDepth 65536 in
theorem w_c0 : (Jvm.Cond.code x code maxLocals ret).before args0 about1 = true := code_word (m := ⟨1, 3⟩) (meth := k1m3) (c := k1c3) (by decide +kernel) rfl rfl rfl (by decide +kernel)
set_option maxRecDepth 65536 in
theorem w_c1 : (Jvm.Cond.code ({ cls := "com/example/wireshape/wireshape/model/InternetChecksum", name := "<init>", desc := "()V" } : Jvm.MethodName) prog_41_method_1_code (1 : Nat) (Option.none : Option Jvm.ClassFile.FieldType)).before args0 about1 = true := code_word (m := ⟨3, 0⟩) (meth := k3m0) (c := k3c0) (by decide +kernel) rfl rfl rfl (by decide +kernel)
set_option maxRecDepth 65536 in
theorem w_c2 : (Jvm.Cond.code ({ cls := "java/lang/Object", name := "<init>", desc := "()V" } : Jvm.MethodName) object_method_1_code (1 : Nat) (Option.none : Option Jvm.ClassFile.FieldType)).before args0 about1 = true := code_word (m := ⟨0, 0⟩) (meth := k0m0) (c := k0c0) (by decide +kernel) rfl rfl rfl (by decide +kernel)
set_option maxRecDepth 65536 in
theorem w_c3 : (Jvm.Cond.code ({ cls := "com/example/wireshape/wireshape/model/InternetChecksum", name := "update", desc := "([BII)V" } : Jvm.MethodName) prog_41_method_3_code (8 : Nat) (Option.none : Option Jvm.ClassFile.FieldType)).before args0 about1 = true := code_word (m := ⟨3, 2⟩) (meth := k3m2) (c := k3c2) (by decide +kernel) rfl rfl rfl (by decide +kernel)
set_option maxRecDepth 65536 in
theorem w_c4 : (Jvm.Cond.code ({ cls := "java/util/Objects", name := "checkFromIndexSize", desc := "(III)I" } : Jvm.MethodName) jdk_31_method_19_code (3 : Nat) (Option.some Jvm.ClassFile.FieldType.int)).before args0 about1 = true := code_word (m := ⟨4, 1⟩) (meth := k4m1) (c := k4c1) (by decide +kernel) rfl rfl rfl (by decide +kernel)
set_option maxRecDepth 65536 in
theorem w_c5 : (Jvm.Cond.code ({ cls := "jdk/internal/util/Preconditions", name := "checkFromIndexSize", desc := "(IIILjava/util/function/BiFunction;)I" } : Jvm.MethodName) jdk_41_method_13_code (4 : Nat) (Option.some Jvm.ClassFile.FieldType.int)).before args0 about1 = true := code_word (m := ⟨5, 1⟩) (meth := k5m1) (c := k5c1) (by decide +kernel) rfl rfl rfl (by decide +kernel)
set_option maxRecDepth 65536 in
theorem w_c6 : (Jvm.Cond.code ({ cls := "com/example/wireshape/wireshape/model/InternetChecksum", name := "fold", desc := "(J)J" } : Jvm.MethodName) prog_41_method_6_code (4 : Nat) (Option.some Jvm.ClassFile.FieldType.long)).before args0 about1 = true := code_word (m := ⟨3, 4⟩) (meth := k3m4) (c := k3c4) (by decide +kernel) rfl rfl rfl (by decide +kernel)
set_option maxRecDepth 65536 in
theorem w_c7 : (Jvm.Cond.code ({ cls := "com/example/wireshape/wireshape/model/InternetChecksum", name := "update", desc := "(I)V" } : Jvm.MethodName) prog_41_method_2_code (2 : Nat) (Option.none : Option Jvm.ClassFile.FieldType)).before args0 about1 = true := code_word (m := ⟨3, 1⟩) (meth := k3m1) (c := k3c1) (by decide +kernel) rfl rfl rfl (by decide +kernel)
set_option maxRecDepth 65536 in
theorem w_c8 : (Jvm.Cond.code ({ cls := "com/example/wireshape/wireshape/model/InternetChecksum", name := "getValue", desc := "()J" } : Jvm.MethodName) prog_41_method_4_code (1 : Nat) (Option.some Jvm.ClassFile.FieldType.long)).before args0 about1 = true := code_word (m := ⟨3, 3⟩) (meth := k3m3) (c := k3c3) (by decide +kernel) rfl rfl rfl (by decide +kernel)
set_option maxRecDepth 65536 in
theorem w_c9 : (Jvm.Cond.code ({ cls := "com/example/wireshape/wireshape/model/InternetChecksumGetValuePinLaw", name := "at", desc := "(IJIIZI)I" } : Jvm.MethodName) method_3_code (8 : Nat) (Option.some Jvm.ClassFile.FieldType.int)).before args0 about1 = true := code_word (m := ⟨1, 2⟩) (meth := k1m2) (c := k1c2) (by decide +kernel) rfl rfl rfl (by decide +kernel)
set_option maxRecDepth 65536 in
theorem w_c10 : (Jvm.Cond.code ({ cls := "com/example/wireshape/wireshape/model/InternetChecksumGetValuePinLaw", name := "byteOf", desc := "(JI)I" } : Jvm.MethodName) method_2_code (3 : Nat) (Option.some Jvm.ClassFile.FieldType.int)).before args0 about1 = true := code_word (m := ⟨1, 1⟩) (meth := k1m1) (c := k1c1) (by decide +kernel) rfl rfl rfl (by decide +kernel)
def codes1 : List Jvm.Cond := [Jvm.Cond.code x code maxLocals ret, Jvm.Cond.code ({ cls := "com/example/wireshape/wireshape/model/InternetChecksum", name := "<init>", desc := "()V" } : Jvm.MethodName) prog_41_method_1_code (1 : Nat) (Option.none : Option Jvm.ClassFile.FieldType), Jvm.Cond.code ({ cls := "java/lang/Object", name := "<init>", desc := "()V" } : Jvm.MethodName) object_method_1_code (1 : Nat) (Option.none : Option Jvm.ClassFile.FieldType), Jvm.Cond.code ({ cls := "com/example/wireshape/wireshape/model/InternetChecksum", name := "update", desc := "([BII)V" } : Jvm.MethodName) prog_41_method_3_code (8 : Nat) (Option.none : Option Jvm.ClassFile.FieldType), Jvm.Cond.code ({ cls := "java/util/Objects", name := "checkFromIndexSize", desc := "(III)I" } : Jvm.MethodName) jdk_31_method_19_code (3 : Nat) (Option.some Jvm.ClassFile.FieldType.int), Jvm.Cond.code ({ cls := "jdk/internal/util/Preconditions", name := "checkFromIndexSize", desc := "(IIILjava/util/function/BiFunction;)I" } : Jvm.MethodName) jdk_41_method_13_code (4 : Nat) (Option.some Jvm.ClassFile.FieldType.int), Jvm.Cond.code ({ cls := "com/example/wireshape/wireshape/model/InternetChecksum", name := "fold", desc := "(J)J" } : Jvm.MethodName) prog_41_method_6_code (4 : Nat) (Option.some Jvm.ClassFile.FieldType.long), Jvm.Cond.code ({ cls := "com/example/wireshape/wireshape/model/InternetChecksum", name := "update", desc := "(I)V" } : Jvm.MethodName) prog_41_method_2_code (2 : Nat) (Option.none : Option Jvm.ClassFile.FieldType), Jvm.Cond.code ({ cls := "com/example/wireshape/wireshape/model/InternetChecksum", name := "getValue", desc := "()J" } : Jvm.MethodName) prog_41_method_4_code (1 : Nat) (Option.some Jvm.ClassFile.FieldType.long), Jvm.Cond.code ({ cls := "com/example/wireshape/wireshape/model/InternetChecksumGetValuePinLaw", name := "at", desc := "(IJIIZI)I" } : Jvm.MethodName) method_3_code (8 : Nat) (Option.some Jvm.ClassFile.FieldType.int), Jvm.Cond.code ({ cls := "com/example/wireshape/wireshape/model/InternetChecksumGetValuePinLaw", name := "byteOf", desc := "(JI)I" } : Jvm.MethodName) method_2_code (3 : Nat) (Option.some Jvm.ClassFile.FieldType.int)]
set_option maxRecDepth 65536 in
theorem codes_eq : words1.filter isCode = codes1 := rfl
theorem w_codes : ∀ c ∈ words1.filter isCode, c.before args0 about1 = true := by
  rw [codes_eq]
  intro c hc
  simp only [codes1, List.mem_cons, List.not_mem_nil, or_false] at hc
  rcases hc with rfl | rfl | rfl | rfl | rfl | rfl | rfl | rfl | rfl | rfl | rfl
  · exact w_c0
  · exact w_c1
  · exact w_c2
  · exact w_c3
  · exact w_c4
  · exact w_c5
  · exact w_c6
  · exact w_c7
  · exact w_c8
  · exact w_c9
  · exact w_c10
set_option maxRecDepth 65536 in
theorem w_t1 : (words1.take 24).all (fun c => isCode c || c.before args0 about1) = true := by decide +kernel
set_option maxRecDepth 65536 in
theorem w_t2 : ((words1.drop 24).take 24).all (fun c => isCode c || c.before args0 about1) = true := by decide +kernel
set_option maxRecDepth 65536 in
theorem w_t3 : ((words1.drop 24).drop 24).all (fun c => isCode c || c.before args0 about1) = true := by decide +kernel
theorem w_tables : (allAtoms (Jvm.Cond.code x code maxLocals ret :: tables_1)).before args0 about1 = true := by
  rw [allAtoms_all]
  show words1.all (fun c => c.before args0 about1) = true
  refine all_split ?_ w_codes
  rw [← List.take_append_drop 24 words1, List.all_append, w_t1, ← List.take_append_drop 24 (words1.drop 24), List.all_append, w_t2, w_t3]
  rfl
set_option maxRecDepth 65536 in
theorem w_case : (Jvm.Cond.and given_1 narrow_1).before args0 about1 = true := by decide +kernel
theorem w_applies : (headSpec (Jvm.Cond.code x code maxLocals ret :: tables_1) room_1).applies x e0.platform about1 = true :=
  (Spec.applies_iff w_frames).mpr ⟨w_running, w_runnable, w_alone, w_named, w_hears, w_ripe, w_room, w_tables⟩
theorem atStart : AtStart classFile x code maxLocals ret World_1 tables_1 room_1 Calls_1 rest_1 Pre_1 launch0 p0 e0 about1 theMethod args0 below0 :=
  ⟨lists_1, trivial, launch0.admits_env _ _ _, launch0.least_env, fairChoices_fair.cas, fairChoices_fair.clock, w_frames, w_args, w_heap, w_applies, trivial, trivial, w_case⟩
end start1
theorem witness_1 : WitnessClaimed_1 := ⟨start1.p0, start1.e0, start1.about1, start1.theMethod, start1.args0, start1.below0, start1.atStart⟩
end Jvm.Pilot.@@N@@

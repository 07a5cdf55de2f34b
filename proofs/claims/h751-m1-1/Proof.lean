import JvmDerived
import JvmDerived.Pilot.@@N@@Statement
import JvmDerived.Pilot.@@N@@Code
set_option linter.unusedVariables false
set_option linter.unusedSimpArgs false
namespace Jvm.RoadKit
open Sem ClassFile Op Lib Jvm.Stand Jvm.Free Jvm.LawKit
section New
variable {p : Program} {l : Launch} {e : Env} {R : Room} {s : State} {m : MethodId} {args : Array Value} {below : List Frame} {meth : Method} {c : Code} {T : State} {locs : List Loc} {cells slots : Nat}
theorem retI (X : Stand p l e R s m args below meth c T locs cells slots) (hx : p.tables.exec = Jvm.exec) {pc : Nat} {Ls : Array Slot} {z : Int32} {rest : List Value} (hret : meth.sig.returnType = some .int) (hd : decode c.code pc = .ok (.ireturn, 1)) {fs : List Frame}
    (hl : ∀ (f : JFrame) (acts : List Action), f.method = m → f.locked = none → f.entered = [] → (doReturn e (T.setTop f) acts (some (.int z))).1 = T.setFrames fs) : Steps p.tables e below (T.setTop (mkF m pc Ls (.int z :: rest))) (T.setFrames fs) := by
  have hm' : T.vm.method? m = some meth := X.method'
  have hn : narrow .int (.int z) = .int z := rfl
  show Steps p.tables e below (T.setTop { method := m, pc := pc, locals := Ls, stack := _ :: rest, locked := none }) _
  jvm_step X.here [X.here.top, hx, hd, hm', hret, hn]
  first | (intro acts; rw [hl _ acts rfl rfl rfl]) | rw [hl _ _ rfl rfl rfl]
  exact Steps.refl _
end New
end Jvm.RoadKit
namespace Jvm.Pilot.@@N@@
open Jvm Jvm.ClassFile Sem Op Lib Jvm.Free Jvm.Stand Jvm.LawKit Jvm.RoadKit Bundle Jvm.Pilot.@@N@@.Jvm.D
theorem pn_0 : plainName "com/example/itinerant/itinerant/ArrayTour" = true := by first | (simp [plainName, overriddenIn]; done) | decide +kernel
theorem d1_0 : decode prog_1_method_1_code 0 = .ok (.aload_n 0, 1) := by decide +kernel
theorem d1_1 : decode prog_1_method_1_code 1 = .ok (.invokespecial 1, 3) := by decide +kernel
theorem d1_4 : decode prog_1_method_1_code 4 = .ok (.aload_n 0, 1) := by decide +kernel
theorem d1_5 : decode prog_1_method_1_code 5 = .ok (.bipush 64, 2) := by decide +kernel
theorem d1_7 : decode prog_1_method_1_code 7 = .ok (.newarray .int, 2) := by decide +kernel
theorem d1_9 : decode prog_1_method_1_code 9 = .ok (.putfield 7, 3) := by decide +kernel
theorem d1_12 : decode prog_1_method_1_code 12 = .ok (.aload_n 0, 1) := by decide +kernel
theorem d1_13 : decode prog_1_method_1_code 13 = .ok (.aload_n 1, 1) := by decide +kernel
theorem d1_14 : decode prog_1_method_1_code 14 = .ok (.arraylength, 1) := by decide +kernel
theorem d1_15 : decode prog_1_method_1_code 15 = .ok (.putfield 13, 3) := by decide +kernel
theorem d1_18 : decode prog_1_method_1_code 18 = .ok (.aload_n 0, 1) := by decide +kernel
theorem d1_19 : decode prog_1_method_1_code 19 = .ok (.aload_n 1, 1) := by decide +kernel
theorem d1_20 : decode prog_1_method_1_code 20 = .ok (.invokevirtual 17, 3) := by decide +kernel
theorem d1_23 : decode prog_1_method_1_code 23 = .ok (.checkcast 18, 3) := by decide +kernel
theorem d1_26 : decode prog_1_method_1_code 26 = .ok (.putfield 22, 3) := by decide +kernel
theorem d1_29 : decode prog_1_method_1_code 29 = .ok (.aload_n 0, 1) := by decide +kernel
theorem d1_30 : decode prog_1_method_1_code 30 = .ok (.aload_n 0, 1) := by decide +kernel
theorem d1_31 : decode prog_1_method_1_code 31 = .ok (.getfield 13, 3) := by decide +kernel
theorem d1_34 : decode prog_1_method_1_code 34 = .ok (.newarray .int, 2) := by decide +kernel
theorem d1_36 : decode prog_1_method_1_code 36 = .ok (.putfield 25, 3) := by decide +kernel
theorem d1_39 : decode prog_1_method_1_code 39 = .ok (.iconst 0, 1) := by decide +kernel
theorem d1_40 : decode prog_1_method_1_code 40 = .ok (.istore_n 2, 1) := by decide +kernel
theorem d1_41 : decode prog_1_method_1_code 41 = .ok (.iload_n 2, 1) := by decide +kernel
theorem d1_42 : decode prog_1_method_1_code 42 = .ok (.aload_n 0, 1) := by decide +kernel
theorem d1_43 : decode prog_1_method_1_code 43 = .ok (.getfield 13, 3) := by decide +kernel
theorem d1_46 : decode prog_1_method_1_code 46 = .ok (.if_icmp .ge 18, 3) := by decide +kernel
theorem d1_49 : decode prog_1_method_1_code 49 = .ok (.aload_n 0, 1) := by decide +kernel
theorem d1_50 : decode prog_1_method_1_code 50 = .ok (.getfield 25, 3) := by decide +kernel
theorem d1_53 : decode prog_1_method_1_code 53 = .ok (.aload_n 1, 1) := by decide +kernel
theorem d1_54 : decode prog_1_method_1_code 54 = .ok (.iload_n 2, 1) := by decide +kernel
theorem d1_55 : decode prog_1_method_1_code 55 = .ok (.iaload, 1) := by decide +kernel
theorem d1_56 : decode prog_1_method_1_code 56 = .ok (.iload_n 2, 1) := by decide +kernel
theorem d1_57 : decode prog_1_method_1_code 57 = .ok (.iastore, 1) := by decide +kernel
theorem d1_58 : decode prog_1_method_1_code 58 = .ok (.iinc 2 1, 3) := by decide +kernel
theorem d1_61 : decode prog_1_method_1_code 61 = .ok (.goto (-20), 3) := by decide +kernel
theorem d1_64 : decode prog_1_method_1_code 64 = .ok (.return_, 1) := by decide +kernel
theorem ef_1 (m : MethodId) (x0 : Addr) (x1 : Addr) : entryFrame m #[(.ref x0), (.ref x1)] 3 = mkF m 0 #[.val (.ref x0), .val (.ref x1), .unset] [] := by first | (simp [entryFrame, mkF, argsToLocals, Value.category]; done) | rfl
def Q1 (Z : State) (a0t : Addr) (r0 : Addr) (w_journal : Value) (w_size : Int32) (w_cities : Value) (w_places : Value) (kA : ClassId) (c0 : Int32) (c1 : Int32) (c2 : Int32) (c3 : Int32) (c4 : Int32) (c5 : Int32) (c6 : Int32) (h0 : Heap) (n0 : Nat) (v : Option Value) (h : Heap) (L : List Loc) : Prop := v = none ∧ Fr n0 L ∧ Keep h0 h [a0t] ∧ Exa Z h a0t "com/example/itinerant/itinerant/ArrayTour" ∧ (∃ pl : Addr, ∃ kP : ClassId, Fld Z h a0t "com/example/itinerant/itinerant/ArrayTour" "places" "[I" (.ref pl) ∧ Arh Z h pl kP .int (7 : Int32) [(c6, (.int (6 : Int32))), (c5, (.int (5 : Int32))), (c4, (.int (4 : Int32))), (c3, (.int (3 : Int32))), (c2, (.int (2 : Int32))), (c1, (.int (1 : Int32))), (c0, (.int (0 : Int32)))] [(.int (0 : Int32)), (.int (0 : Int32)), (.int (0 : Int32)), (.int (0 : Int32)), (.int (0 : Int32)), (.int (0 : Int32)), (.int (0 : Int32))] (.int (0 : Int32)))
set_option maxRecDepth 65536 in
set_option maxHeartbeats 40000000 in
theorem rm1 (l : Launch) (Z : State) (a0 : Array Value) (hw : ∀ d ∈ tables_1, d.before a0 Z = true) (ws : List Jvm.Cond) (a0t : Addr) (r0 : Addr) (w_journal : Value) (w_size : Int32) (w_cities : Value) (w_places : Value) (kA : ClassId) (c0 : Int32) (c1 : Int32) (c2 : Int32) (c3 : Int32) (c4 : Int32) (c5 : Int32) (c6 : Int32) (h0 : Heap) (n0 : Nat) (Z0 : n0 ≤ h0.size) (E_this : Exa Z h0 a0t "com/example/itinerant/itinerant/ArrayTour") (g_this : n0 ≤ a0t) (F_journal : Fld Z h0 a0t "com/example/itinerant/itinerant/ArrayTour" "journal" "[I" w_journal) (F_size : Fld Z h0 a0t "com/example/itinerant/itinerant/ArrayTour" "size" "I" (.int w_size)) (F_cities : Fld Z h0 a0t "com/example/itinerant/itinerant/ArrayTour" "cities" "[I" w_cities) (F_places : Fld Z h0 a0t "com/example/itinerant/itinerant/ArrayTour" "places" "[I" w_places) (V_r : Arv Z h0 r0 kA .int (7 : Int32) [(.int c0), (.int c1), (.int c2), (.int c3), (.int c4), (.int c5), (.int c6)] (.int (0 : Int32))) (E_r : Exa Z h0 r0 "[I") (ne_r : r0 ≠ a0t) (hb0 : ¬ (c0 < (0 : Int32)) ∧ c0 < (7 : Int32)) (hb1 : ¬ (c1 < (0 : Int32)) ∧ c1 < (7 : Int32)) (hb2 : ¬ (c2 < (0 : Int32)) ∧ c2 < (7 : Int32)) (hb3 : ¬ (c3 < (0 : Int32)) ∧ c3 < (7 : Int32)) (hb4 : ¬ (c4 < (0 : Int32)) ∧ c4 < (7 : Int32)) (hb5 : ¬ (c5 < (0 : Int32)) ∧ c5 < (7 : Int32)) (hb6 : ¬ (c6 < (0 : Int32)) ∧ c6 < (7 : Int32)) :
    MetFree l (⟨"com/example/itinerant/itinerant/ArrayTour", "<init>", "([I)V"⟩ : MethodName) (head1 (Jvm.Cond.code (⟨"com/example/itinerant/itinerant/ArrayTour", "<init>", "([I)V"⟩ : MethodName) prog_1_method_1_code 3 none :: ws) ({ frames := 1, cells := 3, slots := 78, locals := 15 } : Room)) (fun a U => a = #[(.ref a0t), (.ref r0)] ∧ Z.Warmed39 U.vm ∧ U.heap = h0) (fun _ _ _ _ _ => True) (fun _ U o U' => ∃ v L, o = .returned v ∧ Q1 Z a0t r0 w_journal w_size w_cities w_places kA c0 c1 c2 c3 c4 c5 c6 h0 n0 v U'.heap L ∧ FrameEnd U o U' L ({ frames := 1, cells := 3, slots := 78, locals := 15 } : Room).cells ({ frames := 1, cells := 3, slots := 78, locals := 15 } : Room).slots) := by
  refine MetFree.of_bodySF (plainFor_of_name pn_0) hisR ?_
  intro p e s m args below meth c s₁ Bd hml0 hP hK
  obtain ⟨rfl, hZ, hh⟩ := hP
  have hx := Bd.exec
  have hby := Bd.bytes
  have hml : c.maxLocals = 3 := hml0
  have hown : s.vm.findClass "com/example/itinerant/itinerant/ArrayTour" = some m.cls := findClass_of_methodNamed Bd.named
  have hnm := (name_of_methodNamed Bd.named Bd.method).1
  have X0 : Stand p l e ({ frames := 1, cells := 3, slots := 78, locals := 15 } : Room) s m #[(.ref a0t), (.ref r0)] below meth c s₁ [] 0 0 := Stand.of_body Bd
  have e0 : s₁.heap = h0 := by rw [← hh, Bd.state]; rfl
  have N0 := Fr.nil n0
  have K0 := Keep.refl h0 [a0t]
  have pre0 : ∀ t, Steps p.tables e below (s₁.setTop (mkF m 0 #[.val (.ref a0t), .val (.ref r0), .unset] [])) t → Steps p.tables e below (s₁.setTop (entryFrame m #[(.ref a0t), (.ref r0)] 3)) t := fun t k => castTop (ef_1 m a0t r0) k
  obtain ⟨T1, X1, e1, st1⟩ := initO X0 hx hZ hown (hw _ (List.mem_of_getElem? (i := 8) rfl)) (hw _ (List.mem_of_getElem? (i := 9) rfl)) (hw _ (List.mem_of_getElem? (i := 10) rfl)) e0 (g := (mkF m 1 #[.val (.ref a0t), .val (.ref r0), .unset] [(.ref a0t)])) rfl (by rw [hml]; rfl) rfl (hb hby d1_1) (by decide) (W := 0) (by show 2 * 0 + _ ≤ _; exact Nat.le_of_eq rfl) (by decide)
  obtain ⟨T2, h2, k2, X2, e2, E2, A2, Ea2, st2⟩ := newPE X1 hx hZ (hw _ (List.mem_of_getElem? (i := 1) rfl)) e1 (g := (mkF m 7 #[.val (.ref a0t), .val (.ref r0), .unset] [(.int (64 : Int32)), (.ref a0t)])) rfl (hb hby d1_7) rfl (by decide) (cap := 64) (by decide) (by decide) (by decide) (by decide) (ad := "[I") rfl
  obtain ⟨b2, g2⟩ : ∃ z, z = h0.size := ⟨_, rfl⟩
  rw [← g2] at A2 Ea2 st2
  have ne_a0t_b2 : a0t ≠ b2 := Nat.ne_of_lt (Nat.lt_of_lt_of_le E_this.lt (Nat.le_of_eq g2.symm))
  have ne_r0_b2 : r0 ≠ b2 := Nat.ne_of_lt (Nat.lt_of_lt_of_le E_r.lt (Nat.le_of_eq g2.symm))
  have gn_b2 : n0 ≤ b2 := Nat.le_trans Z0 (Nat.le_of_eq g2.symm)
  have sz_b2 : h0.size ≤ b2 := Nat.le_trans K0.1 (Nat.le_of_eq g2.symm)
  have E_a0t_2 := E_this.ext E2
  have F_journal_a0t_2 := F_journal.ext E2
  have F_size_a0t_2 := F_size.ext E2
  have F_cities_a0t_2 := F_cities.ext E2
  have F_places_a0t_2 := F_places.ext E2
  have E_r0_2 := E_r.ext E2
  have V_r0_2 := V_r.ext E2
  have Zz2 := Nat.le_trans Z0 E2.1
  have K2 := K0.ext E2
  have V_b2 : Arv Z h2 b2 k2 .int (64 : Int32) [] (.int (0 : Int32)) := (Arv.new A2 (by decide)).pad (pad_rep [] (.int (0 : Int32)) 0)
  obtain ⟨T3, h3, X3, e3, W3, st3⟩ := putF X2 hx hZ hown (host := "") (Or.inl (hw _ (List.mem_of_getElem? (i := 11) rfl))) Via.refl e2 F_journal_a0t_2 E_a0t_2 (Or.inl (hw _ (List.mem_of_getElem? (i := 12) rfl))) (hw _ (List.mem_of_getElem? (i := 3) rfl)) (ty := (.array .int)) (by decide) rfl rfl (g := (mkF m 9 #[.val (.ref a0t), .val (.ref r0), .unset] [(.ref b2), (.ref a0t)])) rfl rfl (hb hby d1_9)
  have E_r0_3 := E_r0_2.wr W3
  have V_r0_3 := V_r0_2.other W3 ne_r
  have E_b2_3 := Ea2.wr W3
  have V_b2_3 := V_b2.other W3 (Ne.symm ne_a0t_b2)
  have F_journal_a0t_3 := F_journal_a0t_2.same W3
  have F_size_a0t_3 := F_size_a0t_2.other W3 (Or.inr (slot_ne (Or.inr (hw _ (List.mem_of_getElem? (i := 14) rfl))) (Or.inl (hw _ (List.mem_of_getElem? (i := 12) rfl))) (by decide) (t := .int) (t' := (.array .int)) (by decide) (by decide)))
  have F_cities_a0t_3 := F_cities_a0t_2.other W3 (Or.inr (slot_ne (Or.inr (hw _ (List.mem_of_getElem? (i := 25) rfl))) (Or.inl (hw _ (List.mem_of_getElem? (i := 12) rfl))) (by decide) (t := (.array .int)) (t' := (.array .int)) (by decide) (by decide)))
  have F_places_a0t_3 := F_places_a0t_2.other W3 (Or.inr (slot_ne (Or.inr (hw _ (List.mem_of_getElem? (i := 27) rfl))) (Or.inl (hw _ (List.mem_of_getElem? (i := 12) rfl))) (by decide) (t := (.array .int)) (t' := (.array .int)) (by decide) (by decide)))
  have E_a0t_3 := E_a0t_2.wr W3
  have N3 := Fr.snoc X3 N0 g_this
  have Zz3 := Nat.le_trans Zz2 (Keep.of_wr W3).1
  have K3 : Keep h0 h3 [a0t] := K2.wr W3 (Or.inl (by simp))
  obtain ⟨cl4, Ar4, q4, S4, N4_, H4, G4⟩ := id V_r0_3
  obtain ⟨T5, h5, X5, e5, W5, st5⟩ := putF X3 hx hZ hown (host := "") (Or.inl (hw _ (List.mem_of_getElem? (i := 13) rfl))) Via.refl e3 F_size_a0t_3 E_a0t_3 (Or.inr ⟨(hw _ (List.mem_of_getElem? (i := 14) rfl)), rfl, hnm⟩) (hw _ (List.mem_of_getElem? (i := 3) rfl)) (ty := .int) (by decide) rfl rfl (g := (mkF m 15 #[.val (.ref a0t), .val (.ref r0), .unset] [(.int (7 : Int32)), (.ref a0t)])) rfl rfl (hb hby d1_15)
  have E_r0_5 := E_r0_3.wr W5
  have V_r0_5 := V_r0_3.other W5 ne_r
  have F_journal_a0t_5 := F_journal_a0t_3.other W5 (Or.inr (slot_ne (Or.inl (hw _ (List.mem_of_getElem? (i := 12) rfl))) (Or.inr (hw _ (List.mem_of_getElem? (i := 14) rfl))) (by decide) (t := (.array .int)) (t' := .int) (by decide) (by decide)))
  have F_size_a0t_5 := F_size_a0t_3.same W5
  have F_cities_a0t_5 := F_cities_a0t_3.other W5 (Or.inr (slot_ne (Or.inr (hw _ (List.mem_of_getElem? (i := 25) rfl))) (Or.inr (hw _ (List.mem_of_getElem? (i := 14) rfl))) (by decide) (t := (.array .int)) (t' := .int) (by decide) (by decide)))
  have F_places_a0t_5 := F_places_a0t_3.other W5 (Or.inr (slot_ne (Or.inr (hw _ (List.mem_of_getElem? (i := 27) rfl))) (Or.inr (hw _ (List.mem_of_getElem? (i := 14) rfl))) (by decide) (t := (.array .int)) (t' := .int) (by decide) (by decide)))
  have E_a0t_5 := E_a0t_3.wr W5
  have N5 := Fr.snoc X5 N3 g_this
  have Zz5 := Nat.le_trans Zz3 (Keep.of_wr W5).1
  have K5 : Keep h0 h5 [a0t] := K3.wr W5 (Or.inl (by simp))
  obtain ⟨T6, h6, X6, e6, E6, V6, Ea6, st6⟩ := cloneH X5 hx hZ hown (hw _ (List.mem_of_getElem? (i := 15) rfl)) (hw _ (List.mem_of_getElem? (i := 16) rfl)) (hw _ (List.mem_of_getElem? (i := 20) rfl)) (hw _ (List.mem_of_getElem? (i := 18) rfl)) (hw _ (List.mem_of_getElem? (i := 19) rfl)) (hw _ (List.mem_of_getElem? (i := 21) rfl)) e5 (Arv.arh V_r0_5) E_r0_5 (g := (mkF m 20 #[.val (.ref a0t), .val (.ref r0), .unset] [(.ref r0), (.ref a0t)])) rfl (by rw [hml]; rfl) rfl (hb hby d1_20) (by decide) (W := 1) (cap := 7) (by show 2 * 0 + _ ≤ _; exact Nat.le_of_eq rfl) (by decide) (by decide) (by decide) (by decide)
  obtain ⟨b6, g6⟩ : ∃ z, z = h5.size := ⟨_, rfl⟩
  rw [← g6] at V6 Ea6 st6
  have ne_a0t_b6 : a0t ≠ b6 := Nat.ne_of_lt (Nat.lt_of_lt_of_le E_a0t_5.lt (Nat.le_of_eq g6.symm))
  have ne_r0_b6 : r0 ≠ b6 := Nat.ne_of_lt (Nat.lt_of_lt_of_le E_r0_5.lt (Nat.le_of_eq g6.symm))
  have gn_b6 : n0 ≤ b6 := Nat.le_trans Zz5 (Nat.le_of_eq g6.symm)
  have sz_b6 : h0.size ≤ b6 := Nat.le_trans K5.1 (Nat.le_of_eq g6.symm)
  have E_a0t_6 := E_a0t_5.ext E6
  have F_journal_a0t_6 := F_journal_a0t_5.ext E6
  have F_size_a0t_6 := F_size_a0t_5.ext E6
  have F_cities_a0t_6 := F_cities_a0t_5.ext E6
  have F_places_a0t_6 := F_places_a0t_5.ext E6
  have E_r0_6 := E_r0_5.ext E6
  have V_r0_6 := V_r0_5.ext E6
  have Zz6 := Nat.le_trans Zz5 E6.1
  have K6 := K5.ext E6
  obtain ⟨T7, X7, e7, st7⟩ := castY X6 hx hZ hown (hw _ (List.mem_of_getElem? (i := 22) rfl)) e6 (Ins.self Ea6) (g := (mkF m 23 #[.val (.ref a0t), .val (.ref r0), .unset] [(.ref b6), (.ref a0t)])) rfl rfl (hb hby d1_23)
  obtain ⟨T8, h8, X8, e8, W8, st8⟩ := putF X7 hx hZ hown (host := "") (Or.inl (hw _ (List.mem_of_getElem? (i := 24) rfl))) Via.refl e7 F_cities_a0t_6 E_a0t_6 (Or.inr ⟨(hw _ (List.mem_of_getElem? (i := 25) rfl)), rfl, hnm⟩) (hw _ (List.mem_of_getElem? (i := 3) rfl)) (ty := (.array .int)) (by decide) rfl rfl (g := (mkF m 26 #[.val (.ref a0t), .val (.ref r0), .unset] [(.ref b6), (.ref a0t)])) rfl rfl (hb hby d1_26)
  have E_r0_8 := E_r0_6.wr W8
  have V_r0_8 := V_r0_6.other W8 ne_r
  have E_b6_8 := Ea6.wr W8
  have V_b6_8 := V6.other W8 (Ne.symm ne_a0t_b6)
  have F_journal_a0t_8 := F_journal_a0t_6.other W8 (Or.inr (slot_ne (Or.inl (hw _ (List.mem_of_getElem? (i := 12) rfl))) (Or.inr (hw _ (List.mem_of_getElem? (i := 25) rfl))) (by decide) (t := (.array .int)) (t' := (.array .int)) (by decide) (by decide)))
  have F_size_a0t_8 := F_size_a0t_6.other W8 (Or.inr (slot_ne (Or.inr (hw _ (List.mem_of_getElem? (i := 14) rfl))) (Or.inr (hw _ (List.mem_of_getElem? (i := 25) rfl))) (by decide) (t := .int) (t' := (.array .int)) (by decide) (by decide)))
  have F_cities_a0t_8 := F_cities_a0t_6.same W8
  have F_places_a0t_8 := F_places_a0t_6.other W8 (Or.inr (slot_ne (Or.inr (hw _ (List.mem_of_getElem? (i := 27) rfl))) (Or.inr (hw _ (List.mem_of_getElem? (i := 25) rfl))) (by decide) (t := (.array .int)) (t' := (.array .int)) (by decide) (by decide)))
  have E_a0t_8 := E_a0t_6.wr W8
  have N8 := Fr.snoc X8 N5 g_this
  have Zz8 := Nat.le_trans Zz6 (Keep.of_wr W8).1
  have K8 : Keep h0 h8 [a0t] := K6.wr W8 (Or.inl (by simp))
  obtain ⟨T9, X9, e9, st9⟩ := getF X8 hx hZ hown (host := "") (Or.inl (hw _ (List.mem_of_getElem? (i := 13) rfl))) Via.refl e8 F_size_a0t_8 (g := (mkF m 31 #[.val (.ref a0t), .val (.ref r0), .unset] [(.ref a0t), (.ref a0t)])) rfl rfl (hb hby d1_31)
  obtain ⟨T10, h10, k10, X10, e10, E10, A10, Ea10, st10⟩ := newPE X9 hx hZ (hw _ (List.mem_of_getElem? (i := 1) rfl)) e9 (g := (mkF m 34 #[.val (.ref a0t), .val (.ref r0), .unset] [(.int (7 : Int32)), (.ref a0t)])) rfl (hb hby d1_34) rfl (by decide) (cap := 7) (by decide) (by decide) (by decide) (by decide) (ad := "[I") rfl
  obtain ⟨b10, g10⟩ : ∃ z, z = h8.size := ⟨_, rfl⟩
  rw [← g10] at A10 Ea10 st10
  have ne_a0t_b10 : a0t ≠ b10 := Nat.ne_of_lt (Nat.lt_of_lt_of_le E_a0t_8.lt (Nat.le_of_eq g10.symm))
  have ne_r0_b10 : r0 ≠ b10 := Nat.ne_of_lt (Nat.lt_of_lt_of_le E_r0_8.lt (Nat.le_of_eq g10.symm))
  have gn_b10 : n0 ≤ b10 := Nat.le_trans Zz8 (Nat.le_of_eq g10.symm)
  have sz_b10 : h0.size ≤ b10 := Nat.le_trans K8.1 (Nat.le_of_eq g10.symm)
  have E_a0t_10 := E_a0t_8.ext E10
  have F_journal_a0t_10 := F_journal_a0t_8.ext E10
  have F_size_a0t_10 := F_size_a0t_8.ext E10
  have F_cities_a0t_10 := F_cities_a0t_8.ext E10
  have F_places_a0t_10 := F_places_a0t_8.ext E10
  have E_r0_10 := E_r0_8.ext E10
  have V_r0_10 := V_r0_8.ext E10
  have Zz10 := Nat.le_trans Zz8 E10.1
  have K10 := K8.ext E10
  have V_b10 : Arv Z h10 b10 k10 .int (7 : Int32) [(.int (0 : Int32)), (.int (0 : Int32)), (.int (0 : Int32)), (.int (0 : Int32)), (.int (0 : Int32)), (.int (0 : Int32)), (.int (0 : Int32))] (.int (0 : Int32)) := (Arv.new A10 (by decide)).pad (pad_rep [] (.int (0 : Int32)) 7)
  obtain ⟨T11, h11, X11, e11, W11, st11⟩ := putF X10 hx hZ hown (host := "") (Or.inl (hw _ (List.mem_of_getElem? (i := 26) rfl))) Via.refl e10 F_places_a0t_10 E_a0t_10 (Or.inr ⟨(hw _ (List.mem_of_getElem? (i := 27) rfl)), rfl, hnm⟩) (hw _ (List.mem_of_getElem? (i := 3) rfl)) (ty := (.array .int)) (by decide) rfl rfl (g := (mkF m 36 #[.val (.ref a0t), .val (.ref r0), .unset] [(.ref b10), (.ref a0t)])) rfl rfl (hb hby d1_36)
  have E_r0_11 := E_r0_10.wr W11
  have V_r0_11 := V_r0_10.other W11 ne_r
  have E_b10_11 := Ea10.wr W11
  have V_b10_11 := V_b10.other W11 (Ne.symm ne_a0t_b10)
  have F_journal_a0t_11 := F_journal_a0t_10.other W11 (Or.inr (slot_ne (Or.inl (hw _ (List.mem_of_getElem? (i := 12) rfl))) (Or.inr (hw _ (List.mem_of_getElem? (i := 27) rfl))) (by decide) (t := (.array .int)) (t' := (.array .int)) (by decide) (by decide)))
  have F_size_a0t_11 := F_size_a0t_10.other W11 (Or.inr (slot_ne (Or.inr (hw _ (List.mem_of_getElem? (i := 14) rfl))) (Or.inr (hw _ (List.mem_of_getElem? (i := 27) rfl))) (by decide) (t := .int) (t' := (.array .int)) (by decide) (by decide)))
  have F_cities_a0t_11 := F_cities_a0t_10.other W11 (Or.inr (slot_ne (Or.inr (hw _ (List.mem_of_getElem? (i := 25) rfl))) (Or.inr (hw _ (List.mem_of_getElem? (i := 27) rfl))) (by decide) (t := (.array .int)) (t' := (.array .int)) (by decide) (by decide)))
  have F_places_a0t_11 := F_places_a0t_10.same W11
  have E_a0t_11 := E_a0t_10.wr W11
  have N11 := Fr.snoc X11 N8 g_this
  have Zz11 := Nat.le_trans Zz10 (Keep.of_wr W11).1
  have K11 : Keep h0 h11 [a0t] := K10.wr W11 (Or.inl (by simp))
  obtain ⟨T12, X12, e12, st12⟩ := getF X11 hx hZ hown (host := "") (Or.inl (hw _ (List.mem_of_getElem? (i := 13) rfl))) Via.refl e11 F_size_a0t_11 (g := (mkF m 43 #[.val (.ref a0t), .val (.ref r0), .val (.int (0 : Int32))] [(.ref a0t), (.int (0 : Int32))])) rfl rfl (hb hby d1_43)
  obtain ⟨T13, X13, e13, st13⟩ := getF X12 hx hZ hown (host := "") (Or.inl (hw _ (List.mem_of_getElem? (i := 26) rfl))) Via.refl e12 F_places_a0t_11 (g := (mkF m 50 #[.val (.ref a0t), .val (.ref r0), .val (.int (0 : Int32))] [(.ref a0t)])) rfl rfl (hb hby d1_50)
  obtain ⟨cl14, Ar14, q14, S14, N14_, H14, G14⟩ := id V_r0_11
  have hin14 : ¬ ((0 : Int32) < 0 ∨ cl14.slots.size ≤ ((0 : Int32)).toNatClampNeg) := (inb_of S14 ⟨by decide, by decide⟩)
  have hat14 : cl14.slots[((0 : Int32)).toNatClampNeg]? = some (.int c0) := (Has.at H14 hin14 rfl)
  obtain ⟨cl15, Ar15, q15, S15, N15_, H15, G15⟩ := id V_b10_11
  have hin15 : ¬ (c0 < 0 ∨ cl15.slots.size ≤ (c0).toNatClampNeg) := inb_of S15 hb0
  obtain ⟨T15, h15, X15, e15, W15, st15⟩ := stI X13 hx hZ e13 Ar15 (j := c0) hin15 (g := (mkF m 57 #[.val (.ref a0t), .val (.ref r0), .val (.int (0 : Int32))] [(.int (0 : Int32)), (.int c0), (.ref b10)])) rfl rfl (hb hby d1_57)
  have V_b10_15 : Arh Z h15 b10 k10 .int (7 : Int32) [(c0, (.int (0 : Int32)))] [(.int (0 : Int32)), (.int (0 : Int32)), (.int (0 : Int32)), (.int (0 : Int32)), (.int (0 : Int32)), (.int (0 : Int32)), (.int (0 : Int32))] (.int (0 : Int32)) := Arh.push Ar15 q15 S15 N15_ H15 G15 rfl W15 hin15
  have E_a0t_15 := E_a0t_11.wr W15
  have F_journal_a0t_15 := F_journal_a0t_11.other W15 (Or.inl ne_a0t_b10)
  have F_size_a0t_15 := F_size_a0t_11.other W15 (Or.inl ne_a0t_b10)
  have F_cities_a0t_15 := F_cities_a0t_11.other W15 (Or.inl ne_a0t_b10)
  have F_places_a0t_15 := F_places_a0t_11.other W15 (Or.inl ne_a0t_b10)
  have E_r0_15 := E_r0_11.wr W15
  have V_r0_15 := V_r0_11.other W15 ne_r0_b10
  have E_b10_15 := E_b10_11.wr W15
  have N15 := Fr.snoc X15 N11 gn_b10
  have Zz15 := Nat.le_trans Zz11 (Keep.of_wr W15).1
  have K15 : Keep h0 h15 [a0t] := K11.wr W15 (Or.inr sz_b10)
  obtain ⟨T16, X16, e16, st16⟩ := getF X15 hx hZ hown (host := "") (Or.inl (hw _ (List.mem_of_getElem? (i := 13) rfl))) Via.refl e15 F_size_a0t_15 (g := (mkF m 43 #[.val (.ref a0t), .val (.ref r0), .val (.int (1 : Int32))] [(.ref a0t), (.int (1 : Int32))])) rfl rfl (hb hby d1_43)
  obtain ⟨T17, X17, e17, st17⟩ := getF X16 hx hZ hown (host := "") (Or.inl (hw _ (List.mem_of_getElem? (i := 26) rfl))) Via.refl e16 F_places_a0t_15 (g := (mkF m 50 #[.val (.ref a0t), .val (.ref r0), .val (.int (1 : Int32))] [(.ref a0t)])) rfl rfl (hb hby d1_50)
  obtain ⟨cl18, Ar18, q18, S18, N18_, H18, G18⟩ := id V_r0_15
  have hin18 : ¬ ((1 : Int32) < 0 ∨ cl18.slots.size ≤ ((1 : Int32)).toNatClampNeg) := (inb_of S18 ⟨by decide, by decide⟩)
  have hat18 : cl18.slots[((1 : Int32)).toNatClampNeg]? = some (.int c1) := (Has.at H18 hin18 rfl)
  obtain ⟨cl19, Ar19, q19, S19, N19_, H19, G19⟩ := id V_b10_15
  have hin19 : ¬ (c1 < 0 ∨ cl19.slots.size ≤ (c1).toNatClampNeg) := inb_of S19 hb1
  obtain ⟨T19, h19, X19, e19, W19, st19⟩ := stI X17 hx hZ e17 Ar19 (j := c1) hin19 (g := (mkF m 57 #[.val (.ref a0t), .val (.ref r0), .val (.int (1 : Int32))] [(.int (1 : Int32)), (.int c1), (.ref b10)])) rfl rfl (hb hby d1_57)
  have V_b10_19 : Arh Z h19 b10 k10 .int (7 : Int32) [(c1, (.int (1 : Int32))), (c0, (.int (0 : Int32)))] [(.int (0 : Int32)), (.int (0 : Int32)), (.int (0 : Int32)), (.int (0 : Int32)), (.int (0 : Int32)), (.int (0 : Int32)), (.int (0 : Int32))] (.int (0 : Int32)) := Arh.push Ar19 q19 S19 N19_ H19 G19 rfl W19 hin19
  have E_a0t_19 := E_a0t_15.wr W19
  have F_journal_a0t_19 := F_journal_a0t_15.other W19 (Or.inl ne_a0t_b10)
  have F_size_a0t_19 := F_size_a0t_15.other W19 (Or.inl ne_a0t_b10)
  have F_cities_a0t_19 := F_cities_a0t_15.other W19 (Or.inl ne_a0t_b10)
  have F_places_a0t_19 := F_places_a0t_15.other W19 (Or.inl ne_a0t_b10)
  have E_r0_19 := E_r0_15.wr W19
  have V_r0_19 := V_r0_15.other W19 ne_r0_b10
  have E_b10_19 := E_b10_15.wr W19
  have N19 := Fr.snoc X19 N15 gn_b10
  have Zz19 := Nat.le_trans Zz15 (Keep.of_wr W19).1
  have K19 : Keep h0 h19 [a0t] := K15.wr W19 (Or.inr sz_b10)
  obtain ⟨T20, X20, e20, st20⟩ := getF X19 hx hZ hown (host := "") (Or.inl (hw _ (List.mem_of_getElem? (i := 13) rfl))) Via.refl e19 F_size_a0t_19 (g := (mkF m 43 #[.val (.ref a0t), .val (.ref r0), .val (.int (2 : Int32))] [(.ref a0t), (.int (2 : Int32))])) rfl rfl (hb hby d1_43)
  obtain ⟨T21, X21, e21, st21⟩ := getF X20 hx hZ hown (host := "") (Or.inl (hw _ (List.mem_of_getElem? (i := 26) rfl))) Via.refl e20 F_places_a0t_19 (g := (mkF m 50 #[.val (.ref a0t), .val (.ref r0), .val (.int (2 : Int32))] [(.ref a0t)])) rfl rfl (hb hby d1_50)
  obtain ⟨cl22, Ar22, q22, S22, N22_, H22, G22⟩ := id V_r0_19
  have hin22 : ¬ ((2 : Int32) < 0 ∨ cl22.slots.size ≤ ((2 : Int32)).toNatClampNeg) := (inb_of S22 ⟨by decide, by decide⟩)
  have hat22 : cl22.slots[((2 : Int32)).toNatClampNeg]? = some (.int c2) := (Has.at H22 hin22 rfl)
  obtain ⟨cl23, Ar23, q23, S23, N23_, H23, G23⟩ := id V_b10_19
  have hin23 : ¬ (c2 < 0 ∨ cl23.slots.size ≤ (c2).toNatClampNeg) := inb_of S23 hb2
  obtain ⟨T23, h23, X23, e23, W23, st23⟩ := stI X21 hx hZ e21 Ar23 (j := c2) hin23 (g := (mkF m 57 #[.val (.ref a0t), .val (.ref r0), .val (.int (2 : Int32))] [(.int (2 : Int32)), (.int c2), (.ref b10)])) rfl rfl (hb hby d1_57)
  have V_b10_23 : Arh Z h23 b10 k10 .int (7 : Int32) [(c2, (.int (2 : Int32))), (c1, (.int (1 : Int32))), (c0, (.int (0 : Int32)))] [(.int (0 : Int32)), (.int (0 : Int32)), (.int (0 : Int32)), (.int (0 : Int32)), (.int (0 : Int32)), (.int (0 : Int32)), (.int (0 : Int32))] (.int (0 : Int32)) := Arh.push Ar23 q23 S23 N23_ H23 G23 rfl W23 hin23
  have E_a0t_23 := E_a0t_19.wr W23
  have F_journal_a0t_23 := F_journal_a0t_19.other W23 (Or.inl ne_a0t_b10)
  have F_size_a0t_23 := F_size_a0t_19.other W23 (Or.inl ne_a0t_b10)
  have F_cities_a0t_23 := F_cities_a0t_19.other W23 (Or.inl ne_a0t_b10)
  have F_places_a0t_23 := F_places_a0t_19.other W23 (Or.inl ne_a0t_b10)
  have E_r0_23 := E_r0_19.wr W23
  have V_r0_23 := V_r0_19.other W23 ne_r0_b10
  have E_b10_23 := E_b10_19.wr W23
  have N23 := Fr.snoc X23 N19 gn_b10
  have Zz23 := Nat.le_trans Zz19 (Keep.of_wr W23).1
  have K23 : Keep h0 h23 [a0t] := K19.wr W23 (Or.inr sz_b10)
  obtain ⟨T24, X24, e24, st24⟩ := getF X23 hx hZ hown (host := "") (Or.inl (hw _ (List.mem_of_getElem? (i := 13) rfl))) Via.refl e23 F_size_a0t_23 (g := (mkF m 43 #[.val (.ref a0t), .val (.ref r0), .val (.int (3 : Int32))] [(.ref a0t), (.int (3 : Int32))])) rfl rfl (hb hby d1_43)
  obtain ⟨T25, X25, e25, st25⟩ := getF X24 hx hZ hown (host := "") (Or.inl (hw _ (List.mem_of_getElem? (i := 26) rfl))) Via.refl e24 F_places_a0t_23 (g := (mkF m 50 #[.val (.ref a0t), .val (.ref r0), .val (.int (3 : Int32))] [(.ref a0t)])) rfl rfl (hb hby d1_50)
  obtain ⟨cl26, Ar26, q26, S26, N26_, H26, G26⟩ := id V_r0_23
  have hin26 : ¬ ((3 : Int32) < 0 ∨ cl26.slots.size ≤ ((3 : Int32)).toNatClampNeg) := (inb_of S26 ⟨by decide, by decide⟩)
  have hat26 : cl26.slots[((3 : Int32)).toNatClampNeg]? = some (.int c3) := (Has.at H26 hin26 rfl)
  obtain ⟨cl27, Ar27, q27, S27, N27_, H27, G27⟩ := id V_b10_23
  have hin27 : ¬ (c3 < 0 ∨ cl27.slots.size ≤ (c3).toNatClampNeg) := inb_of S27 hb3
  obtain ⟨T27, h27, X27, e27, W27, st27⟩ := stI X25 hx hZ e25 Ar27 (j := c3) hin27 (g := (mkF m 57 #[.val (.ref a0t), .val (.ref r0), .val (.int (3 : Int32))] [(.int (3 : Int32)), (.int c3), (.ref b10)])) rfl rfl (hb hby d1_57)
  have V_b10_27 : Arh Z h27 b10 k10 .int (7 : Int32) [(c3, (.int (3 : Int32))), (c2, (.int (2 : Int32))), (c1, (.int (1 : Int32))), (c0, (.int (0 : Int32)))] [(.int (0 : Int32)), (.int (0 : Int32)), (.int (0 : Int32)), (.int (0 : Int32)), (.int (0 : Int32)), (.int (0 : Int32)), (.int (0 : Int32))] (.int (0 : Int32)) := Arh.push Ar27 q27 S27 N27_ H27 G27 rfl W27 hin27
  have E_a0t_27 := E_a0t_23.wr W27
  have F_journal_a0t_27 := F_journal_a0t_23.other W27 (Or.inl ne_a0t_b10)
  have F_size_a0t_27 := F_size_a0t_23.other W27 (Or.inl ne_a0t_b10)
  have F_cities_a0t_27 := F_cities_a0t_23.other W27 (Or.inl ne_a0t_b10)
  have F_places_a0t_27 := F_places_a0t_23.other W27 (Or.inl ne_a0t_b10)
  have E_r0_27 := E_r0_23.wr W27
  have V_r0_27 := V_r0_23.other W27 ne_r0_b10
  have E_b10_27 := E_b10_23.wr W27
  have N27 := Fr.snoc X27 N23 gn_b10
  have Zz27 := Nat.le_trans Zz23 (Keep.of_wr W27).1
  have K27 : Keep h0 h27 [a0t] := K23.wr W27 (Or.inr sz_b10)
  obtain ⟨T28, X28, e28, st28⟩ := getF X27 hx hZ hown (host := "") (Or.inl (hw _ (List.mem_of_getElem? (i := 13) rfl))) Via.refl e27 F_size_a0t_27 (g := (mkF m 43 #[.val (.ref a0t), .val (.ref r0), .val (.int (4 : Int32))] [(.ref a0t), (.int (4 : Int32))])) rfl rfl (hb hby d1_43)
  obtain ⟨T29, X29, e29, st29⟩ := getF X28 hx hZ hown (host := "") (Or.inl (hw _ (List.mem_of_getElem? (i := 26) rfl))) Via.refl e28 F_places_a0t_27 (g := (mkF m 50 #[.val (.ref a0t), .val (.ref r0), .val (.int (4 : Int32))] [(.ref a0t)])) rfl rfl (hb hby d1_50)
  obtain ⟨cl30, Ar30, q30, S30, N30_, H30, G30⟩ := id V_r0_27
  have hin30 : ¬ ((4 : Int32) < 0 ∨ cl30.slots.size ≤ ((4 : Int32)).toNatClampNeg) := (inb_of S30 ⟨by decide, by decide⟩)
  have hat30 : cl30.slots[((4 : Int32)).toNatClampNeg]? = some (.int c4) := (Has.at H30 hin30 rfl)
  obtain ⟨cl31, Ar31, q31, S31, N31_, H31, G31⟩ := id V_b10_27
  have hin31 : ¬ (c4 < 0 ∨ cl31.slots.size ≤ (c4).toNatClampNeg) := inb_of S31 hb4
  obtain ⟨T31, h31, X31, e31, W31, st31⟩ := stI X29 hx hZ e29 Ar31 (j := c4) hin31 (g := (mkF m 57 #[.val (.ref a0t), .val (.ref r0), .val (.int (4 : Int32))] [(.int (4 : Int32)), (.int c4), (.ref b10)])) rfl rfl (hb hby d1_57)
  have V_b10_31 : Arh Z h31 b10 k10 .int (7 : Int32) [(c4, (.int (4 : Int32))), (c3, (.int (3 : Int32))), (c2, (.int (2 : Int32))), (c1, (.int (1 : Int32))), (c0, (.int (0 : Int32)))] [(.int (0 : Int32)), (.int (0 : Int32)), (.int (0 : Int32)), (.int (0 : Int32)), (.int (0 : Int32)), (.int (0 : Int32)), (.int (0 : Int32))] (.int (0 : Int32)) := Arh.push Ar31 q31 S31 N31_ H31 G31 rfl W31 hin31
  have E_a0t_31 := E_a0t_27.wr W31
  have F_journal_a0t_31 := F_journal_a0t_27.other W31 (Or.inl ne_a0t_b10)
  have F_size_a0t_31 := F_size_a0t_27.other W31 (Or.inl ne_a0t_b10)
  have F_cities_a0t_31 := F_cities_a0t_27.other W31 (Or.inl ne_a0t_b10)
  have F_places_a0t_31 := F_places_a0t_27.other W31 (Or.inl ne_a0t_b10)
  have E_r0_31 := E_r0_27.wr W31
  have V_r0_31 := V_r0_27.other W31 ne_r0_b10
  have E_b10_31 := E_b10_27.wr W31
  have N31 := Fr.snoc X31 N27 gn_b10
  have Zz31 := Nat.le_trans Zz27 (Keep.of_wr W31).1
  have K31 : Keep h0 h31 [a0t] := K27.wr W31 (Or.inr sz_b10)
  obtain ⟨T32, X32, e32, st32⟩ := getF X31 hx hZ hown (host := "") (Or.inl (hw _ (List.mem_of_getElem? (i := 13) rfl))) Via.refl e31 F_size_a0t_31 (g := (mkF m 43 #[.val (.ref a0t), .val (.ref r0), .val (.int (5 : Int32))] [(.ref a0t), (.int (5 : Int32))])) rfl rfl (hb hby d1_43)
  obtain ⟨T33, X33, e33, st33⟩ := getF X32 hx hZ hown (host := "") (Or.inl (hw _ (List.mem_of_getElem? (i := 26) rfl))) Via.refl e32 F_places_a0t_31 (g := (mkF m 50 #[.val (.ref a0t), .val (.ref r0), .val (.int (5 : Int32))] [(.ref a0t)])) rfl rfl (hb hby d1_50)
  obtain ⟨cl34, Ar34, q34, S34, N34_, H34, G34⟩ := id V_r0_31
  have hin34 : ¬ ((5 : Int32) < 0 ∨ cl34.slots.size ≤ ((5 : Int32)).toNatClampNeg) := (inb_of S34 ⟨by decide, by decide⟩)
  have hat34 : cl34.slots[((5 : Int32)).toNatClampNeg]? = some (.int c5) := (Has.at H34 hin34 rfl)
  obtain ⟨cl35, Ar35, q35, S35, N35_, H35, G35⟩ := id V_b10_31
  have hin35 : ¬ (c5 < 0 ∨ cl35.slots.size ≤ (c5).toNatClampNeg) := inb_of S35 hb5
  obtain ⟨T35, h35, X35, e35, W35, st35⟩ := stI X33 hx hZ e33 Ar35 (j := c5) hin35 (g := (mkF m 57 #[.val (.ref a0t), .val (.ref r0), .val (.int (5 : Int32))] [(.int (5 : Int32)), (.int c5), (.ref b10)])) rfl rfl (hb hby d1_57)
  have V_b10_35 : Arh Z h35 b10 k10 .int (7 : Int32) [(c5, (.int (5 : Int32))), (c4, (.int (4 : Int32))), (c3, (.int (3 : Int32))), (c2, (.int (2 : Int32))), (c1, (.int (1 : Int32))), (c0, (.int (0 : Int32)))] [(.int (0 : Int32)), (.int (0 : Int32)), (.int (0 : Int32)), (.int (0 : Int32)), (.int (0 : Int32)), (.int (0 : Int32)), (.int (0 : Int32))] (.int (0 : Int32)) := Arh.push Ar35 q35 S35 N35_ H35 G35 rfl W35 hin35
  have E_a0t_35 := E_a0t_31.wr W35
  have F_journal_a0t_35 := F_journal_a0t_31.other W35 (Or.inl ne_a0t_b10)
  have F_size_a0t_35 := F_size_a0t_31.other W35 (Or.inl ne_a0t_b10)
  have F_cities_a0t_35 := F_cities_a0t_31.other W35 (Or.inl ne_a0t_b10)
  have F_places_a0t_35 := F_places_a0t_31.other W35 (Or.inl ne_a0t_b10)
  have E_r0_35 := E_r0_31.wr W35
  have V_r0_35 := V_r0_31.other W35 ne_r0_b10
  have E_b10_35 := E_b10_31.wr W35
  have N35 := Fr.snoc X35 N31 gn_b10
  have Zz35 := Nat.le_trans Zz31 (Keep.of_wr W35).1
  have K35 : Keep h0 h35 [a0t] := K31.wr W35 (Or.inr sz_b10)
  obtain ⟨T36, X36, e36, st36⟩ := getF X35 hx hZ hown (host := "") (Or.inl (hw _ (List.mem_of_getElem? (i := 13) rfl))) Via.refl e35 F_size_a0t_35 (g := (mkF m 43 #[.val (.ref a0t), .val (.ref r0), .val (.int (6 : Int32))] [(.ref a0t), (.int (6 : Int32))])) rfl rfl (hb hby d1_43)
  obtain ⟨T37, X37, e37, st37⟩ := getF X36 hx hZ hown (host := "") (Or.inl (hw _ (List.mem_of_getElem? (i := 26) rfl))) Via.refl e36 F_places_a0t_35 (g := (mkF m 50 #[.val (.ref a0t), .val (.ref r0), .val (.int (6 : Int32))] [(.ref a0t)])) rfl rfl (hb hby d1_50)
  obtain ⟨cl38, Ar38, q38, S38, N38_, H38, G38⟩ := id V_r0_35
  have hin38 : ¬ ((6 : Int32) < 0 ∨ cl38.slots.size ≤ ((6 : Int32)).toNatClampNeg) := (inb_of S38 ⟨by decide, by decide⟩)
  have hat38 : cl38.slots[((6 : Int32)).toNatClampNeg]? = some (.int c6) := (Has.at H38 hin38 rfl)
  obtain ⟨cl39, Ar39, q39, S39, N39_, H39, G39⟩ := id V_b10_35
  have hin39 : ¬ (c6 < 0 ∨ cl39.slots.size ≤ (c6).toNatClampNeg) := inb_of S39 hb6
  obtain ⟨T39, h39, X39, e39, W39, st39⟩ := stI X37 hx hZ e37 Ar39 (j := c6) hin39 (g := (mkF m 57 #[.val (.ref a0t), .val (.ref r0), .val (.int (6 : Int32))] [(.int (6 : Int32)), (.int c6), (.ref b10)])) rfl rfl (hb hby d1_57)
  have V_b10_39 : Arh Z h39 b10 k10 .int (7 : Int32) [(c6, (.int (6 : Int32))), (c5, (.int (5 : Int32))), (c4, (.int (4 : Int32))), (c3, (.int (3 : Int32))), (c2, (.int (2 : Int32))), (c1, (.int (1 : Int32))), (c0, (.int (0 : Int32)))] [(.int (0 : Int32)), (.int (0 : Int32)), (.int (0 : Int32)), (.int (0 : Int32)), (.int (0 : Int32)), (.int (0 : Int32)), (.int (0 : Int32))] (.int (0 : Int32)) := Arh.push Ar39 q39 S39 N39_ H39 G39 rfl W39 hin39
  have E_a0t_39 := E_a0t_35.wr W39
  have F_journal_a0t_39 := F_journal_a0t_35.other W39 (Or.inl ne_a0t_b10)
  have F_size_a0t_39 := F_size_a0t_35.other W39 (Or.inl ne_a0t_b10)
  have F_cities_a0t_39 := F_cities_a0t_35.other W39 (Or.inl ne_a0t_b10)
  have F_places_a0t_39 := F_places_a0t_35.other W39 (Or.inl ne_a0t_b10)
  have E_r0_39 := E_r0_35.wr W39
  have V_r0_39 := V_r0_35.other W39 ne_r0_b10
  have E_b10_39 := E_b10_35.wr W39
  have N39 := Fr.snoc X39 N35 gn_b10
  have Zz39 := Nat.le_trans Zz35 (Keep.of_wr W39).1
  have K39 : Keep h0 h39 [a0t] := K35.wr W39 (Or.inr sz_b10)
  obtain ⟨T40, X40, e40, st40⟩ := getF X39 hx hZ hown (host := "") (Or.inl (hw _ (List.mem_of_getElem? (i := 13) rfl))) Via.refl e39 F_size_a0t_39 (g := (mkF m 43 #[.val (.ref a0t), .val (.ref r0), .val (.int (7 : Int32))] [(.ref a0t), (.int (7 : Int32))])) rfl rfl (hb hby d1_43)
  obtain ⟨fs, hr, hrun, hended, hW, hsame⟩ := X40.leave (v := none) (fun _ => rfl)
  refine ⟨_, _, pre0 _ ?_, hrun, hended, _, _, rfl, ?_, ⟨_, rfl⟩, hW, hsame.mono (by decide) (by decide)⟩
  · show Steps p.tables e below (s₁.setTop (mkF m 0 #[.val (.ref a0t), .val (.ref r0), .unset] [])) _
    refine XS.aloadN X0.here hx rfl (hb hby d1_0) rfl rfl ?_
    show Steps p.tables e below (s₁.setTop (mkF m 1 #[.val (.ref a0t), .val (.ref r0), .unset] [(.ref a0t)])) _
    refine st1 _ ?_
    show Steps p.tables e below (T1.setTop (mkF m 4 #[.val (.ref a0t), .val (.ref r0), .unset] [])) _
    refine XS.aloadN X1.here hx rfl (hb hby d1_4) rfl rfl ?_
    show Steps p.tables e below (T1.setTop (mkF m 5 #[.val (.ref a0t), .val (.ref r0), .unset] [(.ref a0t)])) _
    refine XS.bipush X1.here hx rfl (hb hby d1_5) ?_
    show Steps p.tables e below (T1.setTop (mkF m 7 #[.val (.ref a0t), .val (.ref r0), .unset] [(.int (64 : Int32)), (.ref a0t)])) _
    refine st2 _ ?_
    show Steps p.tables e below (T2.setTop (mkF m 9 #[.val (.ref a0t), .val (.ref r0), .unset] [(.ref b2), (.ref a0t)])) _
    refine st3 _ ?_
    show Steps p.tables e below (T3.setTop (mkF m 12 #[.val (.ref a0t), .val (.ref r0), .unset] [])) _
    refine XS.aloadN X3.here hx rfl (hb hby d1_12) rfl rfl ?_
    show Steps p.tables e below (T3.setTop (mkF m 13 #[.val (.ref a0t), .val (.ref r0), .unset] [(.ref a0t)])) _
    refine XS.aloadN X3.here hx rfl (hb hby d1_13) rfl rfl ?_
    show Steps p.tables e below (T3.setTop (mkF m 14 #[.val (.ref a0t), .val (.ref r0), .unset] [(.ref r0), (.ref a0t)])) _
    refine X3.arraylength hx (by rw [e3]; exact Ar4.1) (State.isArrayOf_alike hZ.alike Ar4.2.1) (g := (mkF m 14 #[.val (.ref a0t), .val (.ref r0), .unset] [(.ref r0), (.ref a0t)])) rfl rfl (hb hby d1_14) _ ?_
    rw [len_of S4 N4_]
    show Steps p.tables e below (T3.setTop (mkF m 15 #[.val (.ref a0t), .val (.ref r0), .unset] [(.int (7 : Int32)), (.ref a0t)])) _
    refine st5 _ ?_
    show Steps p.tables e below (T5.setTop (mkF m 18 #[.val (.ref a0t), .val (.ref r0), .unset] [])) _
    refine XS.aloadN X5.here hx rfl (hb hby d1_18) rfl rfl ?_
    show Steps p.tables e below (T5.setTop (mkF m 19 #[.val (.ref a0t), .val (.ref r0), .unset] [(.ref a0t)])) _
    refine XS.aloadN X5.here hx rfl (hb hby d1_19) rfl rfl ?_
    show Steps p.tables e below (T5.setTop (mkF m 20 #[.val (.ref a0t), .val (.ref r0), .unset] [(.ref r0), (.ref a0t)])) _
    refine st6 _ ?_
    show Steps p.tables e below (T6.setTop (mkF m 23 #[.val (.ref a0t), .val (.ref r0), .unset] [(.ref b6), (.ref a0t)])) _
    refine st7 _ ?_
    show Steps p.tables e below (T7.setTop (mkF m 26 #[.val (.ref a0t), .val (.ref r0), .unset] [(.ref b6), (.ref a0t)])) _
    refine st8 _ ?_
    show Steps p.tables e below (T8.setTop (mkF m 29 #[.val (.ref a0t), .val (.ref r0), .unset] [])) _
    refine XS.aloadN X8.here hx rfl (hb hby d1_29) rfl rfl ?_
    show Steps p.tables e below (T8.setTop (mkF m 30 #[.val (.ref a0t), .val (.ref r0), .unset] [(.ref a0t)])) _
    refine XS.aloadN X8.here hx rfl (hb hby d1_30) rfl rfl ?_
    show Steps p.tables e below (T8.setTop (mkF m 31 #[.val (.ref a0t), .val (.ref r0), .unset] [(.ref a0t), (.ref a0t)])) _
    refine st9 _ ?_
    show Steps p.tables e below (T9.setTop (mkF m 34 #[.val (.ref a0t), .val (.ref r0), .unset] [(.int (7 : Int32)), (.ref a0t)])) _
    refine st10 _ ?_
    show Steps p.tables e below (T10.setTop (mkF m 36 #[.val (.ref a0t), .val (.ref r0), .unset] [(.ref b10), (.ref a0t)])) _
    refine st11 _ ?_
    show Steps p.tables e below (T11.setTop (mkF m 39 #[.val (.ref a0t), .val (.ref r0), .unset] [])) _
    refine XS.iconst X11.here hx rfl (hb hby d1_39) ?_
    show Steps p.tables e below (T11.setTop (mkF m 40 #[.val (.ref a0t), .val (.ref r0), .unset] [(.int (0 : Int32))])) _
    refine XS.istoreN X11.here hx rfl (hb hby d1_40) rfl (l' := #[.val (.ref a0t), .val (.ref r0), .val (.int (0 : Int32))]) rfl ?_
    show Steps p.tables e below (T11.setTop (mkF m 41 #[.val (.ref a0t), .val (.ref r0), .val (.int (0 : Int32))] [])) _
    refine XS.iloadN X11.here hx rfl (hb hby d1_41) rfl ?_
    show Steps p.tables e below (T11.setTop (mkF m 42 #[.val (.ref a0t), .val (.ref r0), .val (.int (0 : Int32))] [(.int (0 : Int32))])) _
    refine XS.aloadN X11.here hx rfl (hb hby d1_42) rfl rfl ?_
    show Steps p.tables e below (T11.setTop (mkF m 43 #[.val (.ref a0t), .val (.ref r0), .val (.int (0 : Int32))] [(.ref a0t), (.int (0 : Int32))])) _
    refine st12 _ ?_
    show Steps p.tables e below (T12.setTop (mkF m 46 #[.val (.ref a0t), .val (.ref r0), .val (.int (0 : Int32))] [(.int (7 : Int32)), (.int (0 : Int32))])) _
    refine XS.icmpNo X12.here hx rfl (hb hby d1_46) rfl (tlt (by decide : (0 : Int32) < (7 : Int32))).2.1 ?_
    show Steps p.tables e below (T12.setTop (mkF m 49 #[.val (.ref a0t), .val (.ref r0), .val (.int (0 : Int32))] [])) _
    refine XS.aloadN X12.here hx rfl (hb hby d1_49) rfl rfl ?_
    show Steps p.tables e below (T12.setTop (mkF m 50 #[.val (.ref a0t), .val (.ref r0), .val (.int (0 : Int32))] [(.ref a0t)])) _
    refine st13 _ ?_
    show Steps p.tables e below (T13.setTop (mkF m 53 #[.val (.ref a0t), .val (.ref r0), .val (.int (0 : Int32))] [(.ref b10)])) _
    refine XS.aloadN X13.here hx rfl (hb hby d1_53) rfl rfl ?_
    show Steps p.tables e below (T13.setTop (mkF m 54 #[.val (.ref a0t), .val (.ref r0), .val (.int (0 : Int32))] [(.ref r0), (.ref b10)])) _
    refine XS.iloadN X13.here hx rfl (hb hby d1_54) rfl ?_
    show Steps p.tables e below (T13.setTop (mkF m 55 #[.val (.ref a0t), .val (.ref r0), .val (.int (0 : Int32))] [(.int (0 : Int32)), (.ref r0), (.ref b10)])) _
    refine X13.iaload hx (j := (0 : Int32)) (v := (.int c0)) (by rw [e13]; exact Ar14.1) (State.isArrayOf_alike hZ.alike Ar14.2.1) Ar14.2.2 hin14 hat14 (g := (mkF m 55 #[.val (.ref a0t), .val (.ref r0), .val (.int (0 : Int32))] [(.int (0 : Int32)), (.ref r0), (.ref b10)])) rfl rfl (hb hby d1_55) _ ?_
    show Steps p.tables e below (T13.setTop (mkF m 56 #[.val (.ref a0t), .val (.ref r0), .val (.int (0 : Int32))] [(.int c0), (.ref b10)])) _
    refine XS.iloadN X13.here hx rfl (hb hby d1_56) rfl ?_
    show Steps p.tables e below (T13.setTop (mkF m 57 #[.val (.ref a0t), .val (.ref r0), .val (.int (0 : Int32))] [(.int (0 : Int32)), (.int c0), (.ref b10)])) _
    refine st15 _ ?_
    show Steps p.tables e below (T15.setTop (mkF m 58 #[.val (.ref a0t), .val (.ref r0), .val (.int (0 : Int32))] [])) _
    refine XS.iinc X15.here hx rfl (hb hby d1_58) rfl (l' := #[.val (.ref a0t), .val (.ref r0), .val (.int (1 : Int32))]) rfl ?_
    show Steps p.tables e below (T15.setTop (mkF m 61 #[.val (.ref a0t), .val (.ref r0), .val (.int (1 : Int32))] [])) _
    refine XS.goto X15.here hx rfl (pc0 := 61) (pc' := 41) rfl (hb hby d1_61) (by decide) (by decide) ?_
    show Steps p.tables e below (T15.setTop (mkF m 41 #[.val (.ref a0t), .val (.ref r0), .val (.int (1 : Int32))] [])) _
    refine XS.iloadN X15.here hx rfl (hb hby d1_41) rfl ?_
    show Steps p.tables e below (T15.setTop (mkF m 42 #[.val (.ref a0t), .val (.ref r0), .val (.int (1 : Int32))] [(.int (1 : Int32))])) _
    refine XS.aloadN X15.here hx rfl (hb hby d1_42) rfl rfl ?_
    show Steps p.tables e below (T15.setTop (mkF m 43 #[.val (.ref a0t), .val (.ref r0), .val (.int (1 : Int32))] [(.ref a0t), (.int (1 : Int32))])) _
    refine st16 _ ?_
    show Steps p.tables e below (T16.setTop (mkF m 46 #[.val (.ref a0t), .val (.ref r0), .val (.int (1 : Int32))] [(.int (7 : Int32)), (.int (1 : Int32))])) _
    refine XS.icmpNo X16.here hx rfl (hb hby d1_46) rfl (tlt (by decide : (1 : Int32) < (7 : Int32))).2.1 ?_
    show Steps p.tables e below (T16.setTop (mkF m 49 #[.val (.ref a0t), .val (.ref r0), .val (.int (1 : Int32))] [])) _
    refine XS.aloadN X16.here hx rfl (hb hby d1_49) rfl rfl ?_
    show Steps p.tables e below (T16.setTop (mkF m 50 #[.val (.ref a0t), .val (.ref r0), .val (.int (1 : Int32))] [(.ref a0t)])) _
    refine st17 _ ?_
    show Steps p.tables e below (T17.setTop (mkF m 53 #[.val (.ref a0t), .val (.ref r0), .val (.int (1 : Int32))] [(.ref b10)])) _
    refine XS.aloadN X17.here hx rfl (hb hby d1_53) rfl rfl ?_
    show Steps p.tables e below (T17.setTop (mkF m 54 #[.val (.ref a0t), .val (.ref r0), .val (.int (1 : Int32))] [(.ref r0), (.ref b10)])) _
    refine XS.iloadN X17.here hx rfl (hb hby d1_54) rfl ?_
    show Steps p.tables e below (T17.setTop (mkF m 55 #[.val (.ref a0t), .val (.ref r0), .val (.int (1 : Int32))] [(.int (1 : Int32)), (.ref r0), (.ref b10)])) _
    refine X17.iaload hx (j := (1 : Int32)) (v := (.int c1)) (by rw [e17]; exact Ar18.1) (State.isArrayOf_alike hZ.alike Ar18.2.1) Ar18.2.2 hin18 hat18 (g := (mkF m 55 #[.val (.ref a0t), .val (.ref r0), .val (.int (1 : Int32))] [(.int (1 : Int32)), (.ref r0), (.ref b10)])) rfl rfl (hb hby d1_55) _ ?_
    show Steps p.tables e below (T17.setTop (mkF m 56 #[.val (.ref a0t), .val (.ref r0), .val (.int (1 : Int32))] [(.int c1), (.ref b10)])) _
    refine XS.iloadN X17.here hx rfl (hb hby d1_56) rfl ?_
    show Steps p.tables e below (T17.setTop (mkF m 57 #[.val (.ref a0t), .val (.ref r0), .val (.int (1 : Int32))] [(.int (1 : Int32)), (.int c1), (.ref b10)])) _
    refine st19 _ ?_
    show Steps p.tables e below (T19.setTop (mkF m 58 #[.val (.ref a0t), .val (.ref r0), .val (.int (1 : Int32))] [])) _
    refine XS.iinc X19.here hx rfl (hb hby d1_58) rfl (l' := #[.val (.ref a0t), .val (.ref r0), .val (.int (2 : Int32))]) rfl ?_
    show Steps p.tables e below (T19.setTop (mkF m 61 #[.val (.ref a0t), .val (.ref r0), .val (.int (2 : Int32))] [])) _
    refine XS.goto X19.here hx rfl (pc0 := 61) (pc' := 41) rfl (hb hby d1_61) (by decide) (by decide) ?_
    show Steps p.tables e below (T19.setTop (mkF m 41 #[.val (.ref a0t), .val (.ref r0), .val (.int (2 : Int32))] [])) _
    refine XS.iloadN X19.here hx rfl (hb hby d1_41) rfl ?_
    show Steps p.tables e below (T19.setTop (mkF m 42 #[.val (.ref a0t), .val (.ref r0), .val (.int (2 : Int32))] [(.int (2 : Int32))])) _
    refine XS.aloadN X19.here hx rfl (hb hby d1_42) rfl rfl ?_
    show Steps p.tables e below (T19.setTop (mkF m 43 #[.val (.ref a0t), .val (.ref r0), .val (.int (2 : Int32))] [(.ref a0t), (.int (2 : Int32))])) _
    refine st20 _ ?_
    show Steps p.tables e below (T20.setTop (mkF m 46 #[.val (.ref a0t), .val (.ref r0), .val (.int (2 : Int32))] [(.int (7 : Int32)), (.int (2 : Int32))])) _
    refine XS.icmpNo X20.here hx rfl (hb hby d1_46) rfl (tlt (by decide : (2 : Int32) < (7 : Int32))).2.1 ?_
    show Steps p.tables e below (T20.setTop (mkF m 49 #[.val (.ref a0t), .val (.ref r0), .val (.int (2 : Int32))] [])) _
    refine XS.aloadN X20.here hx rfl (hb hby d1_49) rfl rfl ?_
    show Steps p.tables e below (T20.setTop (mkF m 50 #[.val (.ref a0t), .val (.ref r0), .val (.int (2 : Int32))] [(.ref a0t)])) _
    refine st21 _ ?_
    show Steps p.tables e below (T21.setTop (mkF m 53 #[.val (.ref a0t), .val (.ref r0), .val (.int (2 : Int32))] [(.ref b10)])) _
    refine XS.aloadN X21.here hx rfl (hb hby d1_53) rfl rfl ?_
    show Steps p.tables e below (T21.setTop (mkF m 54 #[.val (.ref a0t), .val (.ref r0), .val (.int (2 : Int32))] [(.ref r0), (.ref b10)])) _
    refine XS.iloadN X21.here hx rfl (hb hby d1_54) rfl ?_
    show Steps p.tables e below (T21.setTop (mkF m 55 #[.val (.ref a0t), .val (.ref r0), .val (.int (2 : Int32))] [(.int (2 : Int32)), (.ref r0), (.ref b10)])) _
    refine X21.iaload hx (j := (2 : Int32)) (v := (.int c2)) (by rw [e21]; exact Ar22.1) (State.isArrayOf_alike hZ.alike Ar22.2.1) Ar22.2.2 hin22 hat22 (g := (mkF m 55 #[.val (.ref a0t), .val (.ref r0), .val (.int (2 : Int32))] [(.int (2 : Int32)), (.ref r0), (.ref b10)])) rfl rfl (hb hby d1_55) _ ?_
    show Steps p.tables e below (T21.setTop (mkF m 56 #[.val (.ref a0t), .val (.ref r0), .val (.int (2 : Int32))] [(.int c2), (.ref b10)])) _
    refine XS.iloadN X21.here hx rfl (hb hby d1_56) rfl ?_
    show Steps p.tables e below (T21.setTop (mkF m 57 #[.val (.ref a0t), .val (.ref r0), .val (.int (2 : Int32))] [(.int (2 : Int32)), (.int c2), (.ref b10)])) _
    refine st23 _ ?_
    show Steps p.tables e below (T23.setTop (mkF m 58 #[.val (.ref a0t), .val (.ref r0), .val (.int (2 : Int32))] [])) _
    refine XS.iinc X23.here hx rfl (hb hby d1_58) rfl (l' := #[.val (.ref a0t), .val (.ref r0), .val (.int (3 : Int32))]) rfl ?_
    show Steps p.tables e below (T23.setTop (mkF m 61 #[.val (.ref a0t), .val (.ref r0), .val (.int (3 : Int32))] [])) _
    refine XS.goto X23.here hx rfl (pc0 := 61) (pc' := 41) rfl (hb hby d1_61) (by decide) (by decide) ?_
    show Steps p.tables e below (T23.setTop (mkF m 41 #[.val (.ref a0t), .val (.ref r0), .val (.int (3 : Int32))] [])) _
    refine XS.iloadN X23.here hx rfl (hb hby d1_41) rfl ?_
    show Steps p.tables e below (T23.setTop (mkF m 42 #[.val (.ref a0t), .val (.ref r0), .val (.int (3 : Int32))] [(.int (3 : Int32))])) _
    refine XS.aloadN X23.here hx rfl (hb hby d1_42) rfl rfl ?_
    show Steps p.tables e below (T23.setTop (mkF m 43 #[.val (.ref a0t), .val (.ref r0), .val (.int (3 : Int32))] [(.ref a0t), (.int (3 : Int32))])) _
    refine st24 _ ?_
    show Steps p.tables e below (T24.setTop (mkF m 46 #[.val (.ref a0t), .val (.ref r0), .val (.int (3 : Int32))] [(.int (7 : Int32)), (.int (3 : Int32))])) _
    refine XS.icmpNo X24.here hx rfl (hb hby d1_46) rfl (tlt (by decide : (3 : Int32) < (7 : Int32))).2.1 ?_
    show Steps p.tables e below (T24.setTop (mkF m 49 #[.val (.ref a0t), .val (.ref r0), .val (.int (3 : Int32))] [])) _
    refine XS.aloadN X24.here hx rfl (hb hby d1_49) rfl rfl ?_
    show Steps p.tables e below (T24.setTop (mkF m 50 #[.val (.ref a0t), .val (.ref r0), .val (.int (3 : Int32))] [(.ref a0t)])) _
    refine st25 _ ?_
    show Steps p.tables e below (T25.setTop (mkF m 53 #[.val (.ref a0t), .val (.ref r0), .val (.int (3 : Int32))] [(.ref b10)])) _
    refine XS.aloadN X25.here hx rfl (hb hby d1_53) rfl rfl ?_
    show Steps p.tables e below (T25.setTop (mkF m 54 #[.val (.ref a0t), .val (.ref r0), .val (.int (3 : Int32))] [(.ref r0), (.ref b10)])) _
    refine XS.iloadN X25.here hx rfl (hb hby d1_54) rfl ?_
    show Steps p.tables e below (T25.setTop (mkF m 55 #[.val (.ref a0t), .val (.ref r0), .val (.int (3 : Int32))] [(.int (3 : Int32)), (.ref r0), (.ref b10)])) _
    refine X25.iaload hx (j := (3 : Int32)) (v := (.int c3)) (by rw [e25]; exact Ar26.1) (State.isArrayOf_alike hZ.alike Ar26.2.1) Ar26.2.2 hin26 hat26 (g := (mkF m 55 #[.val (.ref a0t), .val (.ref r0), .val (.int (3 : Int32))] [(.int (3 : Int32)), (.ref r0), (.ref b10)])) rfl rfl (hb hby d1_55) _ ?_
    show Steps p.tables e below (T25.setTop (mkF m 56 #[.val (.ref a0t), .val (.ref r0), .val (.int (3 : Int32))] [(.int c3), (.ref b10)])) _
    refine XS.iloadN X25.here hx rfl (hb hby d1_56) rfl ?_
    show Steps p.tables e below (T25.setTop (mkF m 57 #[.val (.ref a0t), .val (.ref r0), .val (.int (3 : Int32))] [(.int (3 : Int32)), (.int c3), (.ref b10)])) _
    refine st27 _ ?_
    show Steps p.tables e below (T27.setTop (mkF m 58 #[.val (.ref a0t), .val (.ref r0), .val (.int (3 : Int32))] [])) _
    refine XS.iinc X27.here hx rfl (hb hby d1_58) rfl (l' := #[.val (.ref a0t), .val (.ref r0), .val (.int (4 : Int32))]) rfl ?_
    show Steps p.tables e below (T27.setTop (mkF m 61 #[.val (.ref a0t), .val (.ref r0), .val (.int (4 : Int32))] [])) _
    refine XS.goto X27.here hx rfl (pc0 := 61) (pc' := 41) rfl (hb hby d1_61) (by decide) (by decide) ?_
    show Steps p.tables e below (T27.setTop (mkF m 41 #[.val (.ref a0t), .val (.ref r0), .val (.int (4 : Int32))] [])) _
    refine XS.iloadN X27.here hx rfl (hb hby d1_41) rfl ?_
    show Steps p.tables e below (T27.setTop (mkF m 42 #[.val (.ref a0t), .val (.ref r0), .val (.int (4 : Int32))] [(.int (4 : Int32))])) _
    refine XS.aloadN X27.here hx rfl (hb hby d1_42) rfl rfl ?_
    show Steps p.tables e below (T27.setTop (mkF m 43 #[.val (.ref a0t), .val (.ref r0), .val (.int (4 : Int32))] [(.ref a0t), (.int (4 : Int32))])) _
    refine st28 _ ?_
    show Steps p.tables e below (T28.setTop (mkF m 46 #[.val (.ref a0t), .val (.ref r0), .val (.int (4 : Int32))] [(.int (7 : Int32)), (.int (4 : Int32))])) _
    refine XS.icmpNo X28.here hx rfl (hb hby d1_46) rfl (tlt (by decide : (4 : Int32) < (7 : Int32))).2.1 ?_
    show Steps p.tables e below (T28.setTop (mkF m 49 #[.val (.ref a0t), .val (.ref r0), .val (.int (4 : Int32))] [])) _
    refine XS.aloadN X28.here hx rfl (hb hby d1_49) rfl rfl ?_
    show Steps p.tables e below (T28.setTop (mkF m 50 #[.val (.ref a0t), .val (.ref r0), .val (.int (4 : Int32))] [(.ref a0t)])) _
    refine st29 _ ?_
    show Steps p.tables e below (T29.setTop (mkF m 53 #[.val (.ref a0t), .val (.ref r0), .val (.int (4 : Int32))] [(.ref b10)])) _
    refine XS.aloadN X29.here hx rfl (hb hby d1_53) rfl rfl ?_
    show Steps p.tables e below (T29.setTop (mkF m 54 #[.val (.ref a0t), .val (.ref r0), .val (.int (4 : Int32))] [(.ref r0), (.ref b10)])) _
    refine XS.iloadN X29.here hx rfl (hb hby d1_54) rfl ?_
    show Steps p.tables e below (T29.setTop (mkF m 55 #[.val (.ref a0t), .val (.ref r0), .val (.int (4 : Int32))] [(.int (4 : Int32)), (.ref r0), (.ref b10)])) _
    refine X29.iaload hx (j := (4 : Int32)) (v := (.int c4)) (by rw [e29]; exact Ar30.1) (State.isArrayOf_alike hZ.alike Ar30.2.1) Ar30.2.2 hin30 hat30 (g := (mkF m 55 #[.val (.ref a0t), .val (.ref r0), .val (.int (4 : Int32))] [(.int (4 : Int32)), (.ref r0), (.ref b10)])) rfl rfl (hb hby d1_55) _ ?_
    show Steps p.tables e below (T29.setTop (mkF m 56 #[.val (.ref a0t), .val (.ref r0), .val (.int (4 : Int32))] [(.int c4), (.ref b10)])) _
    refine XS.iloadN X29.here hx rfl (hb hby d1_56) rfl ?_
    show Steps p.tables e below (T29.setTop (mkF m 57 #[.val (.ref a0t), .val (.ref r0), .val (.int (4 : Int32))] [(.int (4 : Int32)), (.int c4), (.ref b10)])) _
    refine st31 _ ?_
    show Steps p.tables e below (T31.setTop (mkF m 58 #[.val (.ref a0t), .val (.ref r0), .val (.int (4 : Int32))] [])) _
    refine XS.iinc X31.here hx rfl (hb hby d1_58) rfl (l' := #[.val (.ref a0t), .val (.ref r0), .val (.int (5 : Int32))]) rfl ?_
    show Steps p.tables e below (T31.setTop (mkF m 61 #[.val (.ref a0t), .val (.ref r0), .val (.int (5 : Int32))] [])) _
    refine XS.goto X31.here hx rfl (pc0 := 61) (pc' := 41) rfl (hb hby d1_61) (by decide) (by decide) ?_
    show Steps p.tables e below (T31.setTop (mkF m 41 #[.val (.ref a0t), .val (.ref r0), .val (.int (5 : Int32))] [])) _
    refine XS.iloadN X31.here hx rfl (hb hby d1_41) rfl ?_
    show Steps p.tables e below (T31.setTop (mkF m 42 #[.val (.ref a0t), .val (.ref r0), .val (.int (5 : Int32))] [(.int (5 : Int32))])) _
    refine XS.aloadN X31.here hx rfl (hb hby d1_42) rfl rfl ?_
    show Steps p.tables e below (T31.setTop (mkF m 43 #[.val (.ref a0t), .val (.ref r0), .val (.int (5 : Int32))] [(.ref a0t), (.int (5 : Int32))])) _
    refine st32 _ ?_
    show Steps p.tables e below (T32.setTop (mkF m 46 #[.val (.ref a0t), .val (.ref r0), .val (.int (5 : Int32))] [(.int (7 : Int32)), (.int (5 : Int32))])) _
    refine XS.icmpNo X32.here hx rfl (hb hby d1_46) rfl (tlt (by decide : (5 : Int32) < (7 : Int32))).2.1 ?_
    show Steps p.tables e below (T32.setTop (mkF m 49 #[.val (.ref a0t), .val (.ref r0), .val (.int (5 : Int32))] [])) _
    refine XS.aloadN X32.here hx rfl (hb hby d1_49) rfl rfl ?_
    show Steps p.tables e below (T32.setTop (mkF m 50 #[.val (.ref a0t), .val (.ref r0), .val (.int (5 : Int32))] [(.ref a0t)])) _
    refine st33 _ ?_
    show Steps p.tables e below (T33.setTop (mkF m 53 #[.val (.ref a0t), .val (.ref r0), .val (.int (5 : Int32))] [(.ref b10)])) _
    refine XS.aloadN X33.here hx rfl (hb hby d1_53) rfl rfl ?_
    show Steps p.tables e below (T33.setTop (mkF m 54 #[.val (.ref a0t), .val (.ref r0), .val (.int (5 : Int32))] [(.ref r0), (.ref b10)])) _
    refine XS.iloadN X33.here hx rfl (hb hby d1_54) rfl ?_
    show Steps p.tables e below (T33.setTop (mkF m 55 #[.val (.ref a0t), .val (.ref r0), .val (.int (5 : Int32))] [(.int (5 : Int32)), (.ref r0), (.ref b10)])) _
    refine X33.iaload hx (j := (5 : Int32)) (v := (.int c5)) (by rw [e33]; exact Ar34.1) (State.isArrayOf_alike hZ.alike Ar34.2.1) Ar34.2.2 hin34 hat34 (g := (mkF m 55 #[.val (.ref a0t), .val (.ref r0), .val (.int (5 : Int32))] [(.int (5 : Int32)), (.ref r0), (.ref b10)])) rfl rfl (hb hby d1_55) _ ?_
    show Steps p.tables e below (T33.setTop (mkF m 56 #[.val (.ref a0t), .val (.ref r0), .val (.int (5 : Int32))] [(.int c5), (.ref b10)])) _
    refine XS.iloadN X33.here hx rfl (hb hby d1_56) rfl ?_
    show Steps p.tables e below (T33.setTop (mkF m 57 #[.val (.ref a0t), .val (.ref r0), .val (.int (5 : Int32))] [(.int (5 : Int32)), (.int c5), (.ref b10)])) _
    refine st35 _ ?_
    show Steps p.tables e below (T35.setTop (mkF m 58 #[.val (.ref a0t), .val (.ref r0), .val (.int (5 : Int32))] [])) _
    refine XS.iinc X35.here hx rfl (hb hby d1_58) rfl (l' := #[.val (.ref a0t), .val (.ref r0), .val (.int (6 : Int32))]) rfl ?_
    show Steps p.tables e below (T35.setTop (mkF m 61 #[.val (.ref a0t), .val (.ref r0), .val (.int (6 : Int32))] [])) _
    refine XS.goto X35.here hx rfl (pc0 := 61) (pc' := 41) rfl (hb hby d1_61) (by decide) (by decide) ?_
    show Steps p.tables e below (T35.setTop (mkF m 41 #[.val (.ref a0t), .val (.ref r0), .val (.int (6 : Int32))] [])) _
    refine XS.iloadN X35.here hx rfl (hb hby d1_41) rfl ?_
    show Steps p.tables e below (T35.setTop (mkF m 42 #[.val (.ref a0t), .val (.ref r0), .val (.int (6 : Int32))] [(.int (6 : Int32))])) _
    refine XS.aloadN X35.here hx rfl (hb hby d1_42) rfl rfl ?_
    show Steps p.tables e below (T35.setTop (mkF m 43 #[.val (.ref a0t), .val (.ref r0), .val (.int (6 : Int32))] [(.ref a0t), (.int (6 : Int32))])) _
    refine st36 _ ?_
    show Steps p.tables e below (T36.setTop (mkF m 46 #[.val (.ref a0t), .val (.ref r0), .val (.int (6 : Int32))] [(.int (7 : Int32)), (.int (6 : Int32))])) _
    refine XS.icmpNo X36.here hx rfl (hb hby d1_46) rfl (tlt (by decide : (6 : Int32) < (7 : Int32))).2.1 ?_
    show Steps p.tables e below (T36.setTop (mkF m 49 #[.val (.ref a0t), .val (.ref r0), .val (.int (6 : Int32))] [])) _
    refine XS.aloadN X36.here hx rfl (hb hby d1_49) rfl rfl ?_
    show Steps p.tables e below (T36.setTop (mkF m 50 #[.val (.ref a0t), .val (.ref r0), .val (.int (6 : Int32))] [(.ref a0t)])) _
    refine st37 _ ?_
    show Steps p.tables e below (T37.setTop (mkF m 53 #[.val (.ref a0t), .val (.ref r0), .val (.int (6 : Int32))] [(.ref b10)])) _
    refine XS.aloadN X37.here hx rfl (hb hby d1_53) rfl rfl ?_
    show Steps p.tables e below (T37.setTop (mkF m 54 #[.val (.ref a0t), .val (.ref r0), .val (.int (6 : Int32))] [(.ref r0), (.ref b10)])) _
    refine XS.iloadN X37.here hx rfl (hb hby d1_54) rfl ?_
    show Steps p.tables e below (T37.setTop (mkF m 55 #[.val (.ref a0t), .val (.ref r0), .val (.int (6 : Int32))] [(.int (6 : Int32)), (.ref r0), (.ref b10)])) _
    refine X37.iaload hx (j := (6 : Int32)) (v := (.int c6)) (by rw [e37]; exact Ar38.1) (State.isArrayOf_alike hZ.alike Ar38.2.1) Ar38.2.2 hin38 hat38 (g := (mkF m 55 #[.val (.ref a0t), .val (.ref r0), .val (.int (6 : Int32))] [(.int (6 : Int32)), (.ref r0), (.ref b10)])) rfl rfl (hb hby d1_55) _ ?_
    show Steps p.tables e below (T37.setTop (mkF m 56 #[.val (.ref a0t), .val (.ref r0), .val (.int (6 : Int32))] [(.int c6), (.ref b10)])) _
    refine XS.iloadN X37.here hx rfl (hb hby d1_56) rfl ?_
    show Steps p.tables e below (T37.setTop (mkF m 57 #[.val (.ref a0t), .val (.ref r0), .val (.int (6 : Int32))] [(.int (6 : Int32)), (.int c6), (.ref b10)])) _
    refine st39 _ ?_
    show Steps p.tables e below (T39.setTop (mkF m 58 #[.val (.ref a0t), .val (.ref r0), .val (.int (6 : Int32))] [])) _
    refine XS.iinc X39.here hx rfl (hb hby d1_58) rfl (l' := #[.val (.ref a0t), .val (.ref r0), .val (.int (7 : Int32))]) rfl ?_
    show Steps p.tables e below (T39.setTop (mkF m 61 #[.val (.ref a0t), .val (.ref r0), .val (.int (7 : Int32))] [])) _
    refine XS.goto X39.here hx rfl (pc0 := 61) (pc' := 41) rfl (hb hby d1_61) (by decide) (by decide) ?_
    show Steps p.tables e below (T39.setTop (mkF m 41 #[.val (.ref a0t), .val (.ref r0), .val (.int (7 : Int32))] [])) _
    refine XS.iloadN X39.here hx rfl (hb hby d1_41) rfl ?_
    show Steps p.tables e below (T39.setTop (mkF m 42 #[.val (.ref a0t), .val (.ref r0), .val (.int (7 : Int32))] [(.int (7 : Int32))])) _
    refine XS.aloadN X39.here hx rfl (hb hby d1_42) rfl rfl ?_
    show Steps p.tables e below (T39.setTop (mkF m 43 #[.val (.ref a0t), .val (.ref r0), .val (.int (7 : Int32))] [(.ref a0t), (.int (7 : Int32))])) _
    refine st40 _ ?_
    show Steps p.tables e below (T40.setTop (mkF m 46 #[.val (.ref a0t), .val (.ref r0), .val (.int (7 : Int32))] [(.int (7 : Int32)), (.int (7 : Int32))])) _
    refine XS.icmpYes X40.here hx rfl (pc0 := 46) (pc' := 64) rfl (hb hby d1_46) rfl (flt (by decide : ¬ ((7 : Int32) < (7 : Int32)))).2.1 (by decide) (by decide) ?_
    show Steps p.tables e below (T40.setTop (mkF m 64 #[.val (.ref a0t), .val (.ref r0), .val (.int (7 : Int32))] [])) _
    exact X40.returnOut hx Bd.returns (hb hby d1_64) hr
  · show Q1 Z a0t r0 w_journal w_size w_cities w_places kA c0 c1 c2 c3 c4 c5 c6 h0 n0 _ T40.heap _
    rw [e40]
    exact ⟨rfl, N39, K39, E_a0t_39, ⟨b10, k10, F_places_a0t_39, V_b10_39⟩⟩
theorem d3_0 : decode prog_1_method_6_code 0 = .ok (.aload_n 0, 1) := by decide +kernel
theorem d3_1 : decode prog_1_method_6_code 1 = .ok (.getfield 25, 3) := by decide +kernel
theorem d3_4 : decode prog_1_method_6_code 4 = .ok (.iload_n 1, 1) := by decide +kernel
theorem d3_5 : decode prog_1_method_6_code 5 = .ok (.iaload, 1) := by decide +kernel
theorem d3_6 : decode prog_1_method_6_code 6 = .ok (.istore 4, 2) := by decide +kernel
theorem d3_8 : decode prog_1_method_6_code 8 = .ok (.aload_n 0, 1) := by decide +kernel
theorem d3_9 : decode prog_1_method_6_code 9 = .ok (.getfield 25, 3) := by decide +kernel
theorem d3_12 : decode prog_1_method_6_code 12 = .ok (.iload_n 2, 1) := by decide +kernel
theorem d3_13 : decode prog_1_method_6_code 13 = .ok (.iaload, 1) := by decide +kernel
theorem d3_14 : decode prog_1_method_6_code 14 = .ok (.istore 5, 2) := by decide +kernel
theorem d3_16 : decode prog_1_method_6_code 16 = .ok (.aload_n 0, 1) := by decide +kernel
theorem d3_17 : decode prog_1_method_6_code 17 = .ok (.getfield 25, 3) := by decide +kernel
theorem d3_20 : decode prog_1_method_6_code 20 = .ok (.iload_n 3, 1) := by decide +kernel
theorem d3_21 : decode prog_1_method_6_code 21 = .ok (.iaload, 1) := by decide +kernel
theorem d3_22 : decode prog_1_method_6_code 22 = .ok (.istore 6, 2) := by decide +kernel
theorem d3_24 : decode prog_1_method_6_code 24 = .ok (.iload 4, 2) := by decide +kernel
theorem d3_26 : decode prog_1_method_6_code 26 = .ok (.iload 6, 2) := by decide +kernel
theorem d3_28 : decode prog_1_method_6_code 28 = .ok (.if_icmp .gt 25, 3) := by decide +kernel
theorem d3_31 : decode prog_1_method_6_code 31 = .ok (.iload 4, 2) := by decide +kernel
theorem d3_33 : decode prog_1_method_6_code 33 = .ok (.iload 5, 2) := by decide +kernel
theorem d3_35 : decode prog_1_method_6_code 35 = .ok (.if_icmp .gt 14, 3) := by decide +kernel
theorem d3_38 : decode prog_1_method_6_code 38 = .ok (.iload 5, 2) := by decide +kernel
theorem d3_40 : decode prog_1_method_6_code 40 = .ok (.iload 6, 2) := by decide +kernel
theorem d3_42 : decode prog_1_method_6_code 42 = .ok (.if_icmp .gt 7, 3) := by decide +kernel
theorem d3_45 : decode prog_1_method_6_code 45 = .ok (.iconst 1, 1) := by decide +kernel
theorem d3_46 : decode prog_1_method_6_code 46 = .ok (.goto 26, 3) := by decide +kernel
theorem d3_49 : decode prog_1_method_6_code 49 = .ok (.iconst 0, 1) := by decide +kernel
theorem d3_50 : decode prog_1_method_6_code 50 = .ok (.goto 22, 3) := by decide +kernel
theorem d3_53 : decode prog_1_method_6_code 53 = .ok (.iload 5, 2) := by decide +kernel
theorem d3_55 : decode prog_1_method_6_code 55 = .ok (.iload 4, 2) := by decide +kernel
theorem d3_57 : decode prog_1_method_6_code 57 = .ok (.if_icmp .ge 10, 3) := by decide +kernel
theorem d3_60 : decode prog_1_method_6_code 60 = .ok (.iload 5, 2) := by decide +kernel
theorem d3_62 : decode prog_1_method_6_code 62 = .ok (.iload 6, 2) := by decide +kernel
theorem d3_64 : decode prog_1_method_6_code 64 = .ok (.if_icmp .gt 7, 3) := by decide +kernel
theorem d3_67 : decode prog_1_method_6_code 67 = .ok (.iconst 1, 1) := by decide +kernel
theorem d3_68 : decode prog_1_method_6_code 68 = .ok (.goto 4, 3) := by decide +kernel
theorem d3_71 : decode prog_1_method_6_code 71 = .ok (.iconst 0, 1) := by decide +kernel
theorem d3_72 : decode prog_1_method_6_code 72 = .ok (.ireturn, 1) := by decide +kernel
theorem ef_3 (m : MethodId) (x0 : Addr) (x1 : Int32) (x2 : Int32) (x3 : Int32) : entryFrame m #[(.ref x0), (.int x1), (.int x2), (.int x3)] 7 = mkF m 0 #[.val (.ref x0), .val (.int x1), .val (.int x2), .val (.int x3), .unset, .unset, .unset] [] := by first | (simp [entryFrame, mkF, argsToLocals, Value.category]; done) | rfl
def f3 (p0 : Int32) (p1 : Int32) (p2 : Int32) (pv : Int32 → Int32) : Int32 := (if (pv p2) < (pv p0) then (if (pv p1) < (pv p0) then (if (pv p2) < (pv p1) then (0 : Int32) else (1 : Int32)) else (1 : Int32)) else (if (pv p1) < (pv p0) then (0 : Int32) else (if (pv p2) < (pv p1) then (0 : Int32) else (1 : Int32))))
def Q3 (Z : State) (a0t : Addr) (p0 : Int32) (p1 : Int32) (p2 : Int32) (pl : Addr) (cl : Cell) (pv : Int32 → Int32) (h0 : Heap) (n0 : Nat) (v : Option Value) (h : Heap) (L : List Loc) : Prop := v = some (.int (f3 p0 p1 p2 pv)) ∧ Fr n0 L ∧ h = h0
set_option maxRecDepth 65536 in
set_option maxHeartbeats 40000000 in
theorem rm3 (l : Launch) (Z : State) (a0 : Array Value) (hw : ∀ d ∈ tables_1, d.before a0 Z = true) (ws : List Jvm.Cond) (a0t : Addr) (p0 : Int32) (p1 : Int32) (p2 : Int32) (pl : Addr) (cl : Cell) (pv : Int32 → Int32) (h0 : Heap) (n0 : Nat) (Z0 : n0 ≤ h0.size) (E_this : Exa Z h0 a0t "com/example/itinerant/itinerant/ArrayTour") (g_this : n0 ≤ a0t) (F_places : Fld Z h0 a0t "com/example/itinerant/itinerant/ArrayTour" "places" "[I" (.ref pl)) (Ar : Arr Z h0 pl cl .int) (hin : ∀ i : Int32, 0 ≤ i.toInt → i.toInt < 7 → ¬ (i < 0 ∨ cl.slots.size ≤ i.toNatClampNeg)) (hat : ∀ i : Int32, 0 ≤ i.toInt → i.toInt < 7 → cl.slots[i.toNatClampNeg]? = some (.int (pv i))) (ha0 : 0 ≤ p0.toInt) (ha1 : 0 ≤ p1.toInt) (ha2 : 0 ≤ p2.toInt) (hz0 : p0.toInt < 7) (hz1 : p1.toInt < 7) (hz2 : p2.toInt < 7) :
    MetFree l (⟨"com/example/itinerant/itinerant/ArrayTour", "between", "(III)Z"⟩ : MethodName) (head1 (Jvm.Cond.code (⟨"com/example/itinerant/itinerant/ArrayTour", "between", "(III)Z"⟩ : MethodName) prog_1_method_6_code 7 (some .boolean) :: ws) ({ frames := 0, cells := 0, slots := 0, locals := 0 } : Room)) (fun a U => a = #[(.ref a0t), (.int p0), (.int p1), (.int p2)] ∧ Z.Warmed39 U.vm ∧ U.heap = h0) (fun _ _ _ _ _ => True) (fun _ U o U' => ∃ v L, o = .returned v ∧ Q3 Z a0t p0 p1 p2 pl cl pv h0 n0 v U'.heap L ∧ FrameEnd U o U' L ({ frames := 0, cells := 0, slots := 0, locals := 0 } : Room).cells ({ frames := 0, cells := 0, slots := 0, locals := 0 } : Room).slots) := by
  refine MetFree.of_bodySF (plainFor_of_name pn_0) hisR ?_
  intro p e s m args below meth c s₁ Bd hml0 hP hK
  obtain ⟨rfl, hZ, hh⟩ := hP
  have hx := Bd.exec
  have hby := Bd.bytes
  have hml : c.maxLocals = 7 := hml0
  have hown : s.vm.findClass "com/example/itinerant/itinerant/ArrayTour" = some m.cls := findClass_of_methodNamed Bd.named
  have hnm := (name_of_methodNamed Bd.named Bd.method).1
  have X0 : Stand p l e ({ frames := 0, cells := 0, slots := 0, locals := 0 } : Room) s m #[(.ref a0t), (.int p0), (.int p1), (.int p2)] below meth c s₁ [] 0 0 := Stand.of_body Bd
  have e0 : s₁.heap = h0 := by rw [← hh, Bd.state]; rfl
  have N0 := Fr.nil n0
  have K0 := Keep.refl h0 [a0t]
  have pre0 : ∀ t, Steps p.tables e below (s₁.setTop (mkF m 0 #[.val (.ref a0t), .val (.int p0), .val (.int p1), .val (.int p2), .unset, .unset, .unset] [])) t → Steps p.tables e below (s₁.setTop (entryFrame m #[(.ref a0t), (.int p0), (.int p1), (.int p2)] 7)) t := fun t k => castTop (ef_3 m a0t p0 p1 p2) k
  obtain ⟨T1, X1, e1, st1⟩ := getF X0 hx hZ hown (host := "") (Or.inl (hw _ (List.mem_of_getElem? (i := 26) rfl))) Via.refl e0 F_places (g := (mkF m 1 #[.val (.ref a0t), .val (.int p0), .val (.int p1), .val (.int p2), .unset, .unset, .unset] [(.ref a0t)])) rfl rfl (hb hby d3_1)
  obtain ⟨T3, X3, e3, st3⟩ := getF X1 hx hZ hown (host := "") (Or.inl (hw _ (List.mem_of_getElem? (i := 26) rfl))) Via.refl e1 F_places (g := (mkF m 9 #[.val (.ref a0t), .val (.int p0), .val (.int p1), .val (.int p2), .val (.int (pv p0)), .unset, .unset] [(.ref a0t)])) rfl rfl (hb hby d3_9)
  obtain ⟨T5, X5, e5, st5⟩ := getF X3 hx hZ hown (host := "") (Or.inl (hw _ (List.mem_of_getElem? (i := 26) rfl))) Via.refl e3 F_places (g := (mkF m 17 #[.val (.ref a0t), .val (.int p0), .val (.int p1), .val (.int p2), .val (.int (pv p0)), .val (.int (pv p1)), .unset] [(.ref a0t)])) rfl rfl (hb hby d3_17)
  have pre7 : ∀ t, Steps p.tables e below (T5.setTop (mkF m 28 #[.val (.ref a0t), .val (.int p0), .val (.int p1), .val (.int p2), .val (.int (pv p0)), .val (.int (pv p1)), .val (.int (pv p2))] [(.int (pv p2)), (.int (pv p0))])) t → Steps p.tables e below (s₁.setTop (entryFrame m #[(.ref a0t), (.int p0), (.int p1), (.int p2)] 7)) t := fun t kt => pre0 t (by
    show Steps p.tables e below (s₁.setTop (mkF m 0 #[.val (.ref a0t), .val (.int p0), .val (.int p1), .val (.int p2), .unset, .unset, .unset] [])) _
    refine XS.aloadN X0.here hx rfl (hb hby d3_0) rfl rfl ?_
    show Steps p.tables e below (s₁.setTop (mkF m 1 #[.val (.ref a0t), .val (.int p0), .val (.int p1), .val (.int p2), .unset, .unset, .unset] [(.ref a0t)])) _
    refine st1 _ ?_
    show Steps p.tables e below (T1.setTop (mkF m 4 #[.val (.ref a0t), .val (.int p0), .val (.int p1), .val (.int p2), .unset, .unset, .unset] [(.ref pl)])) _
    refine XS.iloadN X1.here hx rfl (hb hby d3_4) rfl ?_
    show Steps p.tables e below (T1.setTop (mkF m 5 #[.val (.ref a0t), .val (.int p0), .val (.int p1), .val (.int p2), .unset, .unset, .unset] [(.int p0), (.ref pl)])) _
    refine X1.iaload hx (j := p0) (v := (.int (pv p0))) (by rw [e1]; exact Ar.1) (State.isArrayOf_alike hZ.alike Ar.2.1) Ar.2.2 (hin p0 ha0 hz0) (hat p0 ha0 hz0) (g := (mkF m 5 #[.val (.ref a0t), .val (.int p0), .val (.int p1), .val (.int p2), .unset, .unset, .unset] [(.int p0), (.ref pl)])) rfl rfl (hb hby d3_5) _ ?_
    show Steps p.tables e below (T1.setTop (mkF m 6 #[.val (.ref a0t), .val (.int p0), .val (.int p1), .val (.int p2), .unset, .unset, .unset] [(.int (pv p0))])) _
    refine XS.istore X1.here hx rfl (hb hby d3_6) rfl (l' := #[.val (.ref a0t), .val (.int p0), .val (.int p1), .val (.int p2), .val (.int (pv p0)), .unset, .unset]) rfl ?_
    show Steps p.tables e below (T1.setTop (mkF m 8 #[.val (.ref a0t), .val (.int p0), .val (.int p1), .val (.int p2), .val (.int (pv p0)), .unset, .unset] [])) _
    refine XS.aloadN X1.here hx rfl (hb hby d3_8) rfl rfl ?_
    show Steps p.tables e below (T1.setTop (mkF m 9 #[.val (.ref a0t), .val (.int p0), .val (.int p1), .val (.int p2), .val (.int (pv p0)), .unset, .unset] [(.ref a0t)])) _
    refine st3 _ ?_
    show Steps p.tables e below (T3.setTop (mkF m 12 #[.val (.ref a0t), .val (.int p0), .val (.int p1), .val (.int p2), .val (.int (pv p0)), .unset, .unset] [(.ref pl)])) _
    refine XS.iloadN X3.here hx rfl (hb hby d3_12) rfl ?_
    show Steps p.tables e below (T3.setTop (mkF m 13 #[.val (.ref a0t), .val (.int p0), .val (.int p1), .val (.int p2), .val (.int (pv p0)), .unset, .unset] [(.int p1), (.ref pl)])) _
    refine X3.iaload hx (j := p1) (v := (.int (pv p1))) (by rw [e3]; exact Ar.1) (State.isArrayOf_alike hZ.alike Ar.2.1) Ar.2.2 (hin p1 ha1 hz1) (hat p1 ha1 hz1) (g := (mkF m 13 #[.val (.ref a0t), .val (.int p0), .val (.int p1), .val (.int p2), .val (.int (pv p0)), .unset, .unset] [(.int p1), (.ref pl)])) rfl rfl (hb hby d3_13) _ ?_
    show Steps p.tables e below (T3.setTop (mkF m 14 #[.val (.ref a0t), .val (.int p0), .val (.int p1), .val (.int p2), .val (.int (pv p0)), .unset, .unset] [(.int (pv p1))])) _
    refine XS.istore X3.here hx rfl (hb hby d3_14) rfl (l' := #[.val (.ref a0t), .val (.int p0), .val (.int p1), .val (.int p2), .val (.int (pv p0)), .val (.int (pv p1)), .unset]) rfl ?_
    show Steps p.tables e below (T3.setTop (mkF m 16 #[.val (.ref a0t), .val (.int p0), .val (.int p1), .val (.int p2), .val (.int (pv p0)), .val (.int (pv p1)), .unset] [])) _
    refine XS.aloadN X3.here hx rfl (hb hby d3_16) rfl rfl ?_
    show Steps p.tables e below (T3.setTop (mkF m 17 #[.val (.ref a0t), .val (.int p0), .val (.int p1), .val (.int p2), .val (.int (pv p0)), .val (.int (pv p1)), .unset] [(.ref a0t)])) _
    refine st5 _ ?_
    show Steps p.tables e below (T5.setTop (mkF m 20 #[.val (.ref a0t), .val (.int p0), .val (.int p1), .val (.int p2), .val (.int (pv p0)), .val (.int (pv p1)), .unset] [(.ref pl)])) _
    refine XS.iloadN X5.here hx rfl (hb hby d3_20) rfl ?_
    show Steps p.tables e below (T5.setTop (mkF m 21 #[.val (.ref a0t), .val (.int p0), .val (.int p1), .val (.int p2), .val (.int (pv p0)), .val (.int (pv p1)), .unset] [(.int p2), (.ref pl)])) _
    refine X5.iaload hx (j := p2) (v := (.int (pv p2))) (by rw [e5]; exact Ar.1) (State.isArrayOf_alike hZ.alike Ar.2.1) Ar.2.2 (hin p2 ha2 hz2) (hat p2 ha2 hz2) (g := (mkF m 21 #[.val (.ref a0t), .val (.int p0), .val (.int p1), .val (.int p2), .val (.int (pv p0)), .val (.int (pv p1)), .unset] [(.int p2), (.ref pl)])) rfl rfl (hb hby d3_21) _ ?_
    show Steps p.tables e below (T5.setTop (mkF m 22 #[.val (.ref a0t), .val (.int p0), .val (.int p1), .val (.int p2), .val (.int (pv p0)), .val (.int (pv p1)), .unset] [(.int (pv p2))])) _
    refine XS.istore X5.here hx rfl (hb hby d3_22) rfl (l' := #[.val (.ref a0t), .val (.int p0), .val (.int p1), .val (.int p2), .val (.int (pv p0)), .val (.int (pv p1)), .val (.int (pv p2))]) rfl ?_
    show Steps p.tables e below (T5.setTop (mkF m 24 #[.val (.ref a0t), .val (.int p0), .val (.int p1), .val (.int p2), .val (.int (pv p0)), .val (.int (pv p1)), .val (.int (pv p2))] [])) _
    refine XS.iload X5.here hx rfl (hb hby d3_24) rfl ?_
    show Steps p.tables e below (T5.setTop (mkF m 26 #[.val (.ref a0t), .val (.int p0), .val (.int p1), .val (.int p2), .val (.int (pv p0)), .val (.int (pv p1)), .val (.int (pv p2))] [(.int (pv p0))])) _
    refine XS.iload X5.here hx rfl (hb hby d3_26) rfl ?_
    exact kt)
  by_cases hc8 : (pv p2) < (pv p0)
  · have pre9 : ∀ t, Steps p.tables e below (T5.setTop (mkF m 57 #[.val (.ref a0t), .val (.int p0), .val (.int p1), .val (.int p2), .val (.int (pv p0)), .val (.int (pv p1)), .val (.int (pv p2))] [(.int (pv p0)), (.int (pv p1))])) t → Steps p.tables e below (s₁.setTop (entryFrame m #[(.ref a0t), (.int p0), (.int p1), (.int p2)] 7)) t := fun t kt => pre7 t (by
      show Steps p.tables e below (T5.setTop (mkF m 28 #[.val (.ref a0t), .val (.int p0), .val (.int p1), .val (.int p2), .val (.int (pv p0)), .val (.int (pv p1)), .val (.int (pv p2))] [(.int (pv p2)), (.int (pv p0))])) _
      refine XS.icmpYes X5.here hx rfl (pc0 := 28) (pc' := 53) rfl (hb hby d3_28) rfl (tlt hc8).2.2.1 (by decide) (by decide) ?_
      show Steps p.tables e below (T5.setTop (mkF m 53 #[.val (.ref a0t), .val (.int p0), .val (.int p1), .val (.int p2), .val (.int (pv p0)), .val (.int (pv p1)), .val (.int (pv p2))] [])) _
      refine XS.iload X5.here hx rfl (hb hby d3_53) rfl ?_
      show Steps p.tables e below (T5.setTop (mkF m 55 #[.val (.ref a0t), .val (.int p0), .val (.int p1), .val (.int p2), .val (.int (pv p0)), .val (.int (pv p1)), .val (.int (pv p2))] [(.int (pv p1))])) _
      refine XS.iload X5.here hx rfl (hb hby d3_55) rfl ?_
      exact kt)
    by_cases hc10 : (pv p1) < (pv p0)
    · have pre11 : ∀ t, Steps p.tables e below (T5.setTop (mkF m 64 #[.val (.ref a0t), .val (.int p0), .val (.int p1), .val (.int p2), .val (.int (pv p0)), .val (.int (pv p1)), .val (.int (pv p2))] [(.int (pv p2)), (.int (pv p1))])) t → Steps p.tables e below (s₁.setTop (entryFrame m #[(.ref a0t), (.int p0), (.int p1), (.int p2)] 7)) t := fun t kt => pre9 t (by
        show Steps p.tables e below (T5.setTop (mkF m 57 #[.val (.ref a0t), .val (.int p0), .val (.int p1), .val (.int p2), .val (.int (pv p0)), .val (.int (pv p1)), .val (.int (pv p2))] [(.int (pv p0)), (.int (pv p1))])) _
        refine XS.icmpNo X5.here hx rfl (hb hby d3_57) rfl (tlt hc10).2.1 ?_
        show Steps p.tables e below (T5.setTop (mkF m 60 #[.val (.ref a0t), .val (.int p0), .val (.int p1), .val (.int p2), .val (.int (pv p0)), .val (.int (pv p1)), .val (.int (pv p2))] [])) _
        refine XS.iload X5.here hx rfl (hb hby d3_60) rfl ?_
        show Steps p.tables e below (T5.setTop (mkF m 62 #[.val (.ref a0t), .val (.int p0), .val (.int p1), .val (.int p2), .val (.int (pv p0)), .val (.int (pv p1)), .val (.int (pv p2))] [(.int (pv p1))])) _
        refine XS.iload X5.here hx rfl (hb hby d3_62) rfl ?_
        exact kt)
      by_cases hc12 : (pv p2) < (pv p1)
      · obtain ⟨fs, hr, hrun, hended, hW, hsame⟩ := X5.leave (v := some (.int (0 : Int32))) (fun h => by rw [Bd.returns] at h; cases h)
        refine ⟨_, _, pre11 _ ?_, hrun, hended, _, _, rfl, ?_, ⟨_, rfl⟩, hW, hsame.mono (by decide) (by decide)⟩
        · show Steps p.tables e below (T5.setTop (mkF m 64 #[.val (.ref a0t), .val (.int p0), .val (.int p1), .val (.int p2), .val (.int (pv p0)), .val (.int (pv p1)), .val (.int (pv p2))] [(.int (pv p2)), (.int (pv p1))])) _
          refine XS.icmpYes X5.here hx rfl (pc0 := 64) (pc' := 71) rfl (hb hby d3_64) rfl (tlt hc12).2.2.1 (by decide) (by decide) ?_
          show Steps p.tables e below (T5.setTop (mkF m 71 #[.val (.ref a0t), .val (.int p0), .val (.int p1), .val (.int p2), .val (.int (pv p0)), .val (.int (pv p1)), .val (.int (pv p2))] [])) _
          refine XS.iconst X5.here hx rfl (hb hby d3_71) ?_
          show Steps p.tables e below (T5.setTop (mkF m 72 #[.val (.ref a0t), .val (.int p0), .val (.int p1), .val (.int p2), .val (.int (pv p0)), .val (.int (pv p1)), .val (.int (pv p2))] [(.int (0 : Int32))])) _
          exact retN X5 hx (t := .boolean) Bd.returns (by simp) (hb hby d3_72) hr
        · show Q3 Z a0t p0 p1 p2 pl cl pv h0 n0 _ T5.heap _
          rw [e5]
          exact ⟨by rw [show f3 p0 p1 p2 pv = (0 : Int32) from by unfold f3; rw [if_pos hc8, if_pos hc10, if_pos hc12]], N0, rfl⟩
      · obtain ⟨fs, hr, hrun, hended, hW, hsame⟩ := X5.leave (v := some (.int (1 : Int32))) (fun h => by rw [Bd.returns] at h; cases h)
        refine ⟨_, _, pre11 _ ?_, hrun, hended, _, _, rfl, ?_, ⟨_, rfl⟩, hW, hsame.mono (by decide) (by decide)⟩
        · show Steps p.tables e below (T5.setTop (mkF m 64 #[.val (.ref a0t), .val (.int p0), .val (.int p1), .val (.int p2), .val (.int (pv p0)), .val (.int (pv p1)), .val (.int (pv p2))] [(.int (pv p2)), (.int (pv p1))])) _
          refine XS.icmpNo X5.here hx rfl (hb hby d3_64) rfl (flt hc12).2.2.1 ?_
          show Steps p.tables e below (T5.setTop (mkF m 67 #[.val (.ref a0t), .val (.int p0), .val (.int p1), .val (.int p2), .val (.int (pv p0)), .val (.int (pv p1)), .val (.int (pv p2))] [])) _
          refine XS.iconst X5.here hx rfl (hb hby d3_67) ?_
          show Steps p.tables e below (T5.setTop (mkF m 68 #[.val (.ref a0t), .val (.int p0), .val (.int p1), .val (.int p2), .val (.int (pv p0)), .val (.int (pv p1)), .val (.int (pv p2))] [(.int (1 : Int32))])) _
          refine XS.goto X5.here hx rfl (pc0 := 68) (pc' := 72) rfl (hb hby d3_68) (by decide) (by decide) ?_
          show Steps p.tables e below (T5.setTop (mkF m 72 #[.val (.ref a0t), .val (.int p0), .val (.int p1), .val (.int p2), .val (.int (pv p0)), .val (.int (pv p1)), .val (.int (pv p2))] [(.int (1 : Int32))])) _
          exact retN X5 hx (t := .boolean) Bd.returns (by simp) (hb hby d3_72) hr
        · show Q3 Z a0t p0 p1 p2 pl cl pv h0 n0 _ T5.heap _
          rw [e5]
          exact ⟨by rw [show f3 p0 p1 p2 pv = (1 : Int32) from by unfold f3; rw [if_pos hc8, if_pos hc10, if_neg hc12]], N0, rfl⟩
    · obtain ⟨fs, hr, hrun, hended, hW, hsame⟩ := X5.leave (v := some (.int (1 : Int32))) (fun h => by rw [Bd.returns] at h; cases h)
      refine ⟨_, _, pre9 _ ?_, hrun, hended, _, _, rfl, ?_, ⟨_, rfl⟩, hW, hsame.mono (by decide) (by decide)⟩
      · show Steps p.tables e below (T5.setTop (mkF m 57 #[.val (.ref a0t), .val (.int p0), .val (.int p1), .val (.int p2), .val (.int (pv p0)), .val (.int (pv p1)), .val (.int (pv p2))] [(.int (pv p0)), (.int (pv p1))])) _
        refine XS.icmpYes X5.here hx rfl (pc0 := 57) (pc' := 67) rfl (hb hby d3_57) rfl (flt hc10).2.1 (by decide) (by decide) ?_
        show Steps p.tables e below (T5.setTop (mkF m 67 #[.val (.ref a0t), .val (.int p0), .val (.int p1), .val (.int p2), .val (.int (pv p0)), .val (.int (pv p1)), .val (.int (pv p2))] [])) _
        refine XS.iconst X5.here hx rfl (hb hby d3_67) ?_
        show Steps p.tables e below (T5.setTop (mkF m 68 #[.val (.ref a0t), .val (.int p0), .val (.int p1), .val (.int p2), .val (.int (pv p0)), .val (.int (pv p1)), .val (.int (pv p2))] [(.int (1 : Int32))])) _
        refine XS.goto X5.here hx rfl (pc0 := 68) (pc' := 72) rfl (hb hby d3_68) (by decide) (by decide) ?_
        show Steps p.tables e below (T5.setTop (mkF m 72 #[.val (.ref a0t), .val (.int p0), .val (.int p1), .val (.int p2), .val (.int (pv p0)), .val (.int (pv p1)), .val (.int (pv p2))] [(.int (1 : Int32))])) _
        exact retN X5 hx (t := .boolean) Bd.returns (by simp) (hb hby d3_72) hr
      · show Q3 Z a0t p0 p1 p2 pl cl pv h0 n0 _ T5.heap _
        rw [e5]
        exact ⟨by rw [show f3 p0 p1 p2 pv = (1 : Int32) from by unfold f3; rw [if_pos hc8, if_neg hc10]], N0, rfl⟩
  · have pre13 : ∀ t, Steps p.tables e below (T5.setTop (mkF m 35 #[.val (.ref a0t), .val (.int p0), .val (.int p1), .val (.int p2), .val (.int (pv p0)), .val (.int (pv p1)), .val (.int (pv p2))] [(.int (pv p1)), (.int (pv p0))])) t → Steps p.tables e below (s₁.setTop (entryFrame m #[(.ref a0t), (.int p0), (.int p1), (.int p2)] 7)) t := fun t kt => pre7 t (by
      show Steps p.tables e below (T5.setTop (mkF m 28 #[.val (.ref a0t), .val (.int p0), .val (.int p1), .val (.int p2), .val (.int (pv p0)), .val (.int (pv p1)), .val (.int (pv p2))] [(.int (pv p2)), (.int (pv p0))])) _
      refine XS.icmpNo X5.here hx rfl (hb hby d3_28) rfl (flt hc8).2.2.1 ?_
      show Steps p.tables e below (T5.setTop (mkF m 31 #[.val (.ref a0t), .val (.int p0), .val (.int p1), .val (.int p2), .val (.int (pv p0)), .val (.int (pv p1)), .val (.int (pv p2))] [])) _
      refine XS.iload X5.here hx rfl (hb hby d3_31) rfl ?_
      show Steps p.tables e below (T5.setTop (mkF m 33 #[.val (.ref a0t), .val (.int p0), .val (.int p1), .val (.int p2), .val (.int (pv p0)), .val (.int (pv p1)), .val (.int (pv p2))] [(.int (pv p0))])) _
      refine XS.iload X5.here hx rfl (hb hby d3_33) rfl ?_
      exact kt)
    by_cases hc14 : (pv p1) < (pv p0)
    · obtain ⟨fs, hr, hrun, hended, hW, hsame⟩ := X5.leave (v := some (.int (0 : Int32))) (fun h => by rw [Bd.returns] at h; cases h)
      refine ⟨_, _, pre13 _ ?_, hrun, hended, _, _, rfl, ?_, ⟨_, rfl⟩, hW, hsame.mono (by decide) (by decide)⟩
      · show Steps p.tables e below (T5.setTop (mkF m 35 #[.val (.ref a0t), .val (.int p0), .val (.int p1), .val (.int p2), .val (.int (pv p0)), .val (.int (pv p1)), .val (.int (pv p2))] [(.int (pv p1)), (.int (pv p0))])) _
        refine XS.icmpYes X5.here hx rfl (pc0 := 35) (pc' := 49) rfl (hb hby d3_35) rfl (tlt hc14).2.2.1 (by decide) (by decide) ?_
        show Steps p.tables e below (T5.setTop (mkF m 49 #[.val (.ref a0t), .val (.int p0), .val (.int p1), .val (.int p2), .val (.int (pv p0)), .val (.int (pv p1)), .val (.int (pv p2))] [])) _
        refine XS.iconst X5.here hx rfl (hb hby d3_49) ?_
        show Steps p.tables e below (T5.setTop (mkF m 50 #[.val (.ref a0t), .val (.int p0), .val (.int p1), .val (.int p2), .val (.int (pv p0)), .val (.int (pv p1)), .val (.int (pv p2))] [(.int (0 : Int32))])) _
        refine XS.goto X5.here hx rfl (pc0 := 50) (pc' := 72) rfl (hb hby d3_50) (by decide) (by decide) ?_
        show Steps p.tables e below (T5.setTop (mkF m 72 #[.val (.ref a0t), .val (.int p0), .val (.int p1), .val (.int p2), .val (.int (pv p0)), .val (.int (pv p1)), .val (.int (pv p2))] [(.int (0 : Int32))])) _
        exact retN X5 hx (t := .boolean) Bd.returns (by simp) (hb hby d3_72) hr
      · show Q3 Z a0t p0 p1 p2 pl cl pv h0 n0 _ T5.heap _
        rw [e5]
        exact ⟨by rw [show f3 p0 p1 p2 pv = (0 : Int32) from by unfold f3; rw [if_neg hc8, if_pos hc14]], N0, rfl⟩
    · have pre15 : ∀ t, Steps p.tables e below (T5.setTop (mkF m 42 #[.val (.ref a0t), .val (.int p0), .val (.int p1), .val (.int p2), .val (.int (pv p0)), .val (.int (pv p1)), .val (.int (pv p2))] [(.int (pv p2)), (.int (pv p1))])) t → Steps p.tables e below (s₁.setTop (entryFrame m #[(.ref a0t), (.int p0), (.int p1), (.int p2)] 7)) t := fun t kt => pre13 t (by
        show Steps p.tables e below (T5.setTop (mkF m 35 #[.val (.ref a0t), .val (.int p0), .val (.int p1), .val (.int p2), .val (.int (pv p0)), .val (.int (pv p1)), .val (.int (pv p2))] [(.int (pv p1)), (.int (pv p0))])) _
        refine XS.icmpNo X5.here hx rfl (hb hby d3_35) rfl (flt hc14).2.2.1 ?_
        show Steps p.tables e below (T5.setTop (mkF m 38 #[.val (.ref a0t), .val (.int p0), .val (.int p1), .val (.int p2), .val (.int (pv p0)), .val (.int (pv p1)), .val (.int (pv p2))] [])) _
        refine XS.iload X5.here hx rfl (hb hby d3_38) rfl ?_
        show Steps p.tables e below (T5.setTop (mkF m 40 #[.val (.ref a0t), .val (.int p0), .val (.int p1), .val (.int p2), .val (.int (pv p0)), .val (.int (pv p1)), .val (.int (pv p2))] [(.int (pv p1))])) _
        refine XS.iload X5.here hx rfl (hb hby d3_40) rfl ?_
        exact kt)
      by_cases hc16 : (pv p2) < (pv p1)
      · obtain ⟨fs, hr, hrun, hended, hW, hsame⟩ := X5.leave (v := some (.int (0 : Int32))) (fun h => by rw [Bd.returns] at h; cases h)
        refine ⟨_, _, pre15 _ ?_, hrun, hended, _, _, rfl, ?_, ⟨_, rfl⟩, hW, hsame.mono (by decide) (by decide)⟩
        · show Steps p.tables e below (T5.setTop (mkF m 42 #[.val (.ref a0t), .val (.int p0), .val (.int p1), .val (.int p2), .val (.int (pv p0)), .val (.int (pv p1)), .val (.int (pv p2))] [(.int (pv p2)), (.int (pv p1))])) _
          refine XS.icmpYes X5.here hx rfl (pc0 := 42) (pc' := 49) rfl (hb hby d3_42) rfl (tlt hc16).2.2.1 (by decide) (by decide) ?_
          show Steps p.tables e below (T5.setTop (mkF m 49 #[.val (.ref a0t), .val (.int p0), .val (.int p1), .val (.int p2), .val (.int (pv p0)), .val (.int (pv p1)), .val (.int (pv p2))] [])) _
          refine XS.iconst X5.here hx rfl (hb hby d3_49) ?_
          show Steps p.tables e below (T5.setTop (mkF m 50 #[.val (.ref a0t), .val (.int p0), .val (.int p1), .val (.int p2), .val (.int (pv p0)), .val (.int (pv p1)), .val (.int (pv p2))] [(.int (0 : Int32))])) _
          refine XS.goto X5.here hx rfl (pc0 := 50) (pc' := 72) rfl (hb hby d3_50) (by decide) (by decide) ?_
          show Steps p.tables e below (T5.setTop (mkF m 72 #[.val (.ref a0t), .val (.int p0), .val (.int p1), .val (.int p2), .val (.int (pv p0)), .val (.int (pv p1)), .val (.int (pv p2))] [(.int (0 : Int32))])) _
          exact retN X5 hx (t := .boolean) Bd.returns (by simp) (hb hby d3_72) hr
        · show Q3 Z a0t p0 p1 p2 pl cl pv h0 n0 _ T5.heap _
          rw [e5]
          exact ⟨by rw [show f3 p0 p1 p2 pv = (0 : Int32) from by unfold f3; rw [if_neg hc8, if_neg hc14, if_pos hc16]], N0, rfl⟩
      · obtain ⟨fs, hr, hrun, hended, hW, hsame⟩ := X5.leave (v := some (.int (1 : Int32))) (fun h => by rw [Bd.returns] at h; cases h)
        refine ⟨_, _, pre15 _ ?_, hrun, hended, _, _, rfl, ?_, ⟨_, rfl⟩, hW, hsame.mono (by decide) (by decide)⟩
        · show Steps p.tables e below (T5.setTop (mkF m 42 #[.val (.ref a0t), .val (.int p0), .val (.int p1), .val (.int p2), .val (.int (pv p0)), .val (.int (pv p1)), .val (.int (pv p2))] [(.int (pv p2)), (.int (pv p1))])) _
          refine XS.icmpNo X5.here hx rfl (hb hby d3_42) rfl (flt hc16).2.2.1 ?_
          show Steps p.tables e below (T5.setTop (mkF m 45 #[.val (.ref a0t), .val (.int p0), .val (.int p1), .val (.int p2), .val (.int (pv p0)), .val (.int (pv p1)), .val (.int (pv p2))] [])) _
          refine XS.iconst X5.here hx rfl (hb hby d3_45) ?_
          show Steps p.tables e below (T5.setTop (mkF m 46 #[.val (.ref a0t), .val (.int p0), .val (.int p1), .val (.int p2), .val (.int (pv p0)), .val (.int (pv p1)), .val (.int (pv p2))] [(.int (1 : Int32))])) _
          refine XS.goto X5.here hx rfl (pc0 := 46) (pc' := 72) rfl (hb hby d3_46) (by decide) (by decide) ?_
          show Steps p.tables e below (T5.setTop (mkF m 72 #[.val (.ref a0t), .val (.int p0), .val (.int p1), .val (.int p2), .val (.int (pv p0)), .val (.int (pv p1)), .val (.int (pv p2))] [(.int (1 : Int32))])) _
          exact retN X5 hx (t := .boolean) Bd.returns (by simp) (hb hby d3_72) hr
        · show Q3 Z a0t p0 p1 p2 pl cl pv h0 n0 _ T5.heap _
          rw [e5]
          exact ⟨by rw [show f3 p0 p1 p2 pv = (1 : Int32) from by unfold f3; rw [if_neg hc8, if_neg hc14, if_neg hc16]], N0, rfl⟩
def own_m (p0 : Int32) : Int32 := 1 + (p0 &&& 2147483647) % 6
def own_k (p1 : Int32) : Int32 := (p1 &&& 2147483647) % 7
def own_cm (m k j : Int32) : Int32 := if j = 0 then (k % 7) else if j = 1 then ((m + k) % 7) else if j = 2 then ((2 * m + k) % 7) else if j = 3 then ((3 * m + k) % 7) else if j = 4 then ((4 * m + k) % 7) else if j = 5 then ((5 * m + k) % 7) else ((6 * m + k) % 7)
def own_plm (m k x : Int32) : Int32 := if ((6 * m + k) % 7) = x then 6 else if ((5 * m + k) % 7) = x then 5 else if ((4 * m + k) % 7) = x then 4 else if ((3 * m + k) % 7) = x then 3 else if ((2 * m + k) % 7) = x then 2 else if ((m + k) % 7) = x then 1 else if (k % 7) = x then 0 else 0
def own_c (p0 p1 j : Int32) : Int32 := own_cm (own_m p0) (own_k p1) j
def own_pl (p0 p1 x : Int32) : Int32 := own_plm (own_m p0) (own_k p1) x
theorem own_of {c : Int32} {k : Nat} (h0 : 0 ≤ c.toInt) (h1 : c.toInt < k) : ∃ n : Fin k, c = Int32.ofInt ((n.val : Nat) : Int) :=
  ⟨⟨c.toInt.toNat, by omega⟩, by show c = Int32.ofInt ((c.toInt.toNat : Nat) : Int); rw [Int.toNat_of_nonneg h0, Int32.ofInt_toInt]⟩
theorem own_nn (x : Int32) : 0 ≤ (x &&& 2147483647).toInt := by
  have e := c_mask x 2147483647 31 (by decide) (by decide)
  have e2 : ((2 ^ 31 : Nat) : Int) = 2147483648 := by decide
  rw [e, e2]; omega
theorem own_p1 (p : Int32) : 0 ≤ ((p &&& (2147483647 : Int32)) % (7 : Int32)).toInt := by
  have h := (c_irem (p &&& 2147483647) 7 7 rfl).1 (own_nn p)
  rw [h]; omega
theorem own_p2 (p : Int32) : ((p &&& (2147483647 : Int32)) % (7 : Int32)).toInt < 7 := by
  have h := (c_irem (p &&& 2147483647) 7 7 rfl).1 (own_nn p)
  rw [h]; omega
theorem own_kf (p1 : Int32) : ∃ n : Fin 7, own_k p1 = Int32.ofInt ((n.val : Nat) : Int) := own_of (own_p1 p1) (own_p2 p1)
theorem own_mf (p0 : Int32) : ∃ n : Fin 7, own_m p0 = Int32.ofInt ((n.val : Nat) : Int) ∧ n.val ≠ 0 := by
  have h := (c_irem (p0 &&& 2147483647) 6 6 rfl).1 (own_nn p0)
  have a := c_iadd 1 ((p0 &&& 2147483647) % 6)
  have r := rng32 (1 + (p0 &&& 2147483647) % 6)
  have l : (1 : Int32).toInt = 1 := rfl
  have v : (own_m p0).toInt = 1 + ((p0 &&& 2147483647) % 6).toInt := by unfold own_m; omega
  obtain ⟨n, e⟩ := own_of (c := own_m p0) (k := 7) (by omega) (by omega)
  refine ⟨n, e, fun q => ?_⟩
  rw [e, q] at v
  have z : (Int32.ofInt ((0 : Nat) : Int)).toInt = 0 := rfl
  omega
theorem own_cmb : ∀ m : Fin 7, ∀ k : Fin 7, ∀ j : Fin 7, ¬ (own_cm (Int32.ofInt ((m.val : Nat) : Int)) (Int32.ofInt ((k.val : Nat) : Int)) (Int32.ofInt ((j.val : Nat) : Int)) < 0) ∧ own_cm (Int32.ofInt ((m.val : Nat) : Int)) (Int32.ofInt ((k.val : Nat) : Int)) (Int32.ofInt ((j.val : Nat) : Int)) < 7 := by decide +kernel
theorem own_cs (p0 p1 : Int32) (j : Fin 7) : ¬ (own_c p0 p1 (Int32.ofInt ((j.val : Nat) : Int)) < 0) ∧ own_c p0 p1 (Int32.ofInt ((j.val : Nat) : Int)) < 7 := by
  obtain ⟨a, ha, -⟩ := own_mf p0
  obtain ⟨b, hb⟩ := own_kf p1
  unfold own_c
  rw [ha, hb]
  exact own_cmb a b j
theorem own_cb (p0 p1 p : Int32) : 0 ≤ (own_c p0 p1 ((p &&& (2147483647 : Int32)) % (7 : Int32))).toInt ∧ (own_c p0 p1 ((p &&& (2147483647 : Int32)) % (7 : Int32))).toInt < 7 := by
  obtain ⟨j, hj⟩ := own_of (own_p1 p) (own_p2 p)
  rw [hj]
  have h := own_cs p0 p1 j
  rw [Int32.lt_iff_toInt_lt, Int32.lt_iff_toInt_lt] at h
  have l0 : (0 : Int32).toInt = 0 := rfl
  have l7 : (7 : Int32).toInt = 7 := rfl
  omega
theorem own_hb0 (p0 p1 : Int32) : ¬ (own_c p0 p1 0 < (0 : Int32)) ∧ own_c p0 p1 0 < (7 : Int32) := own_cs p0 p1 ⟨0, by decide⟩
theorem own_hb1 (p0 p1 : Int32) : ¬ (own_c p0 p1 1 < (0 : Int32)) ∧ own_c p0 p1 1 < (7 : Int32) := own_cs p0 p1 ⟨1, by decide⟩
theorem own_hb2 (p0 p1 : Int32) : ¬ (own_c p0 p1 2 < (0 : Int32)) ∧ own_c p0 p1 2 < (7 : Int32) := own_cs p0 p1 ⟨2, by decide⟩
theorem own_hb3 (p0 p1 : Int32) : ¬ (own_c p0 p1 3 < (0 : Int32)) ∧ own_c p0 p1 3 < (7 : Int32) := own_cs p0 p1 ⟨3, by decide⟩
theorem own_hb4 (p0 p1 : Int32) : ¬ (own_c p0 p1 4 < (0 : Int32)) ∧ own_c p0 p1 4 < (7 : Int32) := own_cs p0 p1 ⟨4, by decide⟩
theorem own_hb5 (p0 p1 : Int32) : ¬ (own_c p0 p1 5 < (0 : Int32)) ∧ own_c p0 p1 5 < (7 : Int32) := own_cs p0 p1 ⟨5, by decide⟩
theorem own_hb6 (p0 p1 : Int32) : ¬ (own_c p0 p1 6 < (0 : Int32)) ∧ own_c p0 p1 6 < (7 : Int32) := own_cs p0 p1 ⟨6, by decide⟩
theorem own_in7 {cl : Cell} (S : cl.slots.size = (7 : Int32).toNatClampNeg) {i : Int32} (h0 : 0 ≤ i.toInt) (h1 : i.toInt < 7) : ¬ (i < 0 ∨ cl.slots.size ≤ i.toNatClampNeg) := by
  have l0 : (0 : Int32).toInt = 0 := rfl
  have l7 : (7 : Int32).toNatClampNeg = 7 := rfl
  rw [S, l7, Int32.lt_iff_toInt_lt]
  simp only [Int32.toNatClampNeg]
  omega
theorem own_hat (p0 p1 : Int32) {c : Cell} {dv : Value} (H : Has c [.int (own_k p1 % 7), .int ((own_m p0 + own_k p1) % 7), .int ((2 * own_m p0 + own_k p1) % 7), .int ((3 * own_m p0 + own_k p1) % 7), .int ((4 * own_m p0 + own_k p1) % 7), .int ((5 * own_m p0 + own_k p1) % 7), .int ((6 * own_m p0 + own_k p1) % 7)] dv) (S : c.slots.size = (7 : Int32).toNatClampNeg) (i : Int32) (h0 : 0 ≤ i.toInt) (h1 : i.toInt < 7) : c.slots[i.toNatClampNeg]? = some (.int (own_c p0 p1 i)) := by
  obtain ⟨n, rfl⟩ := own_of (k := 7) h0 h1
  have hs := H n.val (by rw [S]; have := n.isLt; show n.val < 7; omega)
  have e : ∀ n : Fin 7, (Int32.ofInt ((n.val : Nat) : Int)).toNatClampNeg = n.val := by decide +kernel
  rw [e n, hs]
  match n with
  | ⟨0, _⟩ => rfl
  | ⟨1, _⟩ => rfl
  | ⟨2, _⟩ => rfl
  | ⟨3, _⟩ => rfl
  | ⟨4, _⟩ => rfl
  | ⟨5, _⟩ => rfl
  | ⟨6, _⟩ => rfl
theorem own_hatp (p0 p1 : Int32) {c : Cell} (H : ∀ i, i < c.slots.size → c.slots[i]? = some (getH [(((6 * own_m p0 + own_k p1) % 7), .int 6), (((5 * own_m p0 + own_k p1) % 7), .int 5), (((4 * own_m p0 + own_k p1) % 7), .int 4), (((3 * own_m p0 + own_k p1) % 7), .int 3), (((2 * own_m p0 + own_k p1) % 7), .int 2), (((own_m p0 + own_k p1) % 7), .int 1), ((own_k p1 % 7), .int 0)] [.int 0, .int 0, .int 0, .int 0, .int 0, .int 0, .int 0] (.int 0) i)) (S : c.slots.size = (7 : Int32).toNatClampNeg) (i : Int32) (h0 : 0 ≤ i.toInt) (h1 : i.toInt < 7) : c.slots[i.toNatClampNeg]? = some (.int (own_pl p0 p1 i)) := by
  have hq : ¬ i < 0 := by rw [Int32.lt_iff_toInt_lt]; have l0 : (0 : Int32).toInt = 0 := rfl; omega
  refine atH H (own_in7 S h0 h1) ?_
  unfold own_pl own_plm
  by_cases g6 : ((6 * own_m p0 + own_k p1) % 7) = i
  · rw [if_pos g6]; exact getH_hit hq g6.symm
  rw [if_neg g6]
  refine getH_miss hq (fun z => g6 z.symm) ?_
  by_cases g5 : ((5 * own_m p0 + own_k p1) % 7) = i
  · rw [if_pos g5]; exact getH_hit hq g5.symm
  rw [if_neg g5]
  refine getH_miss hq (fun z => g5 z.symm) ?_
  by_cases g4 : ((4 * own_m p0 + own_k p1) % 7) = i
  · rw [if_pos g4]; exact getH_hit hq g4.symm
  rw [if_neg g4]
  refine getH_miss hq (fun z => g4 z.symm) ?_
  by_cases g3 : ((3 * own_m p0 + own_k p1) % 7) = i
  · rw [if_pos g3]; exact getH_hit hq g3.symm
  rw [if_neg g3]
  refine getH_miss hq (fun z => g3 z.symm) ?_
  by_cases g2 : ((2 * own_m p0 + own_k p1) % 7) = i
  · rw [if_pos g2]; exact getH_hit hq g2.symm
  rw [if_neg g2]
  refine getH_miss hq (fun z => g2 z.symm) ?_
  by_cases g1 : ((own_m p0 + own_k p1) % 7) = i
  · rw [if_pos g1]; exact getH_hit hq g1.symm
  rw [if_neg g1]
  refine getH_miss hq (fun z => g1 z.symm) ?_
  by_cases g0 : (own_k p1 % 7) = i
  · rw [if_pos g0]; exact getH_hit hq g0.symm
  rw [if_neg g0]
  refine getH_miss hq (fun z => g0 z.symm) ?_
  exact getH_all rfl _
theorem pd_0 : parseMethodDescriptor "([I)V" = some ⟨[(.array .int)], none⟩ := by decide +kernel
theorem pd_1 : parseMethodDescriptor "(III)Z" = some ⟨[.int, .int, .int], some .boolean⟩ := by decide +kernel
theorem pn_1 : plainName "com/example/itinerant/itinerant/ArrayTourBetweenPinLaw" = true := by first | (simp [plainName, overriddenIn]; done) | decide +kernel
theorem ef_0 (m : MethodId) (x0 : Int32) (x1 : Int32) (x2 : Int32) (x3 : Int32) (x4 : Int32) : entryFrame m #[(.int x0), (.int x1), (.int x2), (.int x3), (.int x4)] maxLocals = mkF m 0 #[.val (.int x0), .val (.int x1), .val (.int x2), .val (.int x3), .val (.int x4), .unset, .unset, .unset, .unset, .unset, .unset, .unset, .unset, .unset, .unset] [] := by first | (simp [entryFrame, mkF, argsToLocals, Value.category, maxLocals]; done) | rfl
def f0_e1 (p0 : Int32) (p1 : Int32) : Int32 := (((1 : Int32) + ((p0 &&& (2147483647 : Int32)) % (6 : Int32))) + ((p1 &&& (2147483647 : Int32)) % (7 : Int32)))
def f0_e2 (p0 : Int32) : Int32 := ((2 : Int32) * ((1 : Int32) + ((p0 &&& (2147483647 : Int32)) % (6 : Int32))))
def f0_e3 (p0 : Int32) (p1 : Int32) : Int32 := (((f0_e2 p0) + ((p1 &&& (2147483647 : Int32)) % (7 : Int32))) % (7 : Int32))
def f0_e4 (p0 : Int32) : Int32 := ((3 : Int32) * ((1 : Int32) + ((p0 &&& (2147483647 : Int32)) % (6 : Int32))))
def f0_e5 (p0 : Int32) (p1 : Int32) : Int32 := (((f0_e4 p0) + ((p1 &&& (2147483647 : Int32)) % (7 : Int32))) % (7 : Int32))
def f0_e6 (p0 : Int32) : Int32 := ((4 : Int32) * ((1 : Int32) + ((p0 &&& (2147483647 : Int32)) % (6 : Int32))))
def f0_e7 (p0 : Int32) (p1 : Int32) : Int32 := (((f0_e6 p0) + ((p1 &&& (2147483647 : Int32)) % (7 : Int32))) % (7 : Int32))
def f0_e8 (p0 : Int32) : Int32 := ((5 : Int32) * ((1 : Int32) + ((p0 &&& (2147483647 : Int32)) % (6 : Int32))))
def f0_e9 (p0 : Int32) (p1 : Int32) : Int32 := (((f0_e8 p0) + ((p1 &&& (2147483647 : Int32)) % (7 : Int32))) % (7 : Int32))
def f0_e10 (p0 : Int32) : Int32 := ((6 : Int32) * ((1 : Int32) + ((p0 &&& (2147483647 : Int32)) % (6 : Int32))))
def f0_e11 (p0 : Int32) (p1 : Int32) : Int32 := (((f0_e10 p0) + ((p1 &&& (2147483647 : Int32)) % (7 : Int32))) % (7 : Int32))
def f0_e12 (p0 : Int32) (p1 : Int32) (p2 : Int32) (p3 : Int32) (p4 : Int32) : Int32 := (f3 (own_c p0 p1 ((p2 &&& (2147483647 : Int32)) % (7 : Int32))) (own_c p0 p1 ((p3 &&& (2147483647 : Int32)) % (7 : Int32))) (own_c p0 p1 ((p4 &&& (2147483647 : Int32)) % (7 : Int32))) (own_pl p0 p1))
def f0_e13 (p2 : Int32) (p3 : Int32) : Int32 := (((p3 &&& (2147483647 : Int32)) % (7 : Int32)) - ((p2 &&& (2147483647 : Int32)) % (7 : Int32)))
def f0_e14 (p2 : Int32) (p4 : Int32) : Int32 := (((p4 &&& (2147483647 : Int32)) % (7 : Int32)) - ((p2 &&& (2147483647 : Int32)) % (7 : Int32)))
def f0_s0_220001 (p2 : Int32) (p3 : Int32) (p4 : Int32) : Int32 := (if (((f0_e14 p2 p4) + (7 : Int32)) % (7 : Int32)) < (((f0_e13 p2 p3) + (7 : Int32)) % (7 : Int32)) then (0 : Int32) else (1 : Int32))
def f0 (p0 : Int32) (p1 : Int32) (p2 : Int32) (p3 : Int32) (p4 : Int32) : Int32 := (if (f0_e12 p0 p1 p2 p3 p4) = (f0_s0_220001 p2 p3 p4) then (1 : Int32) else (0 : Int32))
def Q0 (Z : State) (p0 : Int32) (p1 : Int32) (p2 : Int32) (p3 : Int32) (p4 : Int32) (h0 : Heap) (n0 : Nat) (v : Option Value) (h : Heap) (L : List Loc) : Prop := v = some (.int (f0 p0 p1 p2 p3 p4)) ∧ Fr n0 L
set_option maxRecDepth 65536 in
set_option maxHeartbeats 40000000 in
theorem rm0 (l : Launch) (Z : State) (a0 : Array Value) (hw : ∀ d ∈ tables_1, d.before a0 Z = true) (ws : List Jvm.Cond) (p0 : Int32) (p1 : Int32) (p2 : Int32) (p3 : Int32) (p4 : Int32) (h0 : Heap) (n0 : Nat) (Z0 : n0 ≤ h0.size)  :
    MetFree l x (head1 (Jvm.Cond.code x code maxLocals ret :: ws) room_1) (fun a U => a = #[(.int p0), (.int p1), (.int p2), (.int p3), (.int p4)] ∧ Z.Warmed39 U.vm ∧ U.heap = h0) (fun _ _ _ _ _ => True) (fun _ U o U' => ∃ v L, o = .returned v ∧ Q0 Z p0 p1 p2 p3 p4 h0 n0 v U'.heap L ∧ FrameEnd U o U' L room_1.cells room_1.slots) := by
  refine MetFree.of_bodySF (plainFor_of_name pn_1) hisR ?_
  intro p e s m args below meth c s₁ Bd hml0 hP hK
  obtain ⟨rfl, hZ, hh⟩ := hP
  have hx := Bd.exec
  have hby := Bd.bytes
  have hml : c.maxLocals = 15 := hml0
  have hown : s.vm.findClass "com/example/itinerant/itinerant/ArrayTourBetweenPinLaw" = some m.cls := findClass_of_methodNamed Bd.named
  have hnm := (name_of_methodNamed Bd.named Bd.method).1
  have X0 : Stand p l e room_1 s m #[(.int p0), (.int p1), (.int p2), (.int p3), (.int p4)] below meth c s₁ [] 0 0 := Stand.of_body Bd
  have e0 : s₁.heap = h0 := by rw [← hh, Bd.state]; rfl
  have N0 := Fr.nil n0
  have K0 := Keep.refl h0 []
  have pre0 : ∀ t, Steps p.tables e below (s₁.setTop (mkF m 0 #[.val (.int p0), .val (.int p1), .val (.int p2), .val (.int p3), .val (.int p4), .unset, .unset, .unset, .unset, .unset, .unset, .unset, .unset, .unset, .unset] [])) t → Steps p.tables e below (s₁.setTop (entryFrame m #[(.int p0), (.int p1), (.int p2), (.int p3), (.int p4)] maxLocals)) t := fun t k => castTop (ef_0 m p0 p1 p2 p3 p4) k
  obtain ⟨T1, h1, k1, X1, e1, E1, A1, Ea1, st1⟩ := newPE X0 hx hZ (hw _ (List.mem_of_getElem? (i := 1) rfl)) e0 (g := (mkF m 22 #[.val (.int p0), .val (.int p1), .val (.int p2), .val (.int p3), .val (.int p4), .val (.int ((1 : Int32) + ((p0 &&& (2147483647 : Int32)) % (6 : Int32)))), .val (.int ((p1 &&& (2147483647 : Int32)) % (7 : Int32))), .unset, .unset, .unset, .unset, .unset, .unset, .unset, .unset] [(.int (7 : Int32))])) rfl (hb hby at_22) rfl (by decide) (cap := 7) (by decide) (by decide) (by decide) (by decide) (ad := "[I") rfl
  obtain ⟨b1, g1⟩ : ∃ z, z = h0.size := ⟨_, rfl⟩
  rw [← g1] at A1 Ea1 st1
  have gn_b1 : n0 ≤ b1 := Nat.le_trans Z0 (Nat.le_of_eq g1.symm)
  have sz_b1 : h0.size ≤ b1 := Nat.le_trans K0.1 (Nat.le_of_eq g1.symm)
  have Zz1 := Nat.le_trans Z0 E1.1
  have K1 := K0.ext E1
  have V_b1 : Arv Z h1 b1 k1 .int (7 : Int32) [(.int (0 : Int32)), (.int (0 : Int32)), (.int (0 : Int32)), (.int (0 : Int32)), (.int (0 : Int32)), (.int (0 : Int32)), (.int (0 : Int32))] (.int (0 : Int32)) := (Arv.new A1 (by decide)).pad (pad_rep [] (.int (0 : Int32)) 7)
  obtain ⟨cl2, Ar2, q2, S2, N2_, H2, G2⟩ := id V_b1
  have hin2 : ¬ ((0 : Int32) < 0 ∨ cl2.slots.size ≤ ((0 : Int32)).toNatClampNeg) := inb_of S2 ⟨by decide, by decide⟩
  obtain ⟨T2, h2, X2, e2, W2, st2⟩ := stI X1 hx hZ e1 Ar2 (j := (0 : Int32)) hin2 (g := (mkF m 34 #[.val (.int p0), .val (.int p1), .val (.int p2), .val (.int p3), .val (.int p4), .val (.int ((1 : Int32) + ((p0 &&& (2147483647 : Int32)) % (6 : Int32)))), .val (.int ((p1 &&& (2147483647 : Int32)) % (7 : Int32))), .val (.ref b1), .unset, .unset, .unset, .unset, .unset, .unset, .unset] [(.int (((p1 &&& (2147483647 : Int32)) % (7 : Int32)) % (7 : Int32))), (.int (0 : Int32)), (.ref b1)])) rfl rfl (hb hby at_34)
  have V_b1_2 : Arv Z h2 b1 k1 .int (7 : Int32) [(.int (((p1 &&& (2147483647 : Int32)) % (7 : Int32)) % (7 : Int32))), (.int (0 : Int32)), (.int (0 : Int32)), (.int (0 : Int32)), (.int (0 : Int32)), (.int (0 : Int32)), (.int (0 : Int32))] (.int (0 : Int32)) := Arv.set Ar2 q2 S2 N2_ H2 G2 rfl W2 0 rfl (Nat.le_of_ble_eq_true rfl)
  have E_b1_2 := Ea1.wr W2
  have N2 := Fr.snoc X2 N0 gn_b1
  have Zz2 := Nat.le_trans Zz1 (Keep.of_wr W2).1
  have K2 : Keep h0 h2 [] := K1.wr W2 (Or.inr sz_b1)
  obtain ⟨cl3, Ar3, q3, S3, N3_, H3, G3⟩ := id V_b1_2
  have hin3 : ¬ ((1 : Int32) < 0 ∨ cl3.slots.size ≤ ((1 : Int32)).toNatClampNeg) := inb_of S3 ⟨by decide, by decide⟩
  obtain ⟨T3, h3, X3, e3, W3, st3⟩ := stI X2 hx hZ e2 Ar3 (j := (1 : Int32)) hin3 (g := (mkF m 46 #[.val (.int p0), .val (.int p1), .val (.int p2), .val (.int p3), .val (.int p4), .val (.int ((1 : Int32) + ((p0 &&& (2147483647 : Int32)) % (6 : Int32)))), .val (.int ((p1 &&& (2147483647 : Int32)) % (7 : Int32))), .val (.ref b1), .unset, .unset, .unset, .unset, .unset, .unset, .unset] [(.int ((f0_e1 p0 p1) % (7 : Int32))), (.int (1 : Int32)), (.ref b1)])) rfl rfl (hb hby at_46)
  have V_b1_3 : Arv Z h3 b1 k1 .int (7 : Int32) [(.int (((p1 &&& (2147483647 : Int32)) % (7 : Int32)) % (7 : Int32))), (.int ((f0_e1 p0 p1) % (7 : Int32))), (.int (0 : Int32)), (.int (0 : Int32)), (.int (0 : Int32)), (.int (0 : Int32)), (.int (0 : Int32))] (.int (0 : Int32)) := Arv.set Ar3 q3 S3 N3_ H3 G3 rfl W3 1 rfl (Nat.le_of_ble_eq_true rfl)
  have E_b1_3 := E_b1_2.wr W3
  have N3 := Fr.snoc X3 N2 gn_b1
  have Zz3 := Nat.le_trans Zz2 (Keep.of_wr W3).1
  have K3 : Keep h0 h3 [] := K2.wr W3 (Or.inr sz_b1)
  obtain ⟨cl4, Ar4, q4, S4, N4_, H4, G4⟩ := id V_b1_3
  have hin4 : ¬ ((2 : Int32) < 0 ∨ cl4.slots.size ≤ ((2 : Int32)).toNatClampNeg) := inb_of S4 ⟨by decide, by decide⟩
  obtain ⟨T4, h4, X4, e4, W4, st4⟩ := stI X3 hx hZ e3 Ar4 (j := (2 : Int32)) hin4 (g := (mkF m 60 #[.val (.int p0), .val (.int p1), .val (.int p2), .val (.int p3), .val (.int p4), .val (.int ((1 : Int32) + ((p0 &&& (2147483647 : Int32)) % (6 : Int32)))), .val (.int ((p1 &&& (2147483647 : Int32)) % (7 : Int32))), .val (.ref b1), .unset, .unset, .unset, .unset, .unset, .unset, .unset] [(.int (f0_e3 p0 p1)), (.int (2 : Int32)), (.ref b1)])) rfl rfl (hb hby at_60)
  have V_b1_4 : Arv Z h4 b1 k1 .int (7 : Int32) [(.int (((p1 &&& (2147483647 : Int32)) % (7 : Int32)) % (7 : Int32))), (.int ((f0_e1 p0 p1) % (7 : Int32))), (.int (f0_e3 p0 p1)), (.int (0 : Int32)), (.int (0 : Int32)), (.int (0 : Int32)), (.int (0 : Int32))] (.int (0 : Int32)) := Arv.set Ar4 q4 S4 N4_ H4 G4 rfl W4 2 rfl (Nat.le_of_ble_eq_true rfl)
  have E_b1_4 := E_b1_3.wr W4
  have N4 := Fr.snoc X4 N3 gn_b1
  have Zz4 := Nat.le_trans Zz3 (Keep.of_wr W4).1
  have K4 : Keep h0 h4 [] := K3.wr W4 (Or.inr sz_b1)
  obtain ⟨cl5, Ar5, q5, S5, N5_, H5, G5⟩ := id V_b1_4
  have hin5 : ¬ ((3 : Int32) < 0 ∨ cl5.slots.size ≤ ((3 : Int32)).toNatClampNeg) := inb_of S5 ⟨by decide, by decide⟩
  obtain ⟨T5, h5, X5, e5, W5, st5⟩ := stI X4 hx hZ e4 Ar5 (j := (3 : Int32)) hin5 (g := (mkF m 74 #[.val (.int p0), .val (.int p1), .val (.int p2), .val (.int p3), .val (.int p4), .val (.int ((1 : Int32) + ((p0 &&& (2147483647 : Int32)) % (6 : Int32)))), .val (.int ((p1 &&& (2147483647 : Int32)) % (7 : Int32))), .val (.ref b1), .unset, .unset, .unset, .unset, .unset, .unset, .unset] [(.int (f0_e5 p0 p1)), (.int (3 : Int32)), (.ref b1)])) rfl rfl (hb hby at_74)
  have V_b1_5 : Arv Z h5 b1 k1 .int (7 : Int32) [(.int (((p1 &&& (2147483647 : Int32)) % (7 : Int32)) % (7 : Int32))), (.int ((f0_e1 p0 p1) % (7 : Int32))), (.int (f0_e3 p0 p1)), (.int (f0_e5 p0 p1)), (.int (0 : Int32)), (.int (0 : Int32)), (.int (0 : Int32))] (.int (0 : Int32)) := Arv.set Ar5 q5 S5 N5_ H5 G5 rfl W5 3 rfl (Nat.le_of_ble_eq_true rfl)
  have E_b1_5 := E_b1_4.wr W5
  have N5 := Fr.snoc X5 N4 gn_b1
  have Zz5 := Nat.le_trans Zz4 (Keep.of_wr W5).1
  have K5 : Keep h0 h5 [] := K4.wr W5 (Or.inr sz_b1)
  obtain ⟨cl6, Ar6, q6, S6, N6_, H6, G6⟩ := id V_b1_5
  have hin6 : ¬ ((4 : Int32) < 0 ∨ cl6.slots.size ≤ ((4 : Int32)).toNatClampNeg) := inb_of S6 ⟨by decide, by decide⟩
  obtain ⟨T6, h6, X6, e6, W6, st6⟩ := stI X5 hx hZ e5 Ar6 (j := (4 : Int32)) hin6 (g := (mkF m 88 #[.val (.int p0), .val (.int p1), .val (.int p2), .val (.int p3), .val (.int p4), .val (.int ((1 : Int32) + ((p0 &&& (2147483647 : Int32)) % (6 : Int32)))), .val (.int ((p1 &&& (2147483647 : Int32)) % (7 : Int32))), .val (.ref b1), .unset, .unset, .unset, .unset, .unset, .unset, .unset] [(.int (f0_e7 p0 p1)), (.int (4 : Int32)), (.ref b1)])) rfl rfl (hb hby at_88)
  have V_b1_6 : Arv Z h6 b1 k1 .int (7 : Int32) [(.int (((p1 &&& (2147483647 : Int32)) % (7 : Int32)) % (7 : Int32))), (.int ((f0_e1 p0 p1) % (7 : Int32))), (.int (f0_e3 p0 p1)), (.int (f0_e5 p0 p1)), (.int (f0_e7 p0 p1)), (.int (0 : Int32)), (.int (0 : Int32))] (.int (0 : Int32)) := Arv.set Ar6 q6 S6 N6_ H6 G6 rfl W6 4 rfl (Nat.le_of_ble_eq_true rfl)
  have E_b1_6 := E_b1_5.wr W6
  have N6 := Fr.snoc X6 N5 gn_b1
  have Zz6 := Nat.le_trans Zz5 (Keep.of_wr W6).1
  have K6 : Keep h0 h6 [] := K5.wr W6 (Or.inr sz_b1)
  obtain ⟨cl7, Ar7, q7, S7, N7_, H7, G7⟩ := id V_b1_6
  have hin7 : ¬ ((5 : Int32) < 0 ∨ cl7.slots.size ≤ ((5 : Int32)).toNatClampNeg) := inb_of S7 ⟨by decide, by decide⟩
  obtain ⟨T7, h7, X7, e7, W7, st7⟩ := stI X6 hx hZ e6 Ar7 (j := (5 : Int32)) hin7 (g := (mkF m 102 #[.val (.int p0), .val (.int p1), .val (.int p2), .val (.int p3), .val (.int p4), .val (.int ((1 : Int32) + ((p0 &&& (2147483647 : Int32)) % (6 : Int32)))), .val (.int ((p1 &&& (2147483647 : Int32)) % (7 : Int32))), .val (.ref b1), .unset, .unset, .unset, .unset, .unset, .unset, .unset] [(.int (f0_e9 p0 p1)), (.int (5 : Int32)), (.ref b1)])) rfl rfl (hb hby at_102)
  have V_b1_7 : Arv Z h7 b1 k1 .int (7 : Int32) [(.int (((p1 &&& (2147483647 : Int32)) % (7 : Int32)) % (7 : Int32))), (.int ((f0_e1 p0 p1) % (7 : Int32))), (.int (f0_e3 p0 p1)), (.int (f0_e5 p0 p1)), (.int (f0_e7 p0 p1)), (.int (f0_e9 p0 p1)), (.int (0 : Int32))] (.int (0 : Int32)) := Arv.set Ar7 q7 S7 N7_ H7 G7 rfl W7 5 rfl (Nat.le_of_ble_eq_true rfl)
  have E_b1_7 := E_b1_6.wr W7
  have N7 := Fr.snoc X7 N6 gn_b1
  have Zz7 := Nat.le_trans Zz6 (Keep.of_wr W7).1
  have K7 : Keep h0 h7 [] := K6.wr W7 (Or.inr sz_b1)
  obtain ⟨cl8, Ar8, q8, S8, N8_, H8, G8⟩ := id V_b1_7
  have hin8 : ¬ ((6 : Int32) < 0 ∨ cl8.slots.size ≤ ((6 : Int32)).toNatClampNeg) := inb_of S8 ⟨by decide, by decide⟩
  obtain ⟨T8, h8, X8, e8, W8, st8⟩ := stI X7 hx hZ e7 Ar8 (j := (6 : Int32)) hin8 (g := (mkF m 118 #[.val (.int p0), .val (.int p1), .val (.int p2), .val (.int p3), .val (.int p4), .val (.int ((1 : Int32) + ((p0 &&& (2147483647 : Int32)) % (6 : Int32)))), .val (.int ((p1 &&& (2147483647 : Int32)) % (7 : Int32))), .val (.ref b1), .unset, .unset, .unset, .unset, .unset, .unset, .unset] [(.int (f0_e11 p0 p1)), (.int (6 : Int32)), (.ref b1)])) rfl rfl (hb hby at_118)
  have V_b1_8 : Arv Z h8 b1 k1 .int (7 : Int32) [(.int (((p1 &&& (2147483647 : Int32)) % (7 : Int32)) % (7 : Int32))), (.int ((f0_e1 p0 p1) % (7 : Int32))), (.int (f0_e3 p0 p1)), (.int (f0_e5 p0 p1)), (.int (f0_e7 p0 p1)), (.int (f0_e9 p0 p1)), (.int (f0_e11 p0 p1))] (.int (0 : Int32)) := Arv.set Ar8 q8 S8 N8_ H8 G8 rfl W8 6 rfl (Nat.le_of_ble_eq_true rfl)
  have E_b1_8 := E_b1_7.wr W8
  have N8 := Fr.snoc X8 N7 gn_b1
  have Zz8 := Nat.le_trans Zz7 (Keep.of_wr W8).1
  have K8 : Keep h0 h8 [] := K7.wr W8 (Or.inr sz_b1)
  obtain ⟨T9, h9, X9, e9, E9, A9, D9, -, st9⟩ := newO X8 hx hZ hown (hw _ (List.mem_of_getElem? (i := 2) rfl)) (hw _ (List.mem_of_getElem? (i := 3) rfl)) (hw _ (List.mem_of_getElem? (i := 4) rfl)) e8 (g := (mkF m 147 #[.val (.int p0), .val (.int p1), .val (.int p2), .val (.int p3), .val (.int p4), .val (.int ((1 : Int32) + ((p0 &&& (2147483647 : Int32)) % (6 : Int32)))), .val (.int ((p1 &&& (2147483647 : Int32)) % (7 : Int32))), .val (.ref b1), .val (.int ((p2 &&& (2147483647 : Int32)) % (7 : Int32))), .val (.int ((p3 &&& (2147483647 : Int32)) % (7 : Int32))), .val (.int ((p4 &&& (2147483647 : Int32)) % (7 : Int32))), .unset, .unset, .unset, .unset] [])) rfl (hb hby at_147) (by decide) (by decide)
  obtain ⟨b9, g9⟩ : ∃ z, z = h8.size := ⟨_, rfl⟩
  rw [← g9] at A9 D9 st9
  have ne_b1_b9 : b1 ≠ b9 := Nat.ne_of_lt (Nat.lt_of_lt_of_le E_b1_8.lt (Nat.le_of_eq g9.symm))
  have gn_b9 : n0 ≤ b9 := Nat.le_trans Zz8 (Nat.le_of_eq g9.symm)
  have sz_b9 : h0.size ≤ b9 := Nat.le_trans K8.1 (Nat.le_of_eq g9.symm)
  have E_b1_9 := E_b1_8.ext E9
  have V_b1_9 := V_b1_8.ext E9
  have Zz9 := Nat.le_trans Zz8 E9.1
  have K9 := K8.ext E9
  have F_journal_b9 : Fld Z h9 b9 "com/example/itinerant/itinerant/ArrayTour" "journal" "[I" .null := D9 (Or.inl (hw _ (List.mem_of_getElem? (i := 12) rfl))) (ty := (.array .int)) (by decide)
  have F_size_b9 : Fld Z h9 b9 "com/example/itinerant/itinerant/ArrayTour" "size" "I" (.int (0 : Int32)) := D9 (Or.inr (hw _ (List.mem_of_getElem? (i := 14) rfl))) (ty := .int) (by decide)
  have F_cities_b9 : Fld Z h9 b9 "com/example/itinerant/itinerant/ArrayTour" "cities" "[I" .null := D9 (Or.inr (hw _ (List.mem_of_getElem? (i := 25) rfl))) (ty := (.array .int)) (by decide)
  have F_places_b9 : Fld Z h9 b9 "com/example/itinerant/itinerant/ArrayTour" "places" "[I" .null := D9 (Or.inr (hw _ (List.mem_of_getElem? (i := 27) rfl))) (ty := (.array .int)) (by decide)
  obtain ⟨_, _, ⟨T10, L10, k10, n10⟩, -, X10, ⟨Lc10, hQ10, l10, y10, z10⟩, st10⟩ := X9.specialBack hx (y := (⟨"com/example/itinerant/itinerant/ArrayTour", "<init>", "([I)V"⟩ : MethodName)) rfl hown (mvT hZ (hw _ (List.mem_of_getElem? (i := 5) rfl))) (mvT hZ (hw _ (List.mem_of_getElem? (i := 6) rfl))) (mvT hZ (hw _ (List.mem_of_getElem? (i := 7) rfl))) (by decide) (backOf (W := 1) (rm1 l Z a0 hw [] b9 b1 .null (0 : Int32) .null .null k1 (((p1 &&& (2147483647 : Int32)) % (7 : Int32)) % (7 : Int32)) ((f0_e1 p0 p1) % (7 : Int32)) (f0_e3 p0 p1) (f0_e5 p0 p1) (f0_e7 p0 p1) (f0_e9 p0 p1) (f0_e11 p0 p1) h9 n0 Zz9 A9 gn_b9 F_journal_b9 F_size_b9 F_cities_b9 F_places_b9 V_b1_9 E_b1_9 ne_b1_b9 (own_hb0 p0 p1) (own_hb1 p0 p1) (own_hb2 p0 p1) (own_hb3 p0 p1) (own_hb4 p0 p1) (own_hb5 p0 p1) (own_hb6 p0 p1)) hZ (hw _ (List.mem_of_getElem? (i := 7) rfl)) (hw _ (List.mem_of_getElem? (i := 4) rfl)) (by decide) (by decide)) (g := (mkF m 153 #[.val (.int p0), .val (.int p1), .val (.int p2), .val (.int p3), .val (.int p4), .val (.int ((1 : Int32) + ((p0 &&& (2147483647 : Int32)) % (6 : Int32)))), .val (.int ((p1 &&& (2147483647 : Int32)) % (7 : Int32))), .val (.ref b1), .val (.int ((p2 &&& (2147483647 : Int32)) % (7 : Int32))), .val (.int ((p3 &&& (2147483647 : Int32)) % (7 : Int32))), .val (.int ((p4 &&& (2147483647 : Int32)) % (7 : Int32))), .unset, .unset, .unset, .unset] [(.ref b1), (.ref b9), (.ref b9)])) rfl (by rw [hml]; rfl) (Steps.refl _) (a := b9) (argsL := [(.ref b1)]) (rest := [(.ref b9)]) (lenOf pd_0 rfl) rfl (by show 2 * 0 + _ ≤ _; exact Nat.le_of_eq rfl) (hb hby at_153) (fun _ _ => ⟨rfl, e9, (by decide : 2 + 3 ≤ _), (by decide : 12 + 78 ≤ _)⟩)
  dsimp only [Pt.U, Pt.locs, Pt.cells, Pt.slots] at X10 l10 y10 z10 st10 hQ10
  subst l10 y10 z10
  obtain ⟨rfl, N10q, K10q, E10q, ⟨pl_10, kP_10, q10x0, q10x1⟩⟩ := hQ10
  have E_b1_10 := E_b1_9.keep K10q
  have V_b1_10 := V_b1_9.keep K10q (ninS ne_b1_b9 nin0)
  have Zz10 := Nat.le_trans Zz9 K10q.1
  have K10 : Keep h0 T10.heap [] := K9.trans K10q (allS (Or.inr sz_b9) all0)
  have N10 := Fr.app N8 N10q
  obtain ⟨cl11, Ar11, -, S11, -, H11, -⟩ := id V_b1_10
  obtain ⟨cl12, Ar12, -, S12, -, H12, -⟩ := id V_b1_10
  obtain ⟨cl13, Ar13, -, S13, -, H13, -⟩ := id V_b1_10
  obtain ⟨clP, ArP, -, SP, -, HP, -⟩ := id q10x1
  obtain ⟨cq14, kq14, q14a, q14b, q14c⟩ := isOf hZ rfl E10q
  obtain ⟨_, _, ⟨T14, L14, k14, n14⟩, -, X14, ⟨Lc14, hQ14, l14, y14, z14⟩, st14⟩ := X10.virtualBack hx (y := (⟨"com/example/itinerant/itinerant/ArrayTour", "between", "(III)Z"⟩ : MethodName)) (z := (⟨"com/example/itinerant/itinerant/ArrayTour", "between", "(III)Z"⟩ : MethodName)) hown (mvT hZ (hw _ (List.mem_of_getElem? (i := 28) rfl))) (mvT hZ (hw _ (List.mem_of_getElem? (i := 29) rfl))) (notFace_of_selects (args := #[]) (mvT hZ (hw _ (List.mem_of_getElem? (i := 31) rfl)))) (mvT hZ (hw _ (List.mem_of_getElem? (i := 31) rfl))) (mvT hZ (hw _ (List.mem_of_getElem? (i := 30) rfl))) (by decide) (backOf (W := 0) (rm3 l Z a0 hw [] b9 (own_c p0 p1 ((p2 &&& (2147483647 : Int32)) % (7 : Int32))) (own_c p0 p1 ((p3 &&& (2147483647 : Int32)) % (7 : Int32))) (own_c p0 p1 ((p4 &&& (2147483647 : Int32)) % (7 : Int32))) pl_10 clP (own_pl p0 p1) T10.heap n0 Zz10 E10q gn_b9 q10x0 ArP (fun i h0 h1 => own_in7 SP h0 h1) (fun i h0 h1 => own_hatp p0 p1 HP SP i h0 h1) (own_cb p0 p1 p2).1 (own_cb p0 p1 p3).1 (own_cb p0 p1 p4).1 (own_cb p0 p1 p2).2 (own_cb p0 p1 p3).2 (own_cb p0 p1 p4).2) hZ (hw _ (List.mem_of_getElem? (i := 32) rfl)) (hw _ (List.mem_of_getElem? (i := 4) rfl)) (by decide) (by decide)) q14a q14c (g := (mkF m 175 #[.val (.int p0), .val (.int p1), .val (.int p2), .val (.int p3), .val (.int p4), .val (.int ((1 : Int32) + ((p0 &&& (2147483647 : Int32)) % (6 : Int32)))), .val (.int ((p1 &&& (2147483647 : Int32)) % (7 : Int32))), .val (.ref b1), .val (.int ((p2 &&& (2147483647 : Int32)) % (7 : Int32))), .val (.int ((p3 &&& (2147483647 : Int32)) % (7 : Int32))), .val (.int ((p4 &&& (2147483647 : Int32)) % (7 : Int32))), .val (.ref b9), .unset, .unset, .unset] [(.int (own_c p0 p1 ((p4 &&& (2147483647 : Int32)) % (7 : Int32)))), (.int (own_c p0 p1 ((p3 &&& (2147483647 : Int32)) % (7 : Int32)))), (.int (own_c p0 p1 ((p2 &&& (2147483647 : Int32)) % (7 : Int32)))), (.ref b9)])) rfl (by rw [hml]; rfl) (Steps.refl _) (argsL := [(.int (own_c p0 p1 ((p2 &&& (2147483647 : Int32)) % (7 : Int32)))), (.int (own_c p0 p1 ((p3 &&& (2147483647 : Int32)) % (7 : Int32)))), (.int (own_c p0 p1 ((p4 &&& (2147483647 : Int32)) % (7 : Int32))))]) (rest := []) (lenOf pd_1 rfl) rfl (by show 2 * 0 + _ ≤ _; exact Nat.le_of_eq rfl) (hb hby at_175) (fun _ _ => ⟨rfl, rfl, (by decide : 5 + 0 ≤ _), (by decide : 90 + 0 ≤ _)⟩)
  dsimp only [Pt.U, Pt.locs, Pt.cells, Pt.slots] at X14 l14 y14 z14 st14 hQ14
  subst l14 y14 z14
  obtain ⟨rfl, N14q, e14⟩ := hQ14
  have N14 := Fr.app N10 N14q
  have pre15 : ∀ t, Steps p.tables e below (T14.setTop (mkF m 212 #[.val (.int p0), .val (.int p1), .val (.int p2), .val (.int p3), .val (.int p4), .val (.int ((1 : Int32) + ((p0 &&& (2147483647 : Int32)) % (6 : Int32)))), .val (.int ((p1 &&& (2147483647 : Int32)) % (7 : Int32))), .val (.ref b1), .val (.int ((p2 &&& (2147483647 : Int32)) % (7 : Int32))), .val (.int ((p3 &&& (2147483647 : Int32)) % (7 : Int32))), .val (.int ((p4 &&& (2147483647 : Int32)) % (7 : Int32))), .val (.ref b9), .val (.int (f0_e12 p0 p1 p2 p3 p4)), .val (.int (((f0_e13 p2 p3) + (7 : Int32)) % (7 : Int32))), .val (.int (((f0_e14 p2 p4) + (7 : Int32)) % (7 : Int32)))] [(.int (((f0_e14 p2 p4) + (7 : Int32)) % (7 : Int32))), (.int (((f0_e13 p2 p3) + (7 : Int32)) % (7 : Int32))), (.int (f0_e12 p0 p1 p2 p3 p4))])) t → Steps p.tables e below (s₁.setTop (entryFrame m #[(.int p0), (.int p1), (.int p2), (.int p3), (.int p4)] maxLocals)) t := fun t kt => pre0 t (by
    show Steps p.tables e below (s₁.setTop (mkF m 0 #[.val (.int p0), .val (.int p1), .val (.int p2), .val (.int p3), .val (.int p4), .unset, .unset, .unset, .unset, .unset, .unset, .unset, .unset, .unset, .unset] [])) _
    refine XS.iconst X0.here hx rfl (hb hby at_0) ?_
    show Steps p.tables e below (s₁.setTop (mkF m 1 #[.val (.int p0), .val (.int p1), .val (.int p2), .val (.int p3), .val (.int p4), .unset, .unset, .unset, .unset, .unset, .unset, .unset, .unset, .unset, .unset] [(.int (1 : Int32))])) _
    refine XS.iloadN X0.here hx rfl (hb hby at_1) rfl ?_
    show Steps p.tables e below (s₁.setTop (mkF m 2 #[.val (.int p0), .val (.int p1), .val (.int p2), .val (.int p3), .val (.int p4), .unset, .unset, .unset, .unset, .unset, .unset, .unset, .unset, .unset, .unset] [(.int p0), (.int (1 : Int32))])) _
    refine X0.ldcInt hx hown (mvT hZ (hw _ (List.mem_of_getElem? (i := 0) rfl))) (g := (mkF m 2 #[.val (.int p0), .val (.int p1), .val (.int p2), .val (.int p3), .val (.int p4), .unset, .unset, .unset, .unset, .unset, .unset, .unset, .unset, .unset, .unset] [(.int p0), (.int (1 : Int32))])) rfl (hb hby at_2) _ ?_
    show Steps p.tables e below (s₁.setTop (mkF m 4 #[.val (.int p0), .val (.int p1), .val (.int p2), .val (.int p3), .val (.int p4), .unset, .unset, .unset, .unset, .unset, .unset, .unset, .unset, .unset, .unset] [(.int (2147483647 : Int32)), (.int p0), (.int (1 : Int32))])) _
    refine XS.iand X0.here hx rfl (hb hby at_4) rfl ?_
    show Steps p.tables e below (s₁.setTop (mkF m 5 #[.val (.int p0), .val (.int p1), .val (.int p2), .val (.int p3), .val (.int p4), .unset, .unset, .unset, .unset, .unset, .unset, .unset, .unset, .unset, .unset] [(.int (p0 &&& (2147483647 : Int32))), (.int (1 : Int32))])) _
    refine XS.bipush X0.here hx rfl (hb hby at_5) ?_
    show Steps p.tables e below (s₁.setTop (mkF m 7 #[.val (.int p0), .val (.int p1), .val (.int p2), .val (.int p3), .val (.int p4), .unset, .unset, .unset, .unset, .unset, .unset, .unset, .unset, .unset, .unset] [(.int (6 : Int32)), (.int (p0 &&& (2147483647 : Int32))), (.int (1 : Int32))])) _
    refine iremM X0 hx rfl (hb hby at_7) rfl (by decide) ?_
    show Steps p.tables e below (s₁.setTop (mkF m 8 #[.val (.int p0), .val (.int p1), .val (.int p2), .val (.int p3), .val (.int p4), .unset, .unset, .unset, .unset, .unset, .unset, .unset, .unset, .unset, .unset] [(.int ((p0 &&& (2147483647 : Int32)) % (6 : Int32))), (.int (1 : Int32))])) _
    refine XS.iadd X0.here hx rfl (hb hby at_8) rfl ?_
    show Steps p.tables e below (s₁.setTop (mkF m 9 #[.val (.int p0), .val (.int p1), .val (.int p2), .val (.int p3), .val (.int p4), .unset, .unset, .unset, .unset, .unset, .unset, .unset, .unset, .unset, .unset] [(.int ((1 : Int32) + ((p0 &&& (2147483647 : Int32)) % (6 : Int32))))])) _
    refine XS.istore X0.here hx rfl (hb hby at_9) rfl (l' := #[.val (.int p0), .val (.int p1), .val (.int p2), .val (.int p3), .val (.int p4), .val (.int ((1 : Int32) + ((p0 &&& (2147483647 : Int32)) % (6 : Int32)))), .unset, .unset, .unset, .unset, .unset, .unset, .unset, .unset, .unset]) rfl ?_
    show Steps p.tables e below (s₁.setTop (mkF m 11 #[.val (.int p0), .val (.int p1), .val (.int p2), .val (.int p3), .val (.int p4), .val (.int ((1 : Int32) + ((p0 &&& (2147483647 : Int32)) % (6 : Int32)))), .unset, .unset, .unset, .unset, .unset, .unset, .unset, .unset, .unset] [])) _
    refine XS.iloadN X0.here hx rfl (hb hby at_11) rfl ?_
    show Steps p.tables e below (s₁.setTop (mkF m 12 #[.val (.int p0), .val (.int p1), .val (.int p2), .val (.int p3), .val (.int p4), .val (.int ((1 : Int32) + ((p0 &&& (2147483647 : Int32)) % (6 : Int32)))), .unset, .unset, .unset, .unset, .unset, .unset, .unset, .unset, .unset] [(.int p1)])) _
    refine X0.ldcInt hx hown (mvT hZ (hw _ (List.mem_of_getElem? (i := 0) rfl))) (g := (mkF m 12 #[.val (.int p0), .val (.int p1), .val (.int p2), .val (.int p3), .val (.int p4), .val (.int ((1 : Int32) + ((p0 &&& (2147483647 : Int32)) % (6 : Int32)))), .unset, .unset, .unset, .unset, .unset, .unset, .unset, .unset, .unset] [(.int p1)])) rfl (hb hby at_12) _ ?_
    show Steps p.tables e below (s₁.setTop (mkF m 14 #[.val (.int p0), .val (.int p1), .val (.int p2), .val (.int p3), .val (.int p4), .val (.int ((1 : Int32) + ((p0 &&& (2147483647 : Int32)) % (6 : Int32)))), .unset, .unset, .unset, .unset, .unset, .unset, .unset, .unset, .unset] [(.int (2147483647 : Int32)), (.int p1)])) _
    refine XS.iand X0.here hx rfl (hb hby at_14) rfl ?_
    show Steps p.tables e below (s₁.setTop (mkF m 15 #[.val (.int p0), .val (.int p1), .val (.int p2), .val (.int p3), .val (.int p4), .val (.int ((1 : Int32) + ((p0 &&& (2147483647 : Int32)) % (6 : Int32)))), .unset, .unset, .unset, .unset, .unset, .unset, .unset, .unset, .unset] [(.int (p1 &&& (2147483647 : Int32)))])) _
    refine XS.bipush X0.here hx rfl (hb hby at_15) ?_
    show Steps p.tables e below (s₁.setTop (mkF m 17 #[.val (.int p0), .val (.int p1), .val (.int p2), .val (.int p3), .val (.int p4), .val (.int ((1 : Int32) + ((p0 &&& (2147483647 : Int32)) % (6 : Int32)))), .unset, .unset, .unset, .unset, .unset, .unset, .unset, .unset, .unset] [(.int (7 : Int32)), (.int (p1 &&& (2147483647 : Int32)))])) _
    refine iremM X0 hx rfl (hb hby at_17) rfl (by decide) ?_
    show Steps p.tables e below (s₁.setTop (mkF m 18 #[.val (.int p0), .val (.int p1), .val (.int p2), .val (.int p3), .val (.int p4), .val (.int ((1 : Int32) + ((p0 &&& (2147483647 : Int32)) % (6 : Int32)))), .unset, .unset, .unset, .unset, .unset, .unset, .unset, .unset, .unset] [(.int ((p1 &&& (2147483647 : Int32)) % (7 : Int32)))])) _
    refine XS.istore X0.here hx rfl (hb hby at_18) rfl (l' := #[.val (.int p0), .val (.int p1), .val (.int p2), .val (.int p3), .val (.int p4), .val (.int ((1 : Int32) + ((p0 &&& (2147483647 : Int32)) % (6 : Int32)))), .val (.int ((p1 &&& (2147483647 : Int32)) % (7 : Int32))), .unset, .unset, .unset, .unset, .unset, .unset, .unset, .unset]) rfl ?_
    show Steps p.tables e below (s₁.setTop (mkF m 20 #[.val (.int p0), .val (.int p1), .val (.int p2), .val (.int p3), .val (.int p4), .val (.int ((1 : Int32) + ((p0 &&& (2147483647 : Int32)) % (6 : Int32)))), .val (.int ((p1 &&& (2147483647 : Int32)) % (7 : Int32))), .unset, .unset, .unset, .unset, .unset, .unset, .unset, .unset] [])) _
    refine XS.bipush X0.here hx rfl (hb hby at_20) ?_
    show Steps p.tables e below (s₁.setTop (mkF m 22 #[.val (.int p0), .val (.int p1), .val (.int p2), .val (.int p3), .val (.int p4), .val (.int ((1 : Int32) + ((p0 &&& (2147483647 : Int32)) % (6 : Int32)))), .val (.int ((p1 &&& (2147483647 : Int32)) % (7 : Int32))), .unset, .unset, .unset, .unset, .unset, .unset, .unset, .unset] [(.int (7 : Int32))])) _
    refine st1 _ ?_
    show Steps p.tables e below (T1.setTop (mkF m 24 #[.val (.int p0), .val (.int p1), .val (.int p2), .val (.int p3), .val (.int p4), .val (.int ((1 : Int32) + ((p0 &&& (2147483647 : Int32)) % (6 : Int32)))), .val (.int ((p1 &&& (2147483647 : Int32)) % (7 : Int32))), .unset, .unset, .unset, .unset, .unset, .unset, .unset, .unset] [(.ref b1)])) _
    refine XS.astore X1.here hx rfl (hb hby at_24) rfl rfl (l' := #[.val (.int p0), .val (.int p1), .val (.int p2), .val (.int p3), .val (.int p4), .val (.int ((1 : Int32) + ((p0 &&& (2147483647 : Int32)) % (6 : Int32)))), .val (.int ((p1 &&& (2147483647 : Int32)) % (7 : Int32))), .val (.ref b1), .unset, .unset, .unset, .unset, .unset, .unset, .unset]) rfl ?_
    show Steps p.tables e below (T1.setTop (mkF m 26 #[.val (.int p0), .val (.int p1), .val (.int p2), .val (.int p3), .val (.int p4), .val (.int ((1 : Int32) + ((p0 &&& (2147483647 : Int32)) % (6 : Int32)))), .val (.int ((p1 &&& (2147483647 : Int32)) % (7 : Int32))), .val (.ref b1), .unset, .unset, .unset, .unset, .unset, .unset, .unset] [])) _
    refine XS.aload X1.here hx rfl (hb hby at_26) rfl rfl ?_
    show Steps p.tables e below (T1.setTop (mkF m 28 #[.val (.int p0), .val (.int p1), .val (.int p2), .val (.int p3), .val (.int p4), .val (.int ((1 : Int32) + ((p0 &&& (2147483647 : Int32)) % (6 : Int32)))), .val (.int ((p1 &&& (2147483647 : Int32)) % (7 : Int32))), .val (.ref b1), .unset, .unset, .unset, .unset, .unset, .unset, .unset] [(.ref b1)])) _
    refine XS.iconst X1.here hx rfl (hb hby at_28) ?_
    show Steps p.tables e below (T1.setTop (mkF m 29 #[.val (.int p0), .val (.int p1), .val (.int p2), .val (.int p3), .val (.int p4), .val (.int ((1 : Int32) + ((p0 &&& (2147483647 : Int32)) % (6 : Int32)))), .val (.int ((p1 &&& (2147483647 : Int32)) % (7 : Int32))), .val (.ref b1), .unset, .unset, .unset, .unset, .unset, .unset, .unset] [(.int (0 : Int32)), (.ref b1)])) _
    refine XS.iload X1.here hx rfl (hb hby at_29) rfl ?_
    show Steps p.tables e below (T1.setTop (mkF m 31 #[.val (.int p0), .val (.int p1), .val (.int p2), .val (.int p3), .val (.int p4), .val (.int ((1 : Int32) + ((p0 &&& (2147483647 : Int32)) % (6 : Int32)))), .val (.int ((p1 &&& (2147483647 : Int32)) % (7 : Int32))), .val (.ref b1), .unset, .unset, .unset, .unset, .unset, .unset, .unset] [(.int ((p1 &&& (2147483647 : Int32)) % (7 : Int32))), (.int (0 : Int32)), (.ref b1)])) _
    refine XS.bipush X1.here hx rfl (hb hby at_31) ?_
    show Steps p.tables e below (T1.setTop (mkF m 33 #[.val (.int p0), .val (.int p1), .val (.int p2), .val (.int p3), .val (.int p4), .val (.int ((1 : Int32) + ((p0 &&& (2147483647 : Int32)) % (6 : Int32)))), .val (.int ((p1 &&& (2147483647 : Int32)) % (7 : Int32))), .val (.ref b1), .unset, .unset, .unset, .unset, .unset, .unset, .unset] [(.int (7 : Int32)), (.int ((p1 &&& (2147483647 : Int32)) % (7 : Int32))), (.int (0 : Int32)), (.ref b1)])) _
    refine iremM X1 hx rfl (hb hby at_33) rfl (by decide) ?_
    show Steps p.tables e below (T1.setTop (mkF m 34 #[.val (.int p0), .val (.int p1), .val (.int p2), .val (.int p3), .val (.int p4), .val (.int ((1 : Int32) + ((p0 &&& (2147483647 : Int32)) % (6 : Int32)))), .val (.int ((p1 &&& (2147483647 : Int32)) % (7 : Int32))), .val (.ref b1), .unset, .unset, .unset, .unset, .unset, .unset, .unset] [(.int (((p1 &&& (2147483647 : Int32)) % (7 : Int32)) % (7 : Int32))), (.int (0 : Int32)), (.ref b1)])) _
    refine st2 _ ?_
    show Steps p.tables e below (T2.setTop (mkF m 35 #[.val (.int p0), .val (.int p1), .val (.int p2), .val (.int p3), .val (.int p4), .val (.int ((1 : Int32) + ((p0 &&& (2147483647 : Int32)) % (6 : Int32)))), .val (.int ((p1 &&& (2147483647 : Int32)) % (7 : Int32))), .val (.ref b1), .unset, .unset, .unset, .unset, .unset, .unset, .unset] [])) _
    refine XS.aload X2.here hx rfl (hb hby at_35) rfl rfl ?_
    show Steps p.tables e below (T2.setTop (mkF m 37 #[.val (.int p0), .val (.int p1), .val (.int p2), .val (.int p3), .val (.int p4), .val (.int ((1 : Int32) + ((p0 &&& (2147483647 : Int32)) % (6 : Int32)))), .val (.int ((p1 &&& (2147483647 : Int32)) % (7 : Int32))), .val (.ref b1), .unset, .unset, .unset, .unset, .unset, .unset, .unset] [(.ref b1)])) _
    refine XS.iconst X2.here hx rfl (hb hby at_37) ?_
    show Steps p.tables e below (T2.setTop (mkF m 38 #[.val (.int p0), .val (.int p1), .val (.int p2), .val (.int p3), .val (.int p4), .val (.int ((1 : Int32) + ((p0 &&& (2147483647 : Int32)) % (6 : Int32)))), .val (.int ((p1 &&& (2147483647 : Int32)) % (7 : Int32))), .val (.ref b1), .unset, .unset, .unset, .unset, .unset, .unset, .unset] [(.int (1 : Int32)), (.ref b1)])) _
    refine XS.iload X2.here hx rfl (hb hby at_38) rfl ?_
    show Steps p.tables e below (T2.setTop (mkF m 40 #[.val (.int p0), .val (.int p1), .val (.int p2), .val (.int p3), .val (.int p4), .val (.int ((1 : Int32) + ((p0 &&& (2147483647 : Int32)) % (6 : Int32)))), .val (.int ((p1 &&& (2147483647 : Int32)) % (7 : Int32))), .val (.ref b1), .unset, .unset, .unset, .unset, .unset, .unset, .unset] [(.int ((1 : Int32) + ((p0 &&& (2147483647 : Int32)) % (6 : Int32)))), (.int (1 : Int32)), (.ref b1)])) _
    refine XS.iload X2.here hx rfl (hb hby at_40) rfl ?_
    show Steps p.tables e below (T2.setTop (mkF m 42 #[.val (.int p0), .val (.int p1), .val (.int p2), .val (.int p3), .val (.int p4), .val (.int ((1 : Int32) + ((p0 &&& (2147483647 : Int32)) % (6 : Int32)))), .val (.int ((p1 &&& (2147483647 : Int32)) % (7 : Int32))), .val (.ref b1), .unset, .unset, .unset, .unset, .unset, .unset, .unset] [(.int ((p1 &&& (2147483647 : Int32)) % (7 : Int32))), (.int ((1 : Int32) + ((p0 &&& (2147483647 : Int32)) % (6 : Int32)))), (.int (1 : Int32)), (.ref b1)])) _
    refine XS.iadd X2.here hx rfl (hb hby at_42) rfl ?_
    show Steps p.tables e below (T2.setTop (mkF m 43 #[.val (.int p0), .val (.int p1), .val (.int p2), .val (.int p3), .val (.int p4), .val (.int ((1 : Int32) + ((p0 &&& (2147483647 : Int32)) % (6 : Int32)))), .val (.int ((p1 &&& (2147483647 : Int32)) % (7 : Int32))), .val (.ref b1), .unset, .unset, .unset, .unset, .unset, .unset, .unset] [(.int (f0_e1 p0 p1)), (.int (1 : Int32)), (.ref b1)])) _
    refine XS.bipush X2.here hx rfl (hb hby at_43) ?_
    show Steps p.tables e below (T2.setTop (mkF m 45 #[.val (.int p0), .val (.int p1), .val (.int p2), .val (.int p3), .val (.int p4), .val (.int ((1 : Int32) + ((p0 &&& (2147483647 : Int32)) % (6 : Int32)))), .val (.int ((p1 &&& (2147483647 : Int32)) % (7 : Int32))), .val (.ref b1), .unset, .unset, .unset, .unset, .unset, .unset, .unset] [(.int (7 : Int32)), (.int (f0_e1 p0 p1)), (.int (1 : Int32)), (.ref b1)])) _
    refine iremM X2 hx rfl (hb hby at_45) rfl (by decide) ?_
    show Steps p.tables e below (T2.setTop (mkF m 46 #[.val (.int p0), .val (.int p1), .val (.int p2), .val (.int p3), .val (.int p4), .val (.int ((1 : Int32) + ((p0 &&& (2147483647 : Int32)) % (6 : Int32)))), .val (.int ((p1 &&& (2147483647 : Int32)) % (7 : Int32))), .val (.ref b1), .unset, .unset, .unset, .unset, .unset, .unset, .unset] [(.int ((f0_e1 p0 p1) % (7 : Int32))), (.int (1 : Int32)), (.ref b1)])) _
    refine st3 _ ?_
    show Steps p.tables e below (T3.setTop (mkF m 47 #[.val (.int p0), .val (.int p1), .val (.int p2), .val (.int p3), .val (.int p4), .val (.int ((1 : Int32) + ((p0 &&& (2147483647 : Int32)) % (6 : Int32)))), .val (.int ((p1 &&& (2147483647 : Int32)) % (7 : Int32))), .val (.ref b1), .unset, .unset, .unset, .unset, .unset, .unset, .unset] [])) _
    refine XS.aload X3.here hx rfl (hb hby at_47) rfl rfl ?_
    show Steps p.tables e below (T3.setTop (mkF m 49 #[.val (.int p0), .val (.int p1), .val (.int p2), .val (.int p3), .val (.int p4), .val (.int ((1 : Int32) + ((p0 &&& (2147483647 : Int32)) % (6 : Int32)))), .val (.int ((p1 &&& (2147483647 : Int32)) % (7 : Int32))), .val (.ref b1), .unset, .unset, .unset, .unset, .unset, .unset, .unset] [(.ref b1)])) _
    refine XS.iconst X3.here hx rfl (hb hby at_49) ?_
    show Steps p.tables e below (T3.setTop (mkF m 50 #[.val (.int p0), .val (.int p1), .val (.int p2), .val (.int p3), .val (.int p4), .val (.int ((1 : Int32) + ((p0 &&& (2147483647 : Int32)) % (6 : Int32)))), .val (.int ((p1 &&& (2147483647 : Int32)) % (7 : Int32))), .val (.ref b1), .unset, .unset, .unset, .unset, .unset, .unset, .unset] [(.int (2 : Int32)), (.ref b1)])) _
    refine XS.iconst X3.here hx rfl (hb hby at_50) ?_
    show Steps p.tables e below (T3.setTop (mkF m 51 #[.val (.int p0), .val (.int p1), .val (.int p2), .val (.int p3), .val (.int p4), .val (.int ((1 : Int32) + ((p0 &&& (2147483647 : Int32)) % (6 : Int32)))), .val (.int ((p1 &&& (2147483647 : Int32)) % (7 : Int32))), .val (.ref b1), .unset, .unset, .unset, .unset, .unset, .unset, .unset] [(.int (2 : Int32)), (.int (2 : Int32)), (.ref b1)])) _
    refine XS.iload X3.here hx rfl (hb hby at_51) rfl ?_
    show Steps p.tables e below (T3.setTop (mkF m 53 #[.val (.int p0), .val (.int p1), .val (.int p2), .val (.int p3), .val (.int p4), .val (.int ((1 : Int32) + ((p0 &&& (2147483647 : Int32)) % (6 : Int32)))), .val (.int ((p1 &&& (2147483647 : Int32)) % (7 : Int32))), .val (.ref b1), .unset, .unset, .unset, .unset, .unset, .unset, .unset] [(.int ((1 : Int32) + ((p0 &&& (2147483647 : Int32)) % (6 : Int32)))), (.int (2 : Int32)), (.int (2 : Int32)), (.ref b1)])) _
    refine XS.imul X3.here hx rfl (hb hby at_53) rfl ?_
    show Steps p.tables e below (T3.setTop (mkF m 54 #[.val (.int p0), .val (.int p1), .val (.int p2), .val (.int p3), .val (.int p4), .val (.int ((1 : Int32) + ((p0 &&& (2147483647 : Int32)) % (6 : Int32)))), .val (.int ((p1 &&& (2147483647 : Int32)) % (7 : Int32))), .val (.ref b1), .unset, .unset, .unset, .unset, .unset, .unset, .unset] [(.int (f0_e2 p0)), (.int (2 : Int32)), (.ref b1)])) _
    refine XS.iload X3.here hx rfl (hb hby at_54) rfl ?_
    show Steps p.tables e below (T3.setTop (mkF m 56 #[.val (.int p0), .val (.int p1), .val (.int p2), .val (.int p3), .val (.int p4), .val (.int ((1 : Int32) + ((p0 &&& (2147483647 : Int32)) % (6 : Int32)))), .val (.int ((p1 &&& (2147483647 : Int32)) % (7 : Int32))), .val (.ref b1), .unset, .unset, .unset, .unset, .unset, .unset, .unset] [(.int ((p1 &&& (2147483647 : Int32)) % (7 : Int32))), (.int (f0_e2 p0)), (.int (2 : Int32)), (.ref b1)])) _
    refine XS.iadd X3.here hx rfl (hb hby at_56) rfl ?_
    show Steps p.tables e below (T3.setTop (mkF m 57 #[.val (.int p0), .val (.int p1), .val (.int p2), .val (.int p3), .val (.int p4), .val (.int ((1 : Int32) + ((p0 &&& (2147483647 : Int32)) % (6 : Int32)))), .val (.int ((p1 &&& (2147483647 : Int32)) % (7 : Int32))), .val (.ref b1), .unset, .unset, .unset, .unset, .unset, .unset, .unset] [(.int ((f0_e2 p0) + ((p1 &&& (2147483647 : Int32)) % (7 : Int32)))), (.int (2 : Int32)), (.ref b1)])) _
    refine XS.bipush X3.here hx rfl (hb hby at_57) ?_
    show Steps p.tables e below (T3.setTop (mkF m 59 #[.val (.int p0), .val (.int p1), .val (.int p2), .val (.int p3), .val (.int p4), .val (.int ((1 : Int32) + ((p0 &&& (2147483647 : Int32)) % (6 : Int32)))), .val (.int ((p1 &&& (2147483647 : Int32)) % (7 : Int32))), .val (.ref b1), .unset, .unset, .unset, .unset, .unset, .unset, .unset] [(.int (7 : Int32)), (.int ((f0_e2 p0) + ((p1 &&& (2147483647 : Int32)) % (7 : Int32)))), (.int (2 : Int32)), (.ref b1)])) _
    refine iremM X3 hx rfl (hb hby at_59) rfl (by decide) ?_
    show Steps p.tables e below (T3.setTop (mkF m 60 #[.val (.int p0), .val (.int p1), .val (.int p2), .val (.int p3), .val (.int p4), .val (.int ((1 : Int32) + ((p0 &&& (2147483647 : Int32)) % (6 : Int32)))), .val (.int ((p1 &&& (2147483647 : Int32)) % (7 : Int32))), .val (.ref b1), .unset, .unset, .unset, .unset, .unset, .unset, .unset] [(.int (f0_e3 p0 p1)), (.int (2 : Int32)), (.ref b1)])) _
    refine st4 _ ?_
    show Steps p.tables e below (T4.setTop (mkF m 61 #[.val (.int p0), .val (.int p1), .val (.int p2), .val (.int p3), .val (.int p4), .val (.int ((1 : Int32) + ((p0 &&& (2147483647 : Int32)) % (6 : Int32)))), .val (.int ((p1 &&& (2147483647 : Int32)) % (7 : Int32))), .val (.ref b1), .unset, .unset, .unset, .unset, .unset, .unset, .unset] [])) _
    refine XS.aload X4.here hx rfl (hb hby at_61) rfl rfl ?_
    show Steps p.tables e below (T4.setTop (mkF m 63 #[.val (.int p0), .val (.int p1), .val (.int p2), .val (.int p3), .val (.int p4), .val (.int ((1 : Int32) + ((p0 &&& (2147483647 : Int32)) % (6 : Int32)))), .val (.int ((p1 &&& (2147483647 : Int32)) % (7 : Int32))), .val (.ref b1), .unset, .unset, .unset, .unset, .unset, .unset, .unset] [(.ref b1)])) _
    refine XS.iconst X4.here hx rfl (hb hby at_63) ?_
    show Steps p.tables e below (T4.setTop (mkF m 64 #[.val (.int p0), .val (.int p1), .val (.int p2), .val (.int p3), .val (.int p4), .val (.int ((1 : Int32) + ((p0 &&& (2147483647 : Int32)) % (6 : Int32)))), .val (.int ((p1 &&& (2147483647 : Int32)) % (7 : Int32))), .val (.ref b1), .unset, .unset, .unset, .unset, .unset, .unset, .unset] [(.int (3 : Int32)), (.ref b1)])) _
    refine XS.iconst X4.here hx rfl (hb hby at_64) ?_
    show Steps p.tables e below (T4.setTop (mkF m 65 #[.val (.int p0), .val (.int p1), .val (.int p2), .val (.int p3), .val (.int p4), .val (.int ((1 : Int32) + ((p0 &&& (2147483647 : Int32)) % (6 : Int32)))), .val (.int ((p1 &&& (2147483647 : Int32)) % (7 : Int32))), .val (.ref b1), .unset, .unset, .unset, .unset, .unset, .unset, .unset] [(.int (3 : Int32)), (.int (3 : Int32)), (.ref b1)])) _
    refine XS.iload X4.here hx rfl (hb hby at_65) rfl ?_
    show Steps p.tables e below (T4.setTop (mkF m 67 #[.val (.int p0), .val (.int p1), .val (.int p2), .val (.int p3), .val (.int p4), .val (.int ((1 : Int32) + ((p0 &&& (2147483647 : Int32)) % (6 : Int32)))), .val (.int ((p1 &&& (2147483647 : Int32)) % (7 : Int32))), .val (.ref b1), .unset, .unset, .unset, .unset, .unset, .unset, .unset] [(.int ((1 : Int32) + ((p0 &&& (2147483647 : Int32)) % (6 : Int32)))), (.int (3 : Int32)), (.int (3 : Int32)), (.ref b1)])) _
    refine XS.imul X4.here hx rfl (hb hby at_67) rfl ?_
    show Steps p.tables e below (T4.setTop (mkF m 68 #[.val (.int p0), .val (.int p1), .val (.int p2), .val (.int p3), .val (.int p4), .val (.int ((1 : Int32) + ((p0 &&& (2147483647 : Int32)) % (6 : Int32)))), .val (.int ((p1 &&& (2147483647 : Int32)) % (7 : Int32))), .val (.ref b1), .unset, .unset, .unset, .unset, .unset, .unset, .unset] [(.int (f0_e4 p0)), (.int (3 : Int32)), (.ref b1)])) _
    refine XS.iload X4.here hx rfl (hb hby at_68) rfl ?_
    show Steps p.tables e below (T4.setTop (mkF m 70 #[.val (.int p0), .val (.int p1), .val (.int p2), .val (.int p3), .val (.int p4), .val (.int ((1 : Int32) + ((p0 &&& (2147483647 : Int32)) % (6 : Int32)))), .val (.int ((p1 &&& (2147483647 : Int32)) % (7 : Int32))), .val (.ref b1), .unset, .unset, .unset, .unset, .unset, .unset, .unset] [(.int ((p1 &&& (2147483647 : Int32)) % (7 : Int32))), (.int (f0_e4 p0)), (.int (3 : Int32)), (.ref b1)])) _
    refine XS.iadd X4.here hx rfl (hb hby at_70) rfl ?_
    show Steps p.tables e below (T4.setTop (mkF m 71 #[.val (.int p0), .val (.int p1), .val (.int p2), .val (.int p3), .val (.int p4), .val (.int ((1 : Int32) + ((p0 &&& (2147483647 : Int32)) % (6 : Int32)))), .val (.int ((p1 &&& (2147483647 : Int32)) % (7 : Int32))), .val (.ref b1), .unset, .unset, .unset, .unset, .unset, .unset, .unset] [(.int ((f0_e4 p0) + ((p1 &&& (2147483647 : Int32)) % (7 : Int32)))), (.int (3 : Int32)), (.ref b1)])) _
    refine XS.bipush X4.here hx rfl (hb hby at_71) ?_
    show Steps p.tables e below (T4.setTop (mkF m 73 #[.val (.int p0), .val (.int p1), .val (.int p2), .val (.int p3), .val (.int p4), .val (.int ((1 : Int32) + ((p0 &&& (2147483647 : Int32)) % (6 : Int32)))), .val (.int ((p1 &&& (2147483647 : Int32)) % (7 : Int32))), .val (.ref b1), .unset, .unset, .unset, .unset, .unset, .unset, .unset] [(.int (7 : Int32)), (.int ((f0_e4 p0) + ((p1 &&& (2147483647 : Int32)) % (7 : Int32)))), (.int (3 : Int32)), (.ref b1)])) _
    refine iremM X4 hx rfl (hb hby at_73) rfl (by decide) ?_
    show Steps p.tables e below (T4.setTop (mkF m 74 #[.val (.int p0), .val (.int p1), .val (.int p2), .val (.int p3), .val (.int p4), .val (.int ((1 : Int32) + ((p0 &&& (2147483647 : Int32)) % (6 : Int32)))), .val (.int ((p1 &&& (2147483647 : Int32)) % (7 : Int32))), .val (.ref b1), .unset, .unset, .unset, .unset, .unset, .unset, .unset] [(.int (f0_e5 p0 p1)), (.int (3 : Int32)), (.ref b1)])) _
    refine st5 _ ?_
    show Steps p.tables e below (T5.setTop (mkF m 75 #[.val (.int p0), .val (.int p1), .val (.int p2), .val (.int p3), .val (.int p4), .val (.int ((1 : Int32) + ((p0 &&& (2147483647 : Int32)) % (6 : Int32)))), .val (.int ((p1 &&& (2147483647 : Int32)) % (7 : Int32))), .val (.ref b1), .unset, .unset, .unset, .unset, .unset, .unset, .unset] [])) _
    refine XS.aload X5.here hx rfl (hb hby at_75) rfl rfl ?_
    show Steps p.tables e below (T5.setTop (mkF m 77 #[.val (.int p0), .val (.int p1), .val (.int p2), .val (.int p3), .val (.int p4), .val (.int ((1 : Int32) + ((p0 &&& (2147483647 : Int32)) % (6 : Int32)))), .val (.int ((p1 &&& (2147483647 : Int32)) % (7 : Int32))), .val (.ref b1), .unset, .unset, .unset, .unset, .unset, .unset, .unset] [(.ref b1)])) _
    refine XS.iconst X5.here hx rfl (hb hby at_77) ?_
    show Steps p.tables e below (T5.setTop (mkF m 78 #[.val (.int p0), .val (.int p1), .val (.int p2), .val (.int p3), .val (.int p4), .val (.int ((1 : Int32) + ((p0 &&& (2147483647 : Int32)) % (6 : Int32)))), .val (.int ((p1 &&& (2147483647 : Int32)) % (7 : Int32))), .val (.ref b1), .unset, .unset, .unset, .unset, .unset, .unset, .unset] [(.int (4 : Int32)), (.ref b1)])) _
    refine XS.iconst X5.here hx rfl (hb hby at_78) ?_
    show Steps p.tables e below (T5.setTop (mkF m 79 #[.val (.int p0), .val (.int p1), .val (.int p2), .val (.int p3), .val (.int p4), .val (.int ((1 : Int32) + ((p0 &&& (2147483647 : Int32)) % (6 : Int32)))), .val (.int ((p1 &&& (2147483647 : Int32)) % (7 : Int32))), .val (.ref b1), .unset, .unset, .unset, .unset, .unset, .unset, .unset] [(.int (4 : Int32)), (.int (4 : Int32)), (.ref b1)])) _
    refine XS.iload X5.here hx rfl (hb hby at_79) rfl ?_
    show Steps p.tables e below (T5.setTop (mkF m 81 #[.val (.int p0), .val (.int p1), .val (.int p2), .val (.int p3), .val (.int p4), .val (.int ((1 : Int32) + ((p0 &&& (2147483647 : Int32)) % (6 : Int32)))), .val (.int ((p1 &&& (2147483647 : Int32)) % (7 : Int32))), .val (.ref b1), .unset, .unset, .unset, .unset, .unset, .unset, .unset] [(.int ((1 : Int32) + ((p0 &&& (2147483647 : Int32)) % (6 : Int32)))), (.int (4 : Int32)), (.int (4 : Int32)), (.ref b1)])) _
    refine XS.imul X5.here hx rfl (hb hby at_81) rfl ?_
    show Steps p.tables e below (T5.setTop (mkF m 82 #[.val (.int p0), .val (.int p1), .val (.int p2), .val (.int p3), .val (.int p4), .val (.int ((1 : Int32) + ((p0 &&& (2147483647 : Int32)) % (6 : Int32)))), .val (.int ((p1 &&& (2147483647 : Int32)) % (7 : Int32))), .val (.ref b1), .unset, .unset, .unset, .unset, .unset, .unset, .unset] [(.int (f0_e6 p0)), (.int (4 : Int32)), (.ref b1)])) _
    refine XS.iload X5.here hx rfl (hb hby at_82) rfl ?_
    show Steps p.tables e below (T5.setTop (mkF m 84 #[.val (.int p0), .val (.int p1), .val (.int p2), .val (.int p3), .val (.int p4), .val (.int ((1 : Int32) + ((p0 &&& (2147483647 : Int32)) % (6 : Int32)))), .val (.int ((p1 &&& (2147483647 : Int32)) % (7 : Int32))), .val (.ref b1), .unset, .unset, .unset, .unset, .unset, .unset, .unset] [(.int ((p1 &&& (2147483647 : Int32)) % (7 : Int32))), (.int (f0_e6 p0)), (.int (4 : Int32)), (.ref b1)])) _
    refine XS.iadd X5.here hx rfl (hb hby at_84) rfl ?_
    show Steps p.tables e below (T5.setTop (mkF m 85 #[.val (.int p0), .val (.int p1), .val (.int p2), .val (.int p3), .val (.int p4), .val (.int ((1 : Int32) + ((p0 &&& (2147483647 : Int32)) % (6 : Int32)))), .val (.int ((p1 &&& (2147483647 : Int32)) % (7 : Int32))), .val (.ref b1), .unset, .unset, .unset, .unset, .unset, .unset, .unset] [(.int ((f0_e6 p0) + ((p1 &&& (2147483647 : Int32)) % (7 : Int32)))), (.int (4 : Int32)), (.ref b1)])) _
    refine XS.bipush X5.here hx rfl (hb hby at_85) ?_
    show Steps p.tables e below (T5.setTop (mkF m 87 #[.val (.int p0), .val (.int p1), .val (.int p2), .val (.int p3), .val (.int p4), .val (.int ((1 : Int32) + ((p0 &&& (2147483647 : Int32)) % (6 : Int32)))), .val (.int ((p1 &&& (2147483647 : Int32)) % (7 : Int32))), .val (.ref b1), .unset, .unset, .unset, .unset, .unset, .unset, .unset] [(.int (7 : Int32)), (.int ((f0_e6 p0) + ((p1 &&& (2147483647 : Int32)) % (7 : Int32)))), (.int (4 : Int32)), (.ref b1)])) _
    refine iremM X5 hx rfl (hb hby at_87) rfl (by decide) ?_
    show Steps p.tables e below (T5.setTop (mkF m 88 #[.val (.int p0), .val (.int p1), .val (.int p2), .val (.int p3), .val (.int p4), .val (.int ((1 : Int32) + ((p0 &&& (2147483647 : Int32)) % (6 : Int32)))), .val (.int ((p1 &&& (2147483647 : Int32)) % (7 : Int32))), .val (.ref b1), .unset, .unset, .unset, .unset, .unset, .unset, .unset] [(.int (f0_e7 p0 p1)), (.int (4 : Int32)), (.ref b1)])) _
    refine st6 _ ?_
    show Steps p.tables e below (T6.setTop (mkF m 89 #[.val (.int p0), .val (.int p1), .val (.int p2), .val (.int p3), .val (.int p4), .val (.int ((1 : Int32) + ((p0 &&& (2147483647 : Int32)) % (6 : Int32)))), .val (.int ((p1 &&& (2147483647 : Int32)) % (7 : Int32))), .val (.ref b1), .unset, .unset, .unset, .unset, .unset, .unset, .unset] [])) _
    refine XS.aload X6.here hx rfl (hb hby at_89) rfl rfl ?_
    show Steps p.tables e below (T6.setTop (mkF m 91 #[.val (.int p0), .val (.int p1), .val (.int p2), .val (.int p3), .val (.int p4), .val (.int ((1 : Int32) + ((p0 &&& (2147483647 : Int32)) % (6 : Int32)))), .val (.int ((p1 &&& (2147483647 : Int32)) % (7 : Int32))), .val (.ref b1), .unset, .unset, .unset, .unset, .unset, .unset, .unset] [(.ref b1)])) _
    refine XS.iconst X6.here hx rfl (hb hby at_91) ?_
    show Steps p.tables e below (T6.setTop (mkF m 92 #[.val (.int p0), .val (.int p1), .val (.int p2), .val (.int p3), .val (.int p4), .val (.int ((1 : Int32) + ((p0 &&& (2147483647 : Int32)) % (6 : Int32)))), .val (.int ((p1 &&& (2147483647 : Int32)) % (7 : Int32))), .val (.ref b1), .unset, .unset, .unset, .unset, .unset, .unset, .unset] [(.int (5 : Int32)), (.ref b1)])) _
    refine XS.iconst X6.here hx rfl (hb hby at_92) ?_
    show Steps p.tables e below (T6.setTop (mkF m 93 #[.val (.int p0), .val (.int p1), .val (.int p2), .val (.int p3), .val (.int p4), .val (.int ((1 : Int32) + ((p0 &&& (2147483647 : Int32)) % (6 : Int32)))), .val (.int ((p1 &&& (2147483647 : Int32)) % (7 : Int32))), .val (.ref b1), .unset, .unset, .unset, .unset, .unset, .unset, .unset] [(.int (5 : Int32)), (.int (5 : Int32)), (.ref b1)])) _
    refine XS.iload X6.here hx rfl (hb hby at_93) rfl ?_
    show Steps p.tables e below (T6.setTop (mkF m 95 #[.val (.int p0), .val (.int p1), .val (.int p2), .val (.int p3), .val (.int p4), .val (.int ((1 : Int32) + ((p0 &&& (2147483647 : Int32)) % (6 : Int32)))), .val (.int ((p1 &&& (2147483647 : Int32)) % (7 : Int32))), .val (.ref b1), .unset, .unset, .unset, .unset, .unset, .unset, .unset] [(.int ((1 : Int32) + ((p0 &&& (2147483647 : Int32)) % (6 : Int32)))), (.int (5 : Int32)), (.int (5 : Int32)), (.ref b1)])) _
    refine XS.imul X6.here hx rfl (hb hby at_95) rfl ?_
    show Steps p.tables e below (T6.setTop (mkF m 96 #[.val (.int p0), .val (.int p1), .val (.int p2), .val (.int p3), .val (.int p4), .val (.int ((1 : Int32) + ((p0 &&& (2147483647 : Int32)) % (6 : Int32)))), .val (.int ((p1 &&& (2147483647 : Int32)) % (7 : Int32))), .val (.ref b1), .unset, .unset, .unset, .unset, .unset, .unset, .unset] [(.int (f0_e8 p0)), (.int (5 : Int32)), (.ref b1)])) _
    refine XS.iload X6.here hx rfl (hb hby at_96) rfl ?_
    show Steps p.tables e below (T6.setTop (mkF m 98 #[.val (.int p0), .val (.int p1), .val (.int p2), .val (.int p3), .val (.int p4), .val (.int ((1 : Int32) + ((p0 &&& (2147483647 : Int32)) % (6 : Int32)))), .val (.int ((p1 &&& (2147483647 : Int32)) % (7 : Int32))), .val (.ref b1), .unset, .unset, .unset, .unset, .unset, .unset, .unset] [(.int ((p1 &&& (2147483647 : Int32)) % (7 : Int32))), (.int (f0_e8 p0)), (.int (5 : Int32)), (.ref b1)])) _
    refine XS.iadd X6.here hx rfl (hb hby at_98) rfl ?_
    show Steps p.tables e below (T6.setTop (mkF m 99 #[.val (.int p0), .val (.int p1), .val (.int p2), .val (.int p3), .val (.int p4), .val (.int ((1 : Int32) + ((p0 &&& (2147483647 : Int32)) % (6 : Int32)))), .val (.int ((p1 &&& (2147483647 : Int32)) % (7 : Int32))), .val (.ref b1), .unset, .unset, .unset, .unset, .unset, .unset, .unset] [(.int ((f0_e8 p0) + ((p1 &&& (2147483647 : Int32)) % (7 : Int32)))), (.int (5 : Int32)), (.ref b1)])) _
    refine XS.bipush X6.here hx rfl (hb hby at_99) ?_
    show Steps p.tables e below (T6.setTop (mkF m 101 #[.val (.int p0), .val (.int p1), .val (.int p2), .val (.int p3), .val (.int p4), .val (.int ((1 : Int32) + ((p0 &&& (2147483647 : Int32)) % (6 : Int32)))), .val (.int ((p1 &&& (2147483647 : Int32)) % (7 : Int32))), .val (.ref b1), .unset, .unset, .unset, .unset, .unset, .unset, .unset] [(.int (7 : Int32)), (.int ((f0_e8 p0) + ((p1 &&& (2147483647 : Int32)) % (7 : Int32)))), (.int (5 : Int32)), (.ref b1)])) _
    refine iremM X6 hx rfl (hb hby at_101) rfl (by decide) ?_
    show Steps p.tables e below (T6.setTop (mkF m 102 #[.val (.int p0), .val (.int p1), .val (.int p2), .val (.int p3), .val (.int p4), .val (.int ((1 : Int32) + ((p0 &&& (2147483647 : Int32)) % (6 : Int32)))), .val (.int ((p1 &&& (2147483647 : Int32)) % (7 : Int32))), .val (.ref b1), .unset, .unset, .unset, .unset, .unset, .unset, .unset] [(.int (f0_e9 p0 p1)), (.int (5 : Int32)), (.ref b1)])) _
    refine st7 _ ?_
    show Steps p.tables e below (T7.setTop (mkF m 103 #[.val (.int p0), .val (.int p1), .val (.int p2), .val (.int p3), .val (.int p4), .val (.int ((1 : Int32) + ((p0 &&& (2147483647 : Int32)) % (6 : Int32)))), .val (.int ((p1 &&& (2147483647 : Int32)) % (7 : Int32))), .val (.ref b1), .unset, .unset, .unset, .unset, .unset, .unset, .unset] [])) _
    refine XS.aload X7.here hx rfl (hb hby at_103) rfl rfl ?_
    show Steps p.tables e below (T7.setTop (mkF m 105 #[.val (.int p0), .val (.int p1), .val (.int p2), .val (.int p3), .val (.int p4), .val (.int ((1 : Int32) + ((p0 &&& (2147483647 : Int32)) % (6 : Int32)))), .val (.int ((p1 &&& (2147483647 : Int32)) % (7 : Int32))), .val (.ref b1), .unset, .unset, .unset, .unset, .unset, .unset, .unset] [(.ref b1)])) _
    refine XS.bipush X7.here hx rfl (hb hby at_105) ?_
    show Steps p.tables e below (T7.setTop (mkF m 107 #[.val (.int p0), .val (.int p1), .val (.int p2), .val (.int p3), .val (.int p4), .val (.int ((1 : Int32) + ((p0 &&& (2147483647 : Int32)) % (6 : Int32)))), .val (.int ((p1 &&& (2147483647 : Int32)) % (7 : Int32))), .val (.ref b1), .unset, .unset, .unset, .unset, .unset, .unset, .unset] [(.int (6 : Int32)), (.ref b1)])) _
    refine XS.bipush X7.here hx rfl (hb hby at_107) ?_
    show Steps p.tables e below (T7.setTop (mkF m 109 #[.val (.int p0), .val (.int p1), .val (.int p2), .val (.int p3), .val (.int p4), .val (.int ((1 : Int32) + ((p0 &&& (2147483647 : Int32)) % (6 : Int32)))), .val (.int ((p1 &&& (2147483647 : Int32)) % (7 : Int32))), .val (.ref b1), .unset, .unset, .unset, .unset, .unset, .unset, .unset] [(.int (6 : Int32)), (.int (6 : Int32)), (.ref b1)])) _
    refine XS.iload X7.here hx rfl (hb hby at_109) rfl ?_
    show Steps p.tables e below (T7.setTop (mkF m 111 #[.val (.int p0), .val (.int p1), .val (.int p2), .val (.int p3), .val (.int p4), .val (.int ((1 : Int32) + ((p0 &&& (2147483647 : Int32)) % (6 : Int32)))), .val (.int ((p1 &&& (2147483647 : Int32)) % (7 : Int32))), .val (.ref b1), .unset, .unset, .unset, .unset, .unset, .unset, .unset] [(.int ((1 : Int32) + ((p0 &&& (2147483647 : Int32)) % (6 : Int32)))), (.int (6 : Int32)), (.int (6 : Int32)), (.ref b1)])) _
    refine XS.imul X7.here hx rfl (hb hby at_111) rfl ?_
    show Steps p.tables e below (T7.setTop (mkF m 112 #[.val (.int p0), .val (.int p1), .val (.int p2), .val (.int p3), .val (.int p4), .val (.int ((1 : Int32) + ((p0 &&& (2147483647 : Int32)) % (6 : Int32)))), .val (.int ((p1 &&& (2147483647 : Int32)) % (7 : Int32))), .val (.ref b1), .unset, .unset, .unset, .unset, .unset, .unset, .unset] [(.int (f0_e10 p0)), (.int (6 : Int32)), (.ref b1)])) _
    refine XS.iload X7.here hx rfl (hb hby at_112) rfl ?_
    show Steps p.tables e below (T7.setTop (mkF m 114 #[.val (.int p0), .val (.int p1), .val (.int p2), .val (.int p3), .val (.int p4), .val (.int ((1 : Int32) + ((p0 &&& (2147483647 : Int32)) % (6 : Int32)))), .val (.int ((p1 &&& (2147483647 : Int32)) % (7 : Int32))), .val (.ref b1), .unset, .unset, .unset, .unset, .unset, .unset, .unset] [(.int ((p1 &&& (2147483647 : Int32)) % (7 : Int32))), (.int (f0_e10 p0)), (.int (6 : Int32)), (.ref b1)])) _
    refine XS.iadd X7.here hx rfl (hb hby at_114) rfl ?_
    show Steps p.tables e below (T7.setTop (mkF m 115 #[.val (.int p0), .val (.int p1), .val (.int p2), .val (.int p3), .val (.int p4), .val (.int ((1 : Int32) + ((p0 &&& (2147483647 : Int32)) % (6 : Int32)))), .val (.int ((p1 &&& (2147483647 : Int32)) % (7 : Int32))), .val (.ref b1), .unset, .unset, .unset, .unset, .unset, .unset, .unset] [(.int ((f0_e10 p0) + ((p1 &&& (2147483647 : Int32)) % (7 : Int32)))), (.int (6 : Int32)), (.ref b1)])) _
    refine XS.bipush X7.here hx rfl (hb hby at_115) ?_
    show Steps p.tables e below (T7.setTop (mkF m 117 #[.val (.int p0), .val (.int p1), .val (.int p2), .val (.int p3), .val (.int p4), .val (.int ((1 : Int32) + ((p0 &&& (2147483647 : Int32)) % (6 : Int32)))), .val (.int ((p1 &&& (2147483647 : Int32)) % (7 : Int32))), .val (.ref b1), .unset, .unset, .unset, .unset, .unset, .unset, .unset] [(.int (7 : Int32)), (.int ((f0_e10 p0) + ((p1 &&& (2147483647 : Int32)) % (7 : Int32)))), (.int (6 : Int32)), (.ref b1)])) _
    refine iremM X7 hx rfl (hb hby at_117) rfl (by decide) ?_
    show Steps p.tables e below (T7.setTop (mkF m 118 #[.val (.int p0), .val (.int p1), .val (.int p2), .val (.int p3), .val (.int p4), .val (.int ((1 : Int32) + ((p0 &&& (2147483647 : Int32)) % (6 : Int32)))), .val (.int ((p1 &&& (2147483647 : Int32)) % (7 : Int32))), .val (.ref b1), .unset, .unset, .unset, .unset, .unset, .unset, .unset] [(.int (f0_e11 p0 p1)), (.int (6 : Int32)), (.ref b1)])) _
    refine st8 _ ?_
    show Steps p.tables e below (T8.setTop (mkF m 119 #[.val (.int p0), .val (.int p1), .val (.int p2), .val (.int p3), .val (.int p4), .val (.int ((1 : Int32) + ((p0 &&& (2147483647 : Int32)) % (6 : Int32)))), .val (.int ((p1 &&& (2147483647 : Int32)) % (7 : Int32))), .val (.ref b1), .unset, .unset, .unset, .unset, .unset, .unset, .unset] [])) _
    refine XS.iloadN X8.here hx rfl (hb hby at_119) rfl ?_
    show Steps p.tables e below (T8.setTop (mkF m 120 #[.val (.int p0), .val (.int p1), .val (.int p2), .val (.int p3), .val (.int p4), .val (.int ((1 : Int32) + ((p0 &&& (2147483647 : Int32)) % (6 : Int32)))), .val (.int ((p1 &&& (2147483647 : Int32)) % (7 : Int32))), .val (.ref b1), .unset, .unset, .unset, .unset, .unset, .unset, .unset] [(.int p2)])) _
    refine X8.ldcInt hx hown (mvT hZ (hw _ (List.mem_of_getElem? (i := 0) rfl))) (g := (mkF m 120 #[.val (.int p0), .val (.int p1), .val (.int p2), .val (.int p3), .val (.int p4), .val (.int ((1 : Int32) + ((p0 &&& (2147483647 : Int32)) % (6 : Int32)))), .val (.int ((p1 &&& (2147483647 : Int32)) % (7 : Int32))), .val (.ref b1), .unset, .unset, .unset, .unset, .unset, .unset, .unset] [(.int p2)])) rfl (hb hby at_120) _ ?_
    show Steps p.tables e below (T8.setTop (mkF m 122 #[.val (.int p0), .val (.int p1), .val (.int p2), .val (.int p3), .val (.int p4), .val (.int ((1 : Int32) + ((p0 &&& (2147483647 : Int32)) % (6 : Int32)))), .val (.int ((p1 &&& (2147483647 : Int32)) % (7 : Int32))), .val (.ref b1), .unset, .unset, .unset, .unset, .unset, .unset, .unset] [(.int (2147483647 : Int32)), (.int p2)])) _
    refine XS.iand X8.here hx rfl (hb hby at_122) rfl ?_
    show Steps p.tables e below (T8.setTop (mkF m 123 #[.val (.int p0), .val (.int p1), .val (.int p2), .val (.int p3), .val (.int p4), .val (.int ((1 : Int32) + ((p0 &&& (2147483647 : Int32)) % (6 : Int32)))), .val (.int ((p1 &&& (2147483647 : Int32)) % (7 : Int32))), .val (.ref b1), .unset, .unset, .unset, .unset, .unset, .unset, .unset] [(.int (p2 &&& (2147483647 : Int32)))])) _
    refine XS.bipush X8.here hx rfl (hb hby at_123) ?_
    show Steps p.tables e below (T8.setTop (mkF m 125 #[.val (.int p0), .val (.int p1), .val (.int p2), .val (.int p3), .val (.int p4), .val (.int ((1 : Int32) + ((p0 &&& (2147483647 : Int32)) % (6 : Int32)))), .val (.int ((p1 &&& (2147483647 : Int32)) % (7 : Int32))), .val (.ref b1), .unset, .unset, .unset, .unset, .unset, .unset, .unset] [(.int (7 : Int32)), (.int (p2 &&& (2147483647 : Int32)))])) _
    refine iremM X8 hx rfl (hb hby at_125) rfl (by decide) ?_
    show Steps p.tables e below (T8.setTop (mkF m 126 #[.val (.int p0), .val (.int p1), .val (.int p2), .val (.int p3), .val (.int p4), .val (.int ((1 : Int32) + ((p0 &&& (2147483647 : Int32)) % (6 : Int32)))), .val (.int ((p1 &&& (2147483647 : Int32)) % (7 : Int32))), .val (.ref b1), .unset, .unset, .unset, .unset, .unset, .unset, .unset] [(.int ((p2 &&& (2147483647 : Int32)) % (7 : Int32)))])) _
    refine XS.istore X8.here hx rfl (hb hby at_126) rfl (l' := #[.val (.int p0), .val (.int p1), .val (.int p2), .val (.int p3), .val (.int p4), .val (.int ((1 : Int32) + ((p0 &&& (2147483647 : Int32)) % (6 : Int32)))), .val (.int ((p1 &&& (2147483647 : Int32)) % (7 : Int32))), .val (.ref b1), .val (.int ((p2 &&& (2147483647 : Int32)) % (7 : Int32))), .unset, .unset, .unset, .unset, .unset, .unset]) rfl ?_
    show Steps p.tables e below (T8.setTop (mkF m 128 #[.val (.int p0), .val (.int p1), .val (.int p2), .val (.int p3), .val (.int p4), .val (.int ((1 : Int32) + ((p0 &&& (2147483647 : Int32)) % (6 : Int32)))), .val (.int ((p1 &&& (2147483647 : Int32)) % (7 : Int32))), .val (.ref b1), .val (.int ((p2 &&& (2147483647 : Int32)) % (7 : Int32))), .unset, .unset, .unset, .unset, .unset, .unset] [])) _
    refine XS.iloadN X8.here hx rfl (hb hby at_128) rfl ?_
    show Steps p.tables e below (T8.setTop (mkF m 129 #[.val (.int p0), .val (.int p1), .val (.int p2), .val (.int p3), .val (.int p4), .val (.int ((1 : Int32) + ((p0 &&& (2147483647 : Int32)) % (6 : Int32)))), .val (.int ((p1 &&& (2147483647 : Int32)) % (7 : Int32))), .val (.ref b1), .val (.int ((p2 &&& (2147483647 : Int32)) % (7 : Int32))), .unset, .unset, .unset, .unset, .unset, .unset] [(.int p3)])) _
    refine X8.ldcInt hx hown (mvT hZ (hw _ (List.mem_of_getElem? (i := 0) rfl))) (g := (mkF m 129 #[.val (.int p0), .val (.int p1), .val (.int p2), .val (.int p3), .val (.int p4), .val (.int ((1 : Int32) + ((p0 &&& (2147483647 : Int32)) % (6 : Int32)))), .val (.int ((p1 &&& (2147483647 : Int32)) % (7 : Int32))), .val (.ref b1), .val (.int ((p2 &&& (2147483647 : Int32)) % (7 : Int32))), .unset, .unset, .unset, .unset, .unset, .unset] [(.int p3)])) rfl (hb hby at_129) _ ?_
    show Steps p.tables e below (T8.setTop (mkF m 131 #[.val (.int p0), .val (.int p1), .val (.int p2), .val (.int p3), .val (.int p4), .val (.int ((1 : Int32) + ((p0 &&& (2147483647 : Int32)) % (6 : Int32)))), .val (.int ((p1 &&& (2147483647 : Int32)) % (7 : Int32))), .val (.ref b1), .val (.int ((p2 &&& (2147483647 : Int32)) % (7 : Int32))), .unset, .unset, .unset, .unset, .unset, .unset] [(.int (2147483647 : Int32)), (.int p3)])) _
    refine XS.iand X8.here hx rfl (hb hby at_131) rfl ?_
    show Steps p.tables e below (T8.setTop (mkF m 132 #[.val (.int p0), .val (.int p1), .val (.int p2), .val (.int p3), .val (.int p4), .val (.int ((1 : Int32) + ((p0 &&& (2147483647 : Int32)) % (6 : Int32)))), .val (.int ((p1 &&& (2147483647 : Int32)) % (7 : Int32))), .val (.ref b1), .val (.int ((p2 &&& (2147483647 : Int32)) % (7 : Int32))), .unset, .unset, .unset, .unset, .unset, .unset] [(.int (p3 &&& (2147483647 : Int32)))])) _
    refine XS.bipush X8.here hx rfl (hb hby at_132) ?_
    show Steps p.tables e below (T8.setTop (mkF m 134 #[.val (.int p0), .val (.int p1), .val (.int p2), .val (.int p3), .val (.int p4), .val (.int ((1 : Int32) + ((p0 &&& (2147483647 : Int32)) % (6 : Int32)))), .val (.int ((p1 &&& (2147483647 : Int32)) % (7 : Int32))), .val (.ref b1), .val (.int ((p2 &&& (2147483647 : Int32)) % (7 : Int32))), .unset, .unset, .unset, .unset, .unset, .unset] [(.int (7 : Int32)), (.int (p3 &&& (2147483647 : Int32)))])) _
    refine iremM X8 hx rfl (hb hby at_134) rfl (by decide) ?_
    show Steps p.tables e below (T8.setTop (mkF m 135 #[.val (.int p0), .val (.int p1), .val (.int p2), .val (.int p3), .val (.int p4), .val (.int ((1 : Int32) + ((p0 &&& (2147483647 : Int32)) % (6 : Int32)))), .val (.int ((p1 &&& (2147483647 : Int32)) % (7 : Int32))), .val (.ref b1), .val (.int ((p2 &&& (2147483647 : Int32)) % (7 : Int32))), .unset, .unset, .unset, .unset, .unset, .unset] [(.int ((p3 &&& (2147483647 : Int32)) % (7 : Int32)))])) _
    refine XS.istore X8.here hx rfl (hb hby at_135) rfl (l' := #[.val (.int p0), .val (.int p1), .val (.int p2), .val (.int p3), .val (.int p4), .val (.int ((1 : Int32) + ((p0 &&& (2147483647 : Int32)) % (6 : Int32)))), .val (.int ((p1 &&& (2147483647 : Int32)) % (7 : Int32))), .val (.ref b1), .val (.int ((p2 &&& (2147483647 : Int32)) % (7 : Int32))), .val (.int ((p3 &&& (2147483647 : Int32)) % (7 : Int32))), .unset, .unset, .unset, .unset, .unset]) rfl ?_
    show Steps p.tables e below (T8.setTop (mkF m 137 #[.val (.int p0), .val (.int p1), .val (.int p2), .val (.int p3), .val (.int p4), .val (.int ((1 : Int32) + ((p0 &&& (2147483647 : Int32)) % (6 : Int32)))), .val (.int ((p1 &&& (2147483647 : Int32)) % (7 : Int32))), .val (.ref b1), .val (.int ((p2 &&& (2147483647 : Int32)) % (7 : Int32))), .val (.int ((p3 &&& (2147483647 : Int32)) % (7 : Int32))), .unset, .unset, .unset, .unset, .unset] [])) _
    refine XS.iload X8.here hx rfl (hb hby at_137) rfl ?_
    show Steps p.tables e below (T8.setTop (mkF m 139 #[.val (.int p0), .val (.int p1), .val (.int p2), .val (.int p3), .val (.int p4), .val (.int ((1 : Int32) + ((p0 &&& (2147483647 : Int32)) % (6 : Int32)))), .val (.int ((p1 &&& (2147483647 : Int32)) % (7 : Int32))), .val (.ref b1), .val (.int ((p2 &&& (2147483647 : Int32)) % (7 : Int32))), .val (.int ((p3 &&& (2147483647 : Int32)) % (7 : Int32))), .unset, .unset, .unset, .unset, .unset] [(.int p4)])) _
    refine X8.ldcInt hx hown (mvT hZ (hw _ (List.mem_of_getElem? (i := 0) rfl))) (g := (mkF m 139 #[.val (.int p0), .val (.int p1), .val (.int p2), .val (.int p3), .val (.int p4), .val (.int ((1 : Int32) + ((p0 &&& (2147483647 : Int32)) % (6 : Int32)))), .val (.int ((p1 &&& (2147483647 : Int32)) % (7 : Int32))), .val (.ref b1), .val (.int ((p2 &&& (2147483647 : Int32)) % (7 : Int32))), .val (.int ((p3 &&& (2147483647 : Int32)) % (7 : Int32))), .unset, .unset, .unset, .unset, .unset] [(.int p4)])) rfl (hb hby at_139) _ ?_
    show Steps p.tables e below (T8.setTop (mkF m 141 #[.val (.int p0), .val (.int p1), .val (.int p2), .val (.int p3), .val (.int p4), .val (.int ((1 : Int32) + ((p0 &&& (2147483647 : Int32)) % (6 : Int32)))), .val (.int ((p1 &&& (2147483647 : Int32)) % (7 : Int32))), .val (.ref b1), .val (.int ((p2 &&& (2147483647 : Int32)) % (7 : Int32))), .val (.int ((p3 &&& (2147483647 : Int32)) % (7 : Int32))), .unset, .unset, .unset, .unset, .unset] [(.int (2147483647 : Int32)), (.int p4)])) _
    refine XS.iand X8.here hx rfl (hb hby at_141) rfl ?_
    show Steps p.tables e below (T8.setTop (mkF m 142 #[.val (.int p0), .val (.int p1), .val (.int p2), .val (.int p3), .val (.int p4), .val (.int ((1 : Int32) + ((p0 &&& (2147483647 : Int32)) % (6 : Int32)))), .val (.int ((p1 &&& (2147483647 : Int32)) % (7 : Int32))), .val (.ref b1), .val (.int ((p2 &&& (2147483647 : Int32)) % (7 : Int32))), .val (.int ((p3 &&& (2147483647 : Int32)) % (7 : Int32))), .unset, .unset, .unset, .unset, .unset] [(.int (p4 &&& (2147483647 : Int32)))])) _
    refine XS.bipush X8.here hx rfl (hb hby at_142) ?_
    show Steps p.tables e below (T8.setTop (mkF m 144 #[.val (.int p0), .val (.int p1), .val (.int p2), .val (.int p3), .val (.int p4), .val (.int ((1 : Int32) + ((p0 &&& (2147483647 : Int32)) % (6 : Int32)))), .val (.int ((p1 &&& (2147483647 : Int32)) % (7 : Int32))), .val (.ref b1), .val (.int ((p2 &&& (2147483647 : Int32)) % (7 : Int32))), .val (.int ((p3 &&& (2147483647 : Int32)) % (7 : Int32))), .unset, .unset, .unset, .unset, .unset] [(.int (7 : Int32)), (.int (p4 &&& (2147483647 : Int32)))])) _
    refine iremM X8 hx rfl (hb hby at_144) rfl (by decide) ?_
    show Steps p.tables e below (T8.setTop (mkF m 145 #[.val (.int p0), .val (.int p1), .val (.int p2), .val (.int p3), .val (.int p4), .val (.int ((1 : Int32) + ((p0 &&& (2147483647 : Int32)) % (6 : Int32)))), .val (.int ((p1 &&& (2147483647 : Int32)) % (7 : Int32))), .val (.ref b1), .val (.int ((p2 &&& (2147483647 : Int32)) % (7 : Int32))), .val (.int ((p3 &&& (2147483647 : Int32)) % (7 : Int32))), .unset, .unset, .unset, .unset, .unset] [(.int ((p4 &&& (2147483647 : Int32)) % (7 : Int32)))])) _
    refine XS.istore X8.here hx rfl (hb hby at_145) rfl (l' := #[.val (.int p0), .val (.int p1), .val (.int p2), .val (.int p3), .val (.int p4), .val (.int ((1 : Int32) + ((p0 &&& (2147483647 : Int32)) % (6 : Int32)))), .val (.int ((p1 &&& (2147483647 : Int32)) % (7 : Int32))), .val (.ref b1), .val (.int ((p2 &&& (2147483647 : Int32)) % (7 : Int32))), .val (.int ((p3 &&& (2147483647 : Int32)) % (7 : Int32))), .val (.int ((p4 &&& (2147483647 : Int32)) % (7 : Int32))), .unset, .unset, .unset, .unset]) rfl ?_
    show Steps p.tables e below (T8.setTop (mkF m 147 #[.val (.int p0), .val (.int p1), .val (.int p2), .val (.int p3), .val (.int p4), .val (.int ((1 : Int32) + ((p0 &&& (2147483647 : Int32)) % (6 : Int32)))), .val (.int ((p1 &&& (2147483647 : Int32)) % (7 : Int32))), .val (.ref b1), .val (.int ((p2 &&& (2147483647 : Int32)) % (7 : Int32))), .val (.int ((p3 &&& (2147483647 : Int32)) % (7 : Int32))), .val (.int ((p4 &&& (2147483647 : Int32)) % (7 : Int32))), .unset, .unset, .unset, .unset] [])) _
    refine st9 _ ?_
    show Steps p.tables e below (T9.setTop (mkF m 150 #[.val (.int p0), .val (.int p1), .val (.int p2), .val (.int p3), .val (.int p4), .val (.int ((1 : Int32) + ((p0 &&& (2147483647 : Int32)) % (6 : Int32)))), .val (.int ((p1 &&& (2147483647 : Int32)) % (7 : Int32))), .val (.ref b1), .val (.int ((p2 &&& (2147483647 : Int32)) % (7 : Int32))), .val (.int ((p3 &&& (2147483647 : Int32)) % (7 : Int32))), .val (.int ((p4 &&& (2147483647 : Int32)) % (7 : Int32))), .unset, .unset, .unset, .unset] [(.ref b9)])) _
    refine XS.dup X9.here hx rfl (hb hby at_150) rfl rfl ?_
    show Steps p.tables e below (T9.setTop (mkF m 151 #[.val (.int p0), .val (.int p1), .val (.int p2), .val (.int p3), .val (.int p4), .val (.int ((1 : Int32) + ((p0 &&& (2147483647 : Int32)) % (6 : Int32)))), .val (.int ((p1 &&& (2147483647 : Int32)) % (7 : Int32))), .val (.ref b1), .val (.int ((p2 &&& (2147483647 : Int32)) % (7 : Int32))), .val (.int ((p3 &&& (2147483647 : Int32)) % (7 : Int32))), .val (.int ((p4 &&& (2147483647 : Int32)) % (7 : Int32))), .unset, .unset, .unset, .unset] [(.ref b9), (.ref b9)])) _
    refine XS.aload X9.here hx rfl (hb hby at_151) rfl rfl ?_
    show Steps p.tables e below (T9.setTop (mkF m 153 #[.val (.int p0), .val (.int p1), .val (.int p2), .val (.int p3), .val (.int p4), .val (.int ((1 : Int32) + ((p0 &&& (2147483647 : Int32)) % (6 : Int32)))), .val (.int ((p1 &&& (2147483647 : Int32)) % (7 : Int32))), .val (.ref b1), .val (.int ((p2 &&& (2147483647 : Int32)) % (7 : Int32))), .val (.int ((p3 &&& (2147483647 : Int32)) % (7 : Int32))), .val (.int ((p4 &&& (2147483647 : Int32)) % (7 : Int32))), .unset, .unset, .unset, .unset] [(.ref b1), (.ref b9), (.ref b9)])) _
    refine st10.trans ?_
    show Steps p.tables e below (T10.setTop (mkF m 156 #[.val (.int p0), .val (.int p1), .val (.int p2), .val (.int p3), .val (.int p4), .val (.int ((1 : Int32) + ((p0 &&& (2147483647 : Int32)) % (6 : Int32)))), .val (.int ((p1 &&& (2147483647 : Int32)) % (7 : Int32))), .val (.ref b1), .val (.int ((p2 &&& (2147483647 : Int32)) % (7 : Int32))), .val (.int ((p3 &&& (2147483647 : Int32)) % (7 : Int32))), .val (.int ((p4 &&& (2147483647 : Int32)) % (7 : Int32))), .unset, .unset, .unset, .unset] [(.ref b9)])) _
    refine XS.astore X10.here hx rfl (hb hby at_156) rfl rfl (l' := #[.val (.int p0), .val (.int p1), .val (.int p2), .val (.int p3), .val (.int p4), .val (.int ((1 : Int32) + ((p0 &&& (2147483647 : Int32)) % (6 : Int32)))), .val (.int ((p1 &&& (2147483647 : Int32)) % (7 : Int32))), .val (.ref b1), .val (.int ((p2 &&& (2147483647 : Int32)) % (7 : Int32))), .val (.int ((p3 &&& (2147483647 : Int32)) % (7 : Int32))), .val (.int ((p4 &&& (2147483647 : Int32)) % (7 : Int32))), .val (.ref b9), .unset, .unset, .unset]) rfl ?_
    show Steps p.tables e below (T10.setTop (mkF m 158 #[.val (.int p0), .val (.int p1), .val (.int p2), .val (.int p3), .val (.int p4), .val (.int ((1 : Int32) + ((p0 &&& (2147483647 : Int32)) % (6 : Int32)))), .val (.int ((p1 &&& (2147483647 : Int32)) % (7 : Int32))), .val (.ref b1), .val (.int ((p2 &&& (2147483647 : Int32)) % (7 : Int32))), .val (.int ((p3 &&& (2147483647 : Int32)) % (7 : Int32))), .val (.int ((p4 &&& (2147483647 : Int32)) % (7 : Int32))), .val (.ref b9), .unset, .unset, .unset] [])) _
    refine XS.aload X10.here hx rfl (hb hby at_158) rfl rfl ?_
    show Steps p.tables e below (T10.setTop (mkF m 160 #[.val (.int p0), .val (.int p1), .val (.int p2), .val (.int p3), .val (.int p4), .val (.int ((1 : Int32) + ((p0 &&& (2147483647 : Int32)) % (6 : Int32)))), .val (.int ((p1 &&& (2147483647 : Int32)) % (7 : Int32))), .val (.ref b1), .val (.int ((p2 &&& (2147483647 : Int32)) % (7 : Int32))), .val (.int ((p3 &&& (2147483647 : Int32)) % (7 : Int32))), .val (.int ((p4 &&& (2147483647 : Int32)) % (7 : Int32))), .val (.ref b9), .unset, .unset, .unset] [(.ref b9)])) _
    refine XS.aload X10.here hx rfl (hb hby at_160) rfl rfl ?_
    show Steps p.tables e below (T10.setTop (mkF m 162 #[.val (.int p0), .val (.int p1), .val (.int p2), .val (.int p3), .val (.int p4), .val (.int ((1 : Int32) + ((p0 &&& (2147483647 : Int32)) % (6 : Int32)))), .val (.int ((p1 &&& (2147483647 : Int32)) % (7 : Int32))), .val (.ref b1), .val (.int ((p2 &&& (2147483647 : Int32)) % (7 : Int32))), .val (.int ((p3 &&& (2147483647 : Int32)) % (7 : Int32))), .val (.int ((p4 &&& (2147483647 : Int32)) % (7 : Int32))), .val (.ref b9), .unset, .unset, .unset] [(.ref b1), (.ref b9)])) _
    refine XS.iload X10.here hx rfl (hb hby at_162) rfl ?_
    show Steps p.tables e below (T10.setTop (mkF m 164 #[.val (.int p0), .val (.int p1), .val (.int p2), .val (.int p3), .val (.int p4), .val (.int ((1 : Int32) + ((p0 &&& (2147483647 : Int32)) % (6 : Int32)))), .val (.int ((p1 &&& (2147483647 : Int32)) % (7 : Int32))), .val (.ref b1), .val (.int ((p2 &&& (2147483647 : Int32)) % (7 : Int32))), .val (.int ((p3 &&& (2147483647 : Int32)) % (7 : Int32))), .val (.int ((p4 &&& (2147483647 : Int32)) % (7 : Int32))), .val (.ref b9), .unset, .unset, .unset] [(.int ((p2 &&& (2147483647 : Int32)) % (7 : Int32))), (.ref b1), (.ref b9)])) _
    refine X10.iaload hx (j := ((p2 &&& (2147483647 : Int32)) % (7 : Int32))) (v := (.int (own_c p0 p1 ((p2 &&& (2147483647 : Int32)) % (7 : Int32))))) Ar11.1 (State.isArrayOf_alike hZ.alike Ar11.2.1) Ar11.2.2 (own_in7 S11 (own_p1 p2) (own_p2 p2)) (own_hat p0 p1 H11 S11 ((p2 &&& (2147483647 : Int32)) % (7 : Int32)) (own_p1 p2) (own_p2 p2)) (g := (mkF m 164 #[.val (.int p0), .val (.int p1), .val (.int p2), .val (.int p3), .val (.int p4), .val (.int ((1 : Int32) + ((p0 &&& (2147483647 : Int32)) % (6 : Int32)))), .val (.int ((p1 &&& (2147483647 : Int32)) % (7 : Int32))), .val (.ref b1), .val (.int ((p2 &&& (2147483647 : Int32)) % (7 : Int32))), .val (.int ((p3 &&& (2147483647 : Int32)) % (7 : Int32))), .val (.int ((p4 &&& (2147483647 : Int32)) % (7 : Int32))), .val (.ref b9), .unset, .unset, .unset] [(.int ((p2 &&& (2147483647 : Int32)) % (7 : Int32))), (.ref b1), (.ref b9)])) rfl rfl (hb hby at_164) _ ?_
    show Steps p.tables e below (T10.setTop (mkF m 165 #[.val (.int p0), .val (.int p1), .val (.int p2), .val (.int p3), .val (.int p4), .val (.int ((1 : Int32) + ((p0 &&& (2147483647 : Int32)) % (6 : Int32)))), .val (.int ((p1 &&& (2147483647 : Int32)) % (7 : Int32))), .val (.ref b1), .val (.int ((p2 &&& (2147483647 : Int32)) % (7 : Int32))), .val (.int ((p3 &&& (2147483647 : Int32)) % (7 : Int32))), .val (.int ((p4 &&& (2147483647 : Int32)) % (7 : Int32))), .val (.ref b9), .unset, .unset, .unset] [(.int (own_c p0 p1 ((p2 &&& (2147483647 : Int32)) % (7 : Int32)))), (.ref b9)])) _
    refine XS.aload X10.here hx rfl (hb hby at_165) rfl rfl ?_
    show Steps p.tables e below (T10.setTop (mkF m 167 #[.val (.int p0), .val (.int p1), .val (.int p2), .val (.int p3), .val (.int p4), .val (.int ((1 : Int32) + ((p0 &&& (2147483647 : Int32)) % (6 : Int32)))), .val (.int ((p1 &&& (2147483647 : Int32)) % (7 : Int32))), .val (.ref b1), .val (.int ((p2 &&& (2147483647 : Int32)) % (7 : Int32))), .val (.int ((p3 &&& (2147483647 : Int32)) % (7 : Int32))), .val (.int ((p4 &&& (2147483647 : Int32)) % (7 : Int32))), .val (.ref b9), .unset, .unset, .unset] [(.ref b1), (.int (own_c p0 p1 ((p2 &&& (2147483647 : Int32)) % (7 : Int32)))), (.ref b9)])) _
    refine XS.iload X10.here hx rfl (hb hby at_167) rfl ?_
    show Steps p.tables e below (T10.setTop (mkF m 169 #[.val (.int p0), .val (.int p1), .val (.int p2), .val (.int p3), .val (.int p4), .val (.int ((1 : Int32) + ((p0 &&& (2147483647 : Int32)) % (6 : Int32)))), .val (.int ((p1 &&& (2147483647 : Int32)) % (7 : Int32))), .val (.ref b1), .val (.int ((p2 &&& (2147483647 : Int32)) % (7 : Int32))), .val (.int ((p3 &&& (2147483647 : Int32)) % (7 : Int32))), .val (.int ((p4 &&& (2147483647 : Int32)) % (7 : Int32))), .val (.ref b9), .unset, .unset, .unset] [(.int ((p3 &&& (2147483647 : Int32)) % (7 : Int32))), (.ref b1), (.int (own_c p0 p1 ((p2 &&& (2147483647 : Int32)) % (7 : Int32)))), (.ref b9)])) _
    refine X10.iaload hx (j := ((p3 &&& (2147483647 : Int32)) % (7 : Int32))) (v := (.int (own_c p0 p1 ((p3 &&& (2147483647 : Int32)) % (7 : Int32))))) Ar12.1 (State.isArrayOf_alike hZ.alike Ar12.2.1) Ar12.2.2 (own_in7 S12 (own_p1 p3) (own_p2 p3)) (own_hat p0 p1 H12 S12 ((p3 &&& (2147483647 : Int32)) % (7 : Int32)) (own_p1 p3) (own_p2 p3)) (g := (mkF m 169 #[.val (.int p0), .val (.int p1), .val (.int p2), .val (.int p3), .val (.int p4), .val (.int ((1 : Int32) + ((p0 &&& (2147483647 : Int32)) % (6 : Int32)))), .val (.int ((p1 &&& (2147483647 : Int32)) % (7 : Int32))), .val (.ref b1), .val (.int ((p2 &&& (2147483647 : Int32)) % (7 : Int32))), .val (.int ((p3 &&& (2147483647 : Int32)) % (7 : Int32))), .val (.int ((p4 &&& (2147483647 : Int32)) % (7 : Int32))), .val (.ref b9), .unset, .unset, .unset] [(.int ((p3 &&& (2147483647 : Int32)) % (7 : Int32))), (.ref b1), (.int (own_c p0 p1 ((p2 &&& (2147483647 : Int32)) % (7 : Int32)))), (.ref b9)])) rfl rfl (hb hby at_169) _ ?_
    show Steps p.tables e below (T10.setTop (mkF m 170 #[.val (.int p0), .val (.int p1), .val (.int p2), .val (.int p3), .val (.int p4), .val (.int ((1 : Int32) + ((p0 &&& (2147483647 : Int32)) % (6 : Int32)))), .val (.int ((p1 &&& (2147483647 : Int32)) % (7 : Int32))), .val (.ref b1), .val (.int ((p2 &&& (2147483647 : Int32)) % (7 : Int32))), .val (.int ((p3 &&& (2147483647 : Int32)) % (7 : Int32))), .val (.int ((p4 &&& (2147483647 : Int32)) % (7 : Int32))), .val (.ref b9), .unset, .unset, .unset] [(.int (own_c p0 p1 ((p3 &&& (2147483647 : Int32)) % (7 : Int32)))), (.int (own_c p0 p1 ((p2 &&& (2147483647 : Int32)) % (7 : Int32)))), (.ref b9)])) _
    refine XS.aload X10.here hx rfl (hb hby at_170) rfl rfl ?_
    show Steps p.tables e below (T10.setTop (mkF m 172 #[.val (.int p0), .val (.int p1), .val (.int p2), .val (.int p3), .val (.int p4), .val (.int ((1 : Int32) + ((p0 &&& (2147483647 : Int32)) % (6 : Int32)))), .val (.int ((p1 &&& (2147483647 : Int32)) % (7 : Int32))), .val (.ref b1), .val (.int ((p2 &&& (2147483647 : Int32)) % (7 : Int32))), .val (.int ((p3 &&& (2147483647 : Int32)) % (7 : Int32))), .val (.int ((p4 &&& (2147483647 : Int32)) % (7 : Int32))), .val (.ref b9), .unset, .unset, .unset] [(.ref b1), (.int (own_c p0 p1 ((p3 &&& (2147483647 : Int32)) % (7 : Int32)))), (.int (own_c p0 p1 ((p2 &&& (2147483647 : Int32)) % (7 : Int32)))), (.ref b9)])) _
    refine XS.iload X10.here hx rfl (hb hby at_172) rfl ?_
    show Steps p.tables e below (T10.setTop (mkF m 174 #[.val (.int p0), .val (.int p1), .val (.int p2), .val (.int p3), .val (.int p4), .val (.int ((1 : Int32) + ((p0 &&& (2147483647 : Int32)) % (6 : Int32)))), .val (.int ((p1 &&& (2147483647 : Int32)) % (7 : Int32))), .val (.ref b1), .val (.int ((p2 &&& (2147483647 : Int32)) % (7 : Int32))), .val (.int ((p3 &&& (2147483647 : Int32)) % (7 : Int32))), .val (.int ((p4 &&& (2147483647 : Int32)) % (7 : Int32))), .val (.ref b9), .unset, .unset, .unset] [(.int ((p4 &&& (2147483647 : Int32)) % (7 : Int32))), (.ref b1), (.int (own_c p0 p1 ((p3 &&& (2147483647 : Int32)) % (7 : Int32)))), (.int (own_c p0 p1 ((p2 &&& (2147483647 : Int32)) % (7 : Int32)))), (.ref b9)])) _
    refine X10.iaload hx (j := ((p4 &&& (2147483647 : Int32)) % (7 : Int32))) (v := (.int (own_c p0 p1 ((p4 &&& (2147483647 : Int32)) % (7 : Int32))))) Ar13.1 (State.isArrayOf_alike hZ.alike Ar13.2.1) Ar13.2.2 (own_in7 S13 (own_p1 p4) (own_p2 p4)) (own_hat p0 p1 H13 S13 ((p4 &&& (2147483647 : Int32)) % (7 : Int32)) (own_p1 p4) (own_p2 p4)) (g := (mkF m 174 #[.val (.int p0), .val (.int p1), .val (.int p2), .val (.int p3), .val (.int p4), .val (.int ((1 : Int32) + ((p0 &&& (2147483647 : Int32)) % (6 : Int32)))), .val (.int ((p1 &&& (2147483647 : Int32)) % (7 : Int32))), .val (.ref b1), .val (.int ((p2 &&& (2147483647 : Int32)) % (7 : Int32))), .val (.int ((p3 &&& (2147483647 : Int32)) % (7 : Int32))), .val (.int ((p4 &&& (2147483647 : Int32)) % (7 : Int32))), .val (.ref b9), .unset, .unset, .unset] [(.int ((p4 &&& (2147483647 : Int32)) % (7 : Int32))), (.ref b1), (.int (own_c p0 p1 ((p3 &&& (2147483647 : Int32)) % (7 : Int32)))), (.int (own_c p0 p1 ((p2 &&& (2147483647 : Int32)) % (7 : Int32)))), (.ref b9)])) rfl rfl (hb hby at_174) _ ?_
    show Steps p.tables e below (T10.setTop (mkF m 175 #[.val (.int p0), .val (.int p1), .val (.int p2), .val (.int p3), .val (.int p4), .val (.int ((1 : Int32) + ((p0 &&& (2147483647 : Int32)) % (6 : Int32)))), .val (.int ((p1 &&& (2147483647 : Int32)) % (7 : Int32))), .val (.ref b1), .val (.int ((p2 &&& (2147483647 : Int32)) % (7 : Int32))), .val (.int ((p3 &&& (2147483647 : Int32)) % (7 : Int32))), .val (.int ((p4 &&& (2147483647 : Int32)) % (7 : Int32))), .val (.ref b9), .unset, .unset, .unset] [(.int (own_c p0 p1 ((p4 &&& (2147483647 : Int32)) % (7 : Int32)))), (.int (own_c p0 p1 ((p3 &&& (2147483647 : Int32)) % (7 : Int32)))), (.int (own_c p0 p1 ((p2 &&& (2147483647 : Int32)) % (7 : Int32)))), (.ref b9)])) _
    refine st14.trans ?_
    show Steps p.tables e below (T14.setTop (mkF m 178 #[.val (.int p0), .val (.int p1), .val (.int p2), .val (.int p3), .val (.int p4), .val (.int ((1 : Int32) + ((p0 &&& (2147483647 : Int32)) % (6 : Int32)))), .val (.int ((p1 &&& (2147483647 : Int32)) % (7 : Int32))), .val (.ref b1), .val (.int ((p2 &&& (2147483647 : Int32)) % (7 : Int32))), .val (.int ((p3 &&& (2147483647 : Int32)) % (7 : Int32))), .val (.int ((p4 &&& (2147483647 : Int32)) % (7 : Int32))), .val (.ref b9), .unset, .unset, .unset] [(.int (f0_e12 p0 p1 p2 p3 p4))])) _
    refine XS.istore X14.here hx rfl (hb hby at_178) rfl (l' := #[.val (.int p0), .val (.int p1), .val (.int p2), .val (.int p3), .val (.int p4), .val (.int ((1 : Int32) + ((p0 &&& (2147483647 : Int32)) % (6 : Int32)))), .val (.int ((p1 &&& (2147483647 : Int32)) % (7 : Int32))), .val (.ref b1), .val (.int ((p2 &&& (2147483647 : Int32)) % (7 : Int32))), .val (.int ((p3 &&& (2147483647 : Int32)) % (7 : Int32))), .val (.int ((p4 &&& (2147483647 : Int32)) % (7 : Int32))), .val (.ref b9), .val (.int (f0_e12 p0 p1 p2 p3 p4)), .unset, .unset]) rfl ?_
    show Steps p.tables e below (T14.setTop (mkF m 180 #[.val (.int p0), .val (.int p1), .val (.int p2), .val (.int p3), .val (.int p4), .val (.int ((1 : Int32) + ((p0 &&& (2147483647 : Int32)) % (6 : Int32)))), .val (.int ((p1 &&& (2147483647 : Int32)) % (7 : Int32))), .val (.ref b1), .val (.int ((p2 &&& (2147483647 : Int32)) % (7 : Int32))), .val (.int ((p3 &&& (2147483647 : Int32)) % (7 : Int32))), .val (.int ((p4 &&& (2147483647 : Int32)) % (7 : Int32))), .val (.ref b9), .val (.int (f0_e12 p0 p1 p2 p3 p4)), .unset, .unset] [])) _
    refine XS.iload X14.here hx rfl (hb hby at_180) rfl ?_
    show Steps p.tables e below (T14.setTop (mkF m 182 #[.val (.int p0), .val (.int p1), .val (.int p2), .val (.int p3), .val (.int p4), .val (.int ((1 : Int32) + ((p0 &&& (2147483647 : Int32)) % (6 : Int32)))), .val (.int ((p1 &&& (2147483647 : Int32)) % (7 : Int32))), .val (.ref b1), .val (.int ((p2 &&& (2147483647 : Int32)) % (7 : Int32))), .val (.int ((p3 &&& (2147483647 : Int32)) % (7 : Int32))), .val (.int ((p4 &&& (2147483647 : Int32)) % (7 : Int32))), .val (.ref b9), .val (.int (f0_e12 p0 p1 p2 p3 p4)), .unset, .unset] [(.int ((p3 &&& (2147483647 : Int32)) % (7 : Int32)))])) _
    refine XS.iload X14.here hx rfl (hb hby at_182) rfl ?_
    show Steps p.tables e below (T14.setTop (mkF m 184 #[.val (.int p0), .val (.int p1), .val (.int p2), .val (.int p3), .val (.int p4), .val (.int ((1 : Int32) + ((p0 &&& (2147483647 : Int32)) % (6 : Int32)))), .val (.int ((p1 &&& (2147483647 : Int32)) % (7 : Int32))), .val (.ref b1), .val (.int ((p2 &&& (2147483647 : Int32)) % (7 : Int32))), .val (.int ((p3 &&& (2147483647 : Int32)) % (7 : Int32))), .val (.int ((p4 &&& (2147483647 : Int32)) % (7 : Int32))), .val (.ref b9), .val (.int (f0_e12 p0 p1 p2 p3 p4)), .unset, .unset] [(.int ((p2 &&& (2147483647 : Int32)) % (7 : Int32))), (.int ((p3 &&& (2147483647 : Int32)) % (7 : Int32)))])) _
    refine XS.isub X14.here hx rfl (hb hby at_184) rfl ?_
    show Steps p.tables e below (T14.setTop (mkF m 185 #[.val (.int p0), .val (.int p1), .val (.int p2), .val (.int p3), .val (.int p4), .val (.int ((1 : Int32) + ((p0 &&& (2147483647 : Int32)) % (6 : Int32)))), .val (.int ((p1 &&& (2147483647 : Int32)) % (7 : Int32))), .val (.ref b1), .val (.int ((p2 &&& (2147483647 : Int32)) % (7 : Int32))), .val (.int ((p3 &&& (2147483647 : Int32)) % (7 : Int32))), .val (.int ((p4 &&& (2147483647 : Int32)) % (7 : Int32))), .val (.ref b9), .val (.int (f0_e12 p0 p1 p2 p3 p4)), .unset, .unset] [(.int (f0_e13 p2 p3))])) _
    refine XS.bipush X14.here hx rfl (hb hby at_185) ?_
    show Steps p.tables e below (T14.setTop (mkF m 187 #[.val (.int p0), .val (.int p1), .val (.int p2), .val (.int p3), .val (.int p4), .val (.int ((1 : Int32) + ((p0 &&& (2147483647 : Int32)) % (6 : Int32)))), .val (.int ((p1 &&& (2147483647 : Int32)) % (7 : Int32))), .val (.ref b1), .val (.int ((p2 &&& (2147483647 : Int32)) % (7 : Int32))), .val (.int ((p3 &&& (2147483647 : Int32)) % (7 : Int32))), .val (.int ((p4 &&& (2147483647 : Int32)) % (7 : Int32))), .val (.ref b9), .val (.int (f0_e12 p0 p1 p2 p3 p4)), .unset, .unset] [(.int (7 : Int32)), (.int (f0_e13 p2 p3))])) _
    refine XS.iadd X14.here hx rfl (hb hby at_187) rfl ?_
    show Steps p.tables e below (T14.setTop (mkF m 188 #[.val (.int p0), .val (.int p1), .val (.int p2), .val (.int p3), .val (.int p4), .val (.int ((1 : Int32) + ((p0 &&& (2147483647 : Int32)) % (6 : Int32)))), .val (.int ((p1 &&& (2147483647 : Int32)) % (7 : Int32))), .val (.ref b1), .val (.int ((p2 &&& (2147483647 : Int32)) % (7 : Int32))), .val (.int ((p3 &&& (2147483647 : Int32)) % (7 : Int32))), .val (.int ((p4 &&& (2147483647 : Int32)) % (7 : Int32))), .val (.ref b9), .val (.int (f0_e12 p0 p1 p2 p3 p4)), .unset, .unset] [(.int ((f0_e13 p2 p3) + (7 : Int32)))])) _
    refine XS.bipush X14.here hx rfl (hb hby at_188) ?_
    show Steps p.tables e below (T14.setTop (mkF m 190 #[.val (.int p0), .val (.int p1), .val (.int p2), .val (.int p3), .val (.int p4), .val (.int ((1 : Int32) + ((p0 &&& (2147483647 : Int32)) % (6 : Int32)))), .val (.int ((p1 &&& (2147483647 : Int32)) % (7 : Int32))), .val (.ref b1), .val (.int ((p2 &&& (2147483647 : Int32)) % (7 : Int32))), .val (.int ((p3 &&& (2147483647 : Int32)) % (7 : Int32))), .val (.int ((p4 &&& (2147483647 : Int32)) % (7 : Int32))), .val (.ref b9), .val (.int (f0_e12 p0 p1 p2 p3 p4)), .unset, .unset] [(.int (7 : Int32)), (.int ((f0_e13 p2 p3) + (7 : Int32)))])) _
    refine iremM X14 hx rfl (hb hby at_190) rfl (by decide) ?_
    show Steps p.tables e below (T14.setTop (mkF m 191 #[.val (.int p0), .val (.int p1), .val (.int p2), .val (.int p3), .val (.int p4), .val (.int ((1 : Int32) + ((p0 &&& (2147483647 : Int32)) % (6 : Int32)))), .val (.int ((p1 &&& (2147483647 : Int32)) % (7 : Int32))), .val (.ref b1), .val (.int ((p2 &&& (2147483647 : Int32)) % (7 : Int32))), .val (.int ((p3 &&& (2147483647 : Int32)) % (7 : Int32))), .val (.int ((p4 &&& (2147483647 : Int32)) % (7 : Int32))), .val (.ref b9), .val (.int (f0_e12 p0 p1 p2 p3 p4)), .unset, .unset] [(.int (((f0_e13 p2 p3) + (7 : Int32)) % (7 : Int32)))])) _
    refine XS.istore X14.here hx rfl (hb hby at_191) rfl (l' := #[.val (.int p0), .val (.int p1), .val (.int p2), .val (.int p3), .val (.int p4), .val (.int ((1 : Int32) + ((p0 &&& (2147483647 : Int32)) % (6 : Int32)))), .val (.int ((p1 &&& (2147483647 : Int32)) % (7 : Int32))), .val (.ref b1), .val (.int ((p2 &&& (2147483647 : Int32)) % (7 : Int32))), .val (.int ((p3 &&& (2147483647 : Int32)) % (7 : Int32))), .val (.int ((p4 &&& (2147483647 : Int32)) % (7 : Int32))), .val (.ref b9), .val (.int (f0_e12 p0 p1 p2 p3 p4)), .val (.int (((f0_e13 p2 p3) + (7 : Int32)) % (7 : Int32))), .unset]) rfl ?_
    show Steps p.tables e below (T14.setTop (mkF m 193 #[.val (.int p0), .val (.int p1), .val (.int p2), .val (.int p3), .val (.int p4), .val (.int ((1 : Int32) + ((p0 &&& (2147483647 : Int32)) % (6 : Int32)))), .val (.int ((p1 &&& (2147483647 : Int32)) % (7 : Int32))), .val (.ref b1), .val (.int ((p2 &&& (2147483647 : Int32)) % (7 : Int32))), .val (.int ((p3 &&& (2147483647 : Int32)) % (7 : Int32))), .val (.int ((p4 &&& (2147483647 : Int32)) % (7 : Int32))), .val (.ref b9), .val (.int (f0_e12 p0 p1 p2 p3 p4)), .val (.int (((f0_e13 p2 p3) + (7 : Int32)) % (7 : Int32))), .unset] [])) _
    refine XS.iload X14.here hx rfl (hb hby at_193) rfl ?_
    show Steps p.tables e below (T14.setTop (mkF m 195 #[.val (.int p0), .val (.int p1), .val (.int p2), .val (.int p3), .val (.int p4), .val (.int ((1 : Int32) + ((p0 &&& (2147483647 : Int32)) % (6 : Int32)))), .val (.int ((p1 &&& (2147483647 : Int32)) % (7 : Int32))), .val (.ref b1), .val (.int ((p2 &&& (2147483647 : Int32)) % (7 : Int32))), .val (.int ((p3 &&& (2147483647 : Int32)) % (7 : Int32))), .val (.int ((p4 &&& (2147483647 : Int32)) % (7 : Int32))), .val (.ref b9), .val (.int (f0_e12 p0 p1 p2 p3 p4)), .val (.int (((f0_e13 p2 p3) + (7 : Int32)) % (7 : Int32))), .unset] [(.int ((p4 &&& (2147483647 : Int32)) % (7 : Int32)))])) _
    refine XS.iload X14.here hx rfl (hb hby at_195) rfl ?_
    show Steps p.tables e below (T14.setTop (mkF m 197 #[.val (.int p0), .val (.int p1), .val (.int p2), .val (.int p3), .val (.int p4), .val (.int ((1 : Int32) + ((p0 &&& (2147483647 : Int32)) % (6 : Int32)))), .val (.int ((p1 &&& (2147483647 : Int32)) % (7 : Int32))), .val (.ref b1), .val (.int ((p2 &&& (2147483647 : Int32)) % (7 : Int32))), .val (.int ((p3 &&& (2147483647 : Int32)) % (7 : Int32))), .val (.int ((p4 &&& (2147483647 : Int32)) % (7 : Int32))), .val (.ref b9), .val (.int (f0_e12 p0 p1 p2 p3 p4)), .val (.int (((f0_e13 p2 p3) + (7 : Int32)) % (7 : Int32))), .unset] [(.int ((p2 &&& (2147483647 : Int32)) % (7 : Int32))), (.int ((p4 &&& (2147483647 : Int32)) % (7 : Int32)))])) _
    refine XS.isub X14.here hx rfl (hb hby at_197) rfl ?_
    show Steps p.tables e below (T14.setTop (mkF m 198 #[.val (.int p0), .val (.int p1), .val (.int p2), .val (.int p3), .val (.int p4), .val (.int ((1 : Int32) + ((p0 &&& (2147483647 : Int32)) % (6 : Int32)))), .val (.int ((p1 &&& (2147483647 : Int32)) % (7 : Int32))), .val (.ref b1), .val (.int ((p2 &&& (2147483647 : Int32)) % (7 : Int32))), .val (.int ((p3 &&& (2147483647 : Int32)) % (7 : Int32))), .val (.int ((p4 &&& (2147483647 : Int32)) % (7 : Int32))), .val (.ref b9), .val (.int (f0_e12 p0 p1 p2 p3 p4)), .val (.int (((f0_e13 p2 p3) + (7 : Int32)) % (7 : Int32))), .unset] [(.int (f0_e14 p2 p4))])) _
    refine XS.bipush X14.here hx rfl (hb hby at_198) ?_
    show Steps p.tables e below (T14.setTop (mkF m 200 #[.val (.int p0), .val (.int p1), .val (.int p2), .val (.int p3), .val (.int p4), .val (.int ((1 : Int32) + ((p0 &&& (2147483647 : Int32)) % (6 : Int32)))), .val (.int ((p1 &&& (2147483647 : Int32)) % (7 : Int32))), .val (.ref b1), .val (.int ((p2 &&& (2147483647 : Int32)) % (7 : Int32))), .val (.int ((p3 &&& (2147483647 : Int32)) % (7 : Int32))), .val (.int ((p4 &&& (2147483647 : Int32)) % (7 : Int32))), .val (.ref b9), .val (.int (f0_e12 p0 p1 p2 p3 p4)), .val (.int (((f0_e13 p2 p3) + (7 : Int32)) % (7 : Int32))), .unset] [(.int (7 : Int32)), (.int (f0_e14 p2 p4))])) _
    refine XS.iadd X14.here hx rfl (hb hby at_200) rfl ?_
    show Steps p.tables e below (T14.setTop (mkF m 201 #[.val (.int p0), .val (.int p1), .val (.int p2), .val (.int p3), .val (.int p4), .val (.int ((1 : Int32) + ((p0 &&& (2147483647 : Int32)) % (6 : Int32)))), .val (.int ((p1 &&& (2147483647 : Int32)) % (7 : Int32))), .val (.ref b1), .val (.int ((p2 &&& (2147483647 : Int32)) % (7 : Int32))), .val (.int ((p3 &&& (2147483647 : Int32)) % (7 : Int32))), .val (.int ((p4 &&& (2147483647 : Int32)) % (7 : Int32))), .val (.ref b9), .val (.int (f0_e12 p0 p1 p2 p3 p4)), .val (.int (((f0_e13 p2 p3) + (7 : Int32)) % (7 : Int32))), .unset] [(.int ((f0_e14 p2 p4) + (7 : Int32)))])) _
    refine XS.bipush X14.here hx rfl (hb hby at_201) ?_
    show Steps p.tables e below (T14.setTop (mkF m 203 #[.val (.int p0), .val (.int p1), .val (.int p2), .val (.int p3), .val (.int p4), .val (.int ((1 : Int32) + ((p0 &&& (2147483647 : Int32)) % (6 : Int32)))), .val (.int ((p1 &&& (2147483647 : Int32)) % (7 : Int32))), .val (.ref b1), .val (.int ((p2 &&& (2147483647 : Int32)) % (7 : Int32))), .val (.int ((p3 &&& (2147483647 : Int32)) % (7 : Int32))), .val (.int ((p4 &&& (2147483647 : Int32)) % (7 : Int32))), .val (.ref b9), .val (.int (f0_e12 p0 p1 p2 p3 p4)), .val (.int (((f0_e13 p2 p3) + (7 : Int32)) % (7 : Int32))), .unset] [(.int (7 : Int32)), (.int ((f0_e14 p2 p4) + (7 : Int32)))])) _
    refine iremM X14 hx rfl (hb hby at_203) rfl (by decide) ?_
    show Steps p.tables e below (T14.setTop (mkF m 204 #[.val (.int p0), .val (.int p1), .val (.int p2), .val (.int p3), .val (.int p4), .val (.int ((1 : Int32) + ((p0 &&& (2147483647 : Int32)) % (6 : Int32)))), .val (.int ((p1 &&& (2147483647 : Int32)) % (7 : Int32))), .val (.ref b1), .val (.int ((p2 &&& (2147483647 : Int32)) % (7 : Int32))), .val (.int ((p3 &&& (2147483647 : Int32)) % (7 : Int32))), .val (.int ((p4 &&& (2147483647 : Int32)) % (7 : Int32))), .val (.ref b9), .val (.int (f0_e12 p0 p1 p2 p3 p4)), .val (.int (((f0_e13 p2 p3) + (7 : Int32)) % (7 : Int32))), .unset] [(.int (((f0_e14 p2 p4) + (7 : Int32)) % (7 : Int32)))])) _
    refine XS.istore X14.here hx rfl (hb hby at_204) rfl (l' := #[.val (.int p0), .val (.int p1), .val (.int p2), .val (.int p3), .val (.int p4), .val (.int ((1 : Int32) + ((p0 &&& (2147483647 : Int32)) % (6 : Int32)))), .val (.int ((p1 &&& (2147483647 : Int32)) % (7 : Int32))), .val (.ref b1), .val (.int ((p2 &&& (2147483647 : Int32)) % (7 : Int32))), .val (.int ((p3 &&& (2147483647 : Int32)) % (7 : Int32))), .val (.int ((p4 &&& (2147483647 : Int32)) % (7 : Int32))), .val (.ref b9), .val (.int (f0_e12 p0 p1 p2 p3 p4)), .val (.int (((f0_e13 p2 p3) + (7 : Int32)) % (7 : Int32))), .val (.int (((f0_e14 p2 p4) + (7 : Int32)) % (7 : Int32)))]) rfl ?_
    show Steps p.tables e below (T14.setTop (mkF m 206 #[.val (.int p0), .val (.int p1), .val (.int p2), .val (.int p3), .val (.int p4), .val (.int ((1 : Int32) + ((p0 &&& (2147483647 : Int32)) % (6 : Int32)))), .val (.int ((p1 &&& (2147483647 : Int32)) % (7 : Int32))), .val (.ref b1), .val (.int ((p2 &&& (2147483647 : Int32)) % (7 : Int32))), .val (.int ((p3 &&& (2147483647 : Int32)) % (7 : Int32))), .val (.int ((p4 &&& (2147483647 : Int32)) % (7 : Int32))), .val (.ref b9), .val (.int (f0_e12 p0 p1 p2 p3 p4)), .val (.int (((f0_e13 p2 p3) + (7 : Int32)) % (7 : Int32))), .val (.int (((f0_e14 p2 p4) + (7 : Int32)) % (7 : Int32)))] [])) _
    refine XS.iload X14.here hx rfl (hb hby at_206) rfl ?_
    show Steps p.tables e below (T14.setTop (mkF m 208 #[.val (.int p0), .val (.int p1), .val (.int p2), .val (.int p3), .val (.int p4), .val (.int ((1 : Int32) + ((p0 &&& (2147483647 : Int32)) % (6 : Int32)))), .val (.int ((p1 &&& (2147483647 : Int32)) % (7 : Int32))), .val (.ref b1), .val (.int ((p2 &&& (2147483647 : Int32)) % (7 : Int32))), .val (.int ((p3 &&& (2147483647 : Int32)) % (7 : Int32))), .val (.int ((p4 &&& (2147483647 : Int32)) % (7 : Int32))), .val (.ref b9), .val (.int (f0_e12 p0 p1 p2 p3 p4)), .val (.int (((f0_e13 p2 p3) + (7 : Int32)) % (7 : Int32))), .val (.int (((f0_e14 p2 p4) + (7 : Int32)) % (7 : Int32)))] [(.int (f0_e12 p0 p1 p2 p3 p4))])) _
    refine XS.iload X14.here hx rfl (hb hby at_208) rfl ?_
    show Steps p.tables e below (T14.setTop (mkF m 210 #[.val (.int p0), .val (.int p1), .val (.int p2), .val (.int p3), .val (.int p4), .val (.int ((1 : Int32) + ((p0 &&& (2147483647 : Int32)) % (6 : Int32)))), .val (.int ((p1 &&& (2147483647 : Int32)) % (7 : Int32))), .val (.ref b1), .val (.int ((p2 &&& (2147483647 : Int32)) % (7 : Int32))), .val (.int ((p3 &&& (2147483647 : Int32)) % (7 : Int32))), .val (.int ((p4 &&& (2147483647 : Int32)) % (7 : Int32))), .val (.ref b9), .val (.int (f0_e12 p0 p1 p2 p3 p4)), .val (.int (((f0_e13 p2 p3) + (7 : Int32)) % (7 : Int32))), .val (.int (((f0_e14 p2 p4) + (7 : Int32)) % (7 : Int32)))] [(.int (((f0_e13 p2 p3) + (7 : Int32)) % (7 : Int32))), (.int (f0_e12 p0 p1 p2 p3 p4))])) _
    refine XS.iload X14.here hx rfl (hb hby at_210) rfl ?_
    exact kt)
  have pre17 : ∀ t, Steps p.tables e below (T14.setTop (mkF m 220 #[.val (.int p0), .val (.int p1), .val (.int p2), .val (.int p3), .val (.int p4), .val (.int ((1 : Int32) + ((p0 &&& (2147483647 : Int32)) % (6 : Int32)))), .val (.int ((p1 &&& (2147483647 : Int32)) % (7 : Int32))), .val (.ref b1), .val (.int ((p2 &&& (2147483647 : Int32)) % (7 : Int32))), .val (.int ((p3 &&& (2147483647 : Int32)) % (7 : Int32))), .val (.int ((p4 &&& (2147483647 : Int32)) % (7 : Int32))), .val (.ref b9), .val (.int (f0_e12 p0 p1 p2 p3 p4)), .val (.int (((f0_e13 p2 p3) + (7 : Int32)) % (7 : Int32))), .val (.int (((f0_e14 p2 p4) + (7 : Int32)) % (7 : Int32)))] [(.int (f0_s0_220001 p2 p3 p4)), (.int (f0_e12 p0 p1 p2 p3 p4))])) t → Steps p.tables e below (s₁.setTop (entryFrame m #[(.int p0), (.int p1), (.int p2), (.int p3), (.int p4)] maxLocals)) t := by
    intro t kt
    by_cases hc16 : (((f0_e14 p2 p4) + (7 : Int32)) % (7 : Int32)) < (((f0_e13 p2 p3) + (7 : Int32)) % (7 : Int32))
    · have hj : (f0_s0_220001 p2 p3 p4) = (0 : Int32) := by unfold f0_s0_220001; rw [if_pos hc16]
      rw [hj] at kt
      refine pre15 t ?_
      show Steps p.tables e below (T14.setTop (mkF m 212 #[.val (.int p0), .val (.int p1), .val (.int p2), .val (.int p3), .val (.int p4), .val (.int ((1 : Int32) + ((p0 &&& (2147483647 : Int32)) % (6 : Int32)))), .val (.int ((p1 &&& (2147483647 : Int32)) % (7 : Int32))), .val (.ref b1), .val (.int ((p2 &&& (2147483647 : Int32)) % (7 : Int32))), .val (.int ((p3 &&& (2147483647 : Int32)) % (7 : Int32))), .val (.int ((p4 &&& (2147483647 : Int32)) % (7 : Int32))), .val (.ref b9), .val (.int (f0_e12 p0 p1 p2 p3 p4)), .val (.int (((f0_e13 p2 p3) + (7 : Int32)) % (7 : Int32))), .val (.int (((f0_e14 p2 p4) + (7 : Int32)) % (7 : Int32)))] [(.int (((f0_e14 p2 p4) + (7 : Int32)) % (7 : Int32))), (.int (((f0_e13 p2 p3) + (7 : Int32)) % (7 : Int32))), (.int (f0_e12 p0 p1 p2 p3 p4))])) _
      refine XS.icmpYes X14.here hx rfl (pc0 := 212) (pc' := 219) rfl (hb hby at_212) rfl (tlt hc16).2.2.1 (by decide) (by decide) ?_
      show Steps p.tables e below (T14.setTop (mkF m 219 #[.val (.int p0), .val (.int p1), .val (.int p2), .val (.int p3), .val (.int p4), .val (.int ((1 : Int32) + ((p0 &&& (2147483647 : Int32)) % (6 : Int32)))), .val (.int ((p1 &&& (2147483647 : Int32)) % (7 : Int32))), .val (.ref b1), .val (.int ((p2 &&& (2147483647 : Int32)) % (7 : Int32))), .val (.int ((p3 &&& (2147483647 : Int32)) % (7 : Int32))), .val (.int ((p4 &&& (2147483647 : Int32)) % (7 : Int32))), .val (.ref b9), .val (.int (f0_e12 p0 p1 p2 p3 p4)), .val (.int (((f0_e13 p2 p3) + (7 : Int32)) % (7 : Int32))), .val (.int (((f0_e14 p2 p4) + (7 : Int32)) % (7 : Int32)))] [(.int (f0_e12 p0 p1 p2 p3 p4))])) _
      refine XS.iconst X14.here hx rfl (hb hby at_219) ?_
      exact kt
    · have hj : (f0_s0_220001 p2 p3 p4) = (1 : Int32) := by unfold f0_s0_220001; rw [if_neg hc16]
      rw [hj] at kt
      refine pre15 t ?_
      show Steps p.tables e below (T14.setTop (mkF m 212 #[.val (.int p0), .val (.int p1), .val (.int p2), .val (.int p3), .val (.int p4), .val (.int ((1 : Int32) + ((p0 &&& (2147483647 : Int32)) % (6 : Int32)))), .val (.int ((p1 &&& (2147483647 : Int32)) % (7 : Int32))), .val (.ref b1), .val (.int ((p2 &&& (2147483647 : Int32)) % (7 : Int32))), .val (.int ((p3 &&& (2147483647 : Int32)) % (7 : Int32))), .val (.int ((p4 &&& (2147483647 : Int32)) % (7 : Int32))), .val (.ref b9), .val (.int (f0_e12 p0 p1 p2 p3 p4)), .val (.int (((f0_e13 p2 p3) + (7 : Int32)) % (7 : Int32))), .val (.int (((f0_e14 p2 p4) + (7 : Int32)) % (7 : Int32)))] [(.int (((f0_e14 p2 p4) + (7 : Int32)) % (7 : Int32))), (.int (((f0_e13 p2 p3) + (7 : Int32)) % (7 : Int32))), (.int (f0_e12 p0 p1 p2 p3 p4))])) _
      refine XS.icmpNo X14.here hx rfl (hb hby at_212) rfl (flt hc16).2.2.1 ?_
      show Steps p.tables e below (T14.setTop (mkF m 215 #[.val (.int p0), .val (.int p1), .val (.int p2), .val (.int p3), .val (.int p4), .val (.int ((1 : Int32) + ((p0 &&& (2147483647 : Int32)) % (6 : Int32)))), .val (.int ((p1 &&& (2147483647 : Int32)) % (7 : Int32))), .val (.ref b1), .val (.int ((p2 &&& (2147483647 : Int32)) % (7 : Int32))), .val (.int ((p3 &&& (2147483647 : Int32)) % (7 : Int32))), .val (.int ((p4 &&& (2147483647 : Int32)) % (7 : Int32))), .val (.ref b9), .val (.int (f0_e12 p0 p1 p2 p3 p4)), .val (.int (((f0_e13 p2 p3) + (7 : Int32)) % (7 : Int32))), .val (.int (((f0_e14 p2 p4) + (7 : Int32)) % (7 : Int32)))] [(.int (f0_e12 p0 p1 p2 p3 p4))])) _
      refine XS.iconst X14.here hx rfl (hb hby at_215) ?_
      show Steps p.tables e below (T14.setTop (mkF m 216 #[.val (.int p0), .val (.int p1), .val (.int p2), .val (.int p3), .val (.int p4), .val (.int ((1 : Int32) + ((p0 &&& (2147483647 : Int32)) % (6 : Int32)))), .val (.int ((p1 &&& (2147483647 : Int32)) % (7 : Int32))), .val (.ref b1), .val (.int ((p2 &&& (2147483647 : Int32)) % (7 : Int32))), .val (.int ((p3 &&& (2147483647 : Int32)) % (7 : Int32))), .val (.int ((p4 &&& (2147483647 : Int32)) % (7 : Int32))), .val (.ref b9), .val (.int (f0_e12 p0 p1 p2 p3 p4)), .val (.int (((f0_e13 p2 p3) + (7 : Int32)) % (7 : Int32))), .val (.int (((f0_e14 p2 p4) + (7 : Int32)) % (7 : Int32)))] [(.int (1 : Int32)), (.int (f0_e12 p0 p1 p2 p3 p4))])) _
      refine XS.goto X14.here hx rfl (pc0 := 216) (pc' := 220) rfl (hb hby at_216) (by decide) (by decide) ?_
      exact kt
  by_cases hc18 : (f0_e12 p0 p1 p2 p3 p4) = (f0_s0_220001 p2 p3 p4)
  · obtain ⟨fs, hr, hrun, hended, hW, hsame⟩ := X14.leave (v := some (.int (1 : Int32))) (fun h => by rw [Bd.returns] at h; cases h)
    refine ⟨_, _, pre17 _ ?_, hrun, hended, _, _, rfl, ?_, ⟨_, rfl⟩, hW, hsame.mono (by decide) (by decide)⟩
    · show Steps p.tables e below (T14.setTop (mkF m 220 #[.val (.int p0), .val (.int p1), .val (.int p2), .val (.int p3), .val (.int p4), .val (.int ((1 : Int32) + ((p0 &&& (2147483647 : Int32)) % (6 : Int32)))), .val (.int ((p1 &&& (2147483647 : Int32)) % (7 : Int32))), .val (.ref b1), .val (.int ((p2 &&& (2147483647 : Int32)) % (7 : Int32))), .val (.int ((p3 &&& (2147483647 : Int32)) % (7 : Int32))), .val (.int ((p4 &&& (2147483647 : Int32)) % (7 : Int32))), .val (.ref b9), .val (.int (f0_e12 p0 p1 p2 p3 p4)), .val (.int (((f0_e13 p2 p3) + (7 : Int32)) % (7 : Int32))), .val (.int (((f0_e14 p2 p4) + (7 : Int32)) % (7 : Int32)))] [(.int (f0_s0_220001 p2 p3 p4)), (.int (f0_e12 p0 p1 p2 p3 p4))])) _
      refine XS.icmpNo X14.here hx rfl (hb hby at_220) rfl (teq hc18).2 ?_
      show Steps p.tables e below (T14.setTop (mkF m 223 #[.val (.int p0), .val (.int p1), .val (.int p2), .val (.int p3), .val (.int p4), .val (.int ((1 : Int32) + ((p0 &&& (2147483647 : Int32)) % (6 : Int32)))), .val (.int ((p1 &&& (2147483647 : Int32)) % (7 : Int32))), .val (.ref b1), .val (.int ((p2 &&& (2147483647 : Int32)) % (7 : Int32))), .val (.int ((p3 &&& (2147483647 : Int32)) % (7 : Int32))), .val (.int ((p4 &&& (2147483647 : Int32)) % (7 : Int32))), .val (.ref b9), .val (.int (f0_e12 p0 p1 p2 p3 p4)), .val (.int (((f0_e13 p2 p3) + (7 : Int32)) % (7 : Int32))), .val (.int (((f0_e14 p2 p4) + (7 : Int32)) % (7 : Int32)))] [])) _
      refine XS.iconst X14.here hx rfl (hb hby at_223) ?_
      show Steps p.tables e below (T14.setTop (mkF m 224 #[.val (.int p0), .val (.int p1), .val (.int p2), .val (.int p3), .val (.int p4), .val (.int ((1 : Int32) + ((p0 &&& (2147483647 : Int32)) % (6 : Int32)))), .val (.int ((p1 &&& (2147483647 : Int32)) % (7 : Int32))), .val (.ref b1), .val (.int ((p2 &&& (2147483647 : Int32)) % (7 : Int32))), .val (.int ((p3 &&& (2147483647 : Int32)) % (7 : Int32))), .val (.int ((p4 &&& (2147483647 : Int32)) % (7 : Int32))), .val (.ref b9), .val (.int (f0_e12 p0 p1 p2 p3 p4)), .val (.int (((f0_e13 p2 p3) + (7 : Int32)) % (7 : Int32))), .val (.int (((f0_e14 p2 p4) + (7 : Int32)) % (7 : Int32)))] [(.int (1 : Int32))])) _
      refine XS.goto X14.here hx rfl (pc0 := 224) (pc' := 228) rfl (hb hby at_224) (by decide) (by decide) ?_
      show Steps p.tables e below (T14.setTop (mkF m 228 #[.val (.int p0), .val (.int p1), .val (.int p2), .val (.int p3), .val (.int p4), .val (.int ((1 : Int32) + ((p0 &&& (2147483647 : Int32)) % (6 : Int32)))), .val (.int ((p1 &&& (2147483647 : Int32)) % (7 : Int32))), .val (.ref b1), .val (.int ((p2 &&& (2147483647 : Int32)) % (7 : Int32))), .val (.int ((p3 &&& (2147483647 : Int32)) % (7 : Int32))), .val (.int ((p4 &&& (2147483647 : Int32)) % (7 : Int32))), .val (.ref b9), .val (.int (f0_e12 p0 p1 p2 p3 p4)), .val (.int (((f0_e13 p2 p3) + (7 : Int32)) % (7 : Int32))), .val (.int (((f0_e14 p2 p4) + (7 : Int32)) % (7 : Int32)))] [(.int (1 : Int32))])) _
      exact retN X14 hx (t := .boolean) Bd.returns (by simp) (hb hby at_228) hr
    · show Q0 Z p0 p1 p2 p3 p4 h0 n0 _ T14.heap _
      rw [e14]
      exact ⟨by rw [show f0 p0 p1 p2 p3 p4 = (1 : Int32) from by unfold f0; rw [if_pos hc18]], N14⟩
  · obtain ⟨fs, hr, hrun, hended, hW, hsame⟩ := X14.leave (v := some (.int (0 : Int32))) (fun h => by rw [Bd.returns] at h; cases h)
    refine ⟨_, _, pre17 _ ?_, hrun, hended, _, _, rfl, ?_, ⟨_, rfl⟩, hW, hsame.mono (by decide) (by decide)⟩
    · show Steps p.tables e below (T14.setTop (mkF m 220 #[.val (.int p0), .val (.int p1), .val (.int p2), .val (.int p3), .val (.int p4), .val (.int ((1 : Int32) + ((p0 &&& (2147483647 : Int32)) % (6 : Int32)))), .val (.int ((p1 &&& (2147483647 : Int32)) % (7 : Int32))), .val (.ref b1), .val (.int ((p2 &&& (2147483647 : Int32)) % (7 : Int32))), .val (.int ((p3 &&& (2147483647 : Int32)) % (7 : Int32))), .val (.int ((p4 &&& (2147483647 : Int32)) % (7 : Int32))), .val (.ref b9), .val (.int (f0_e12 p0 p1 p2 p3 p4)), .val (.int (((f0_e13 p2 p3) + (7 : Int32)) % (7 : Int32))), .val (.int (((f0_e14 p2 p4) + (7 : Int32)) % (7 : Int32)))] [(.int (f0_s0_220001 p2 p3 p4)), (.int (f0_e12 p0 p1 p2 p3 p4))])) _
      refine XS.icmpYes X14.here hx rfl (pc0 := 220) (pc' := 227) rfl (hb hby at_220) rfl (feq hc18).2 (by decide) (by decide) ?_
      show Steps p.tables e below (T14.setTop (mkF m 227 #[.val (.int p0), .val (.int p1), .val (.int p2), .val (.int p3), .val (.int p4), .val (.int ((1 : Int32) + ((p0 &&& (2147483647 : Int32)) % (6 : Int32)))), .val (.int ((p1 &&& (2147483647 : Int32)) % (7 : Int32))), .val (.ref b1), .val (.int ((p2 &&& (2147483647 : Int32)) % (7 : Int32))), .val (.int ((p3 &&& (2147483647 : Int32)) % (7 : Int32))), .val (.int ((p4 &&& (2147483647 : Int32)) % (7 : Int32))), .val (.ref b9), .val (.int (f0_e12 p0 p1 p2 p3 p4)), .val (.int (((f0_e13 p2 p3) + (7 : Int32)) % (7 : Int32))), .val (.int (((f0_e14 p2 p4) + (7 : Int32)) % (7 : Int32)))] [])) _
      refine XS.iconst X14.here hx rfl (hb hby at_227) ?_
      show Steps p.tables e below (T14.setTop (mkF m 228 #[.val (.int p0), .val (.int p1), .val (.int p2), .val (.int p3), .val (.int p4), .val (.int ((1 : Int32) + ((p0 &&& (2147483647 : Int32)) % (6 : Int32)))), .val (.int ((p1 &&& (2147483647 : Int32)) % (7 : Int32))), .val (.ref b1), .val (.int ((p2 &&& (2147483647 : Int32)) % (7 : Int32))), .val (.int ((p3 &&& (2147483647 : Int32)) % (7 : Int32))), .val (.int ((p4 &&& (2147483647 : Int32)) % (7 : Int32))), .val (.ref b9), .val (.int (f0_e12 p0 p1 p2 p3 p4)), .val (.int (((f0_e13 p2 p3) + (7 : Int32)) % (7 : Int32))), .val (.int (((f0_e14 p2 p4) + (7 : Int32)) % (7 : Int32)))] [(.int (0 : Int32))])) _
      exact retN X14 hx (t := .boolean) Bd.returns (by simp) (hb hby at_228) hr
    · show Q0 Z p0 p1 p2 p3 p4 h0 n0 _ T14.heap _
      rw [e14]
      exact ⟨by rw [show f0 p0 p1 p2 p3 p4 = (0 : Int32) from by unfold f0; rw [if_neg hc18]], N14⟩
theorem own_inv : ∀ m : Fin 7, m.val ≠ 0 → ∀ k : Fin 7, ∀ j : Fin 7, own_plm (Int32.ofInt ((m.val : Nat) : Int)) (Int32.ofInt ((k.val : Nat) : Int)) (own_cm (Int32.ofInt ((m.val : Nat) : Int)) (Int32.ofInt ((k.val : Nat) : Int)) (Int32.ofInt ((j.val : Nat) : Int))) = Int32.ofInt ((j.val : Nat) : Int) := by decide +kernel
theorem own_at (p0 p1 p : Int32) : own_pl p0 p1 (own_c p0 p1 ((p &&& (2147483647 : Int32)) % (7 : Int32))) = ((p &&& (2147483647 : Int32)) % (7 : Int32)) := by
  obtain ⟨a, ha, hn⟩ := own_mf p0
  obtain ⟨b, hb⟩ := own_kf p1
  obtain ⟨j, hj⟩ := own_of (own_p1 p) (own_p2 p)
  unfold own_pl own_c
  rw [ha, hb, hj]
  exact own_inv a hn b j
def own_lhs (a b c : Int32) : Int32 := (if c < a then (if b < a then (if c < b then (0 : Int32) else (1 : Int32)) else (1 : Int32)) else (if b < a then (0 : Int32) else (if c < b then (0 : Int32) else (1 : Int32))))
def own_rhs (a b c : Int32) : Int32 := (if ((c - a) + 7) % 7 < ((b - a) + 7) % 7 then (0 : Int32) else (1 : Int32))
theorem own_eq : ∀ a : Fin 7, ∀ b : Fin 7, ∀ c : Fin 7, own_lhs (Int32.ofInt ((a.val : Nat) : Int)) (Int32.ofInt ((b.val : Nat) : Int)) (Int32.ofInt ((c.val : Nat) : Int)) = own_rhs (Int32.ofInt ((a.val : Nat) : Int)) (Int32.ofInt ((b.val : Nat) : Int)) (Int32.ofInt ((c.val : Nat) : Int)) := by decide +kernel
theorem own_law (p0 p1 p2 p3 p4 : Int32) : f0 p0 p1 p2 p3 p4 = 1 := by
  unfold f0
  rw [if_pos]
  unfold f0_e12 f3
  rw [own_at, own_at, own_at]
  show own_lhs ((p2 &&& 2147483647) % 7) ((p3 &&& 2147483647) % 7) ((p4 &&& 2147483647) % 7) = own_rhs ((p2 &&& 2147483647) % 7) ((p3 &&& 2147483647) % 7) ((p4 &&& 2147483647) % 7)
  obtain ⟨a, ha⟩ := own_of (own_p1 p2) (own_p2 p2)
  obtain ⟨b, hb⟩ := own_of (own_p1 p3) (own_p2 p3)
  obtain ⟨c, hc⟩ := own_of (own_p1 p4) (own_p2 p4)
  rw [ha, hb, hc]
  exact own_eq a b c
set_option maxRecDepth 65536 in
set_option maxHeartbeats 40000000 in
theorem comes_1 {Post : Tables → Env → Array Value → State → Outcome → State → Prop} (hpost : ∀ tb e args s v u, (limb_1_1.after args s (.returned v) u = true ∧ limb_1_2.after args s (.returned v) u = true ∧ True) → FrameEnd s (.returned v) u (Jvm.fieldLocs frame_1_writes args s ++ Jvm.arrayLocs frame_1_arrays args s ++ Jvm.staticLocs frame_1_statics s) 24 256 → Post tb e args s (.returned v) u) :
    ArmFor flags0 classFile x code maxLocals ret World_1 tables_1 room_1 Calls_1 rest_1 Pre_1 Post := by
  intro l hfl _ _ p e ha hc hk s m args below hf hA hF happ hP
  obtain ⟨hcalls, hrest, hpre⟩ := hP
  obtain ⟨-, -, -, hnamed, -, -, -, hat⟩ := (Spec.applies_iff hf).mp happ
  obtain ⟨hg, hn⟩ := and_e (Cond.before_iff.mp (show (Jvm.Cond.and given_1 narrow_1).before args s = true from hpre))
  obtain ⟨g1, g2⟩ := and_e hg
  obtain ⟨g3, g4⟩ := and_e g2
  obtain ⟨g5, g6⟩ := and_e g4
  obtain ⟨g7, g8⟩ := and_e g6
  obtain ⟨g9, g10⟩ := and_e g8
  obtain ⟨w0, w1, w2, w3, w4, rfl⟩ : ∃ w0 w1 w2 w3 w4 : Value, args = #[w0, w1, w2, w3, w4] := by
    have hs : args.size = 5 := by simpa [Cond.value, given_1] using g1
    obtain ⟨L⟩ := args
    match L, hs with
    | [w0, w1, w2, w3, w4], _ => exact ⟨w0, w1, w2, w3, w4, rfl⟩
  have hw := fun d (hd : d ∈ tables_1) => atoms_spec (ws := Jvm.Cond.code x code maxLocals ret :: tables_1) hat d (List.mem_cons_of_mem _ hd)
  have hfit : Fit s := fun {y c} hc i hi => by
    obtain ⟨ha, rfl⟩ := Array.getElem?_eq_some_iff.mp hc
    have q := List.all_eq_true.mp ((Array.all_eq_true_iff_forall_mem.mp hF) _ (Array.getElem_mem ha)) i (List.mem_range.mpr hi)
    simpa [Array.getElem?_eq_getElem hi] using q
  obtain ⟨i0, ei0⟩ := is_v g3
  obtain rfl : w0 = (.int i0) := Option.some.inj ei0
  obtain ⟨i1, ei1⟩ := is_v g5
  obtain rfl : w1 = (.int i1) := Option.some.inj ei1
  obtain ⟨i2, ei2⟩ := is_v g7
  obtain rfl : w2 = (.int i2) := Option.some.inj ei2
  obtain ⟨i3, ei3⟩ := is_v g9
  obtain rfl : w3 = (.int i3) := Option.some.inj ei3
  obtain ⟨i4, ei4⟩ := is_v g10
  obtain rfl : w4 = (.int i4) := Option.some.inj ei4
  obtain ⟨n, o, h1, h2, h3, _, L, rfl, ⟨rfl, N⟩, hq⟩ := rm0 l s _ hw tables_1 i0 i1 i2 i3 i4 s.heap s.heap.size (Nat.le_refl _) p e ha hc hk s m _ below hf ((Spec.applies_iff_loose hf).mp happ).1 ⟨rfl, State.Warmed39.refl s, rfl⟩ trivial
  refine ⟨n, _, h1, h2, h3, hpost _ _ _ _ _ _ ⟨Cond.after_iff.mpr rfl, Cond.after_iff.mpr (eq_i res_at (Term.int_eval (1)) (by rw [own_law i0 i1 i2 i3 i4])), trivial⟩ ⟨hq.1, hq.2.1, (hq.2.2.sift fun y hy => Or.inr (N y hy)).mono (by decide) (by decide)⟩⟩
theorem main_1_1 : Claimed_1_1 := comes_1 fun _ _ _ _ _ _ h hF => ⟨h.1, hF⟩
theorem main_1_2 : Claimed_1_2 := comes_1 fun _ _ _ _ _ _ h hF => ⟨h.2.1, hF⟩
end Jvm.Pilot.@@N@@
namespace Jvm.Pilot.@@N@@
open Jvm Jvm.ClassFile Sem Op Lib Jvm.Free Jvm.Stand Jvm.Pilot.@@N@@.Jvm.D
/-! MADE BY PROGRAM (witnessworld.py) out of the Statement's table words and the real class files: 9 classes; the members and pool entries that the words name. The judged class is class 1, her method 1. -/
namespace start1
open Jvm.ClassFile
def u (s : String) : CpInfo := .utf8 (stringToUtf16 s)
/-- a pool by its gaps: so many unusable entries, then the entry; so many at the end -/
def gap : Nat → List CpInfo → List CpInfo
  | 0, r => r
  | n + 1, r => .unusable :: gap n r
def poolList (es : List (Nat × CpInfo)) (last : Nat) : List CpInfo := es.foldr (fun e r => gap e.1 (e.2 :: r)) (gap last [])
def pool (es : List (Nat × CpInfo)) (last : Nat) : Array CpInfo := ⟨poolList es last⟩
def fileOf (pool : Array CpInfo) (this : Nat) (attrs : Array Attribute := #[]) (ms : Array MethodInfo := #[]) (fl : Nat := 33) (sup : Nat := 0) (ifs : Array Nat := #[]) (fds : Array FieldInfo := #[]) : ClassFile where
  minorVersion := 0
  majorVersion := 65
  constantPool := pool
  accessFlags := fl
  thisClass := this
  superClass := sup
  interfaces := ifs
  fields := fds
  methods := ms
  attributes := attrs
def plain (name : String) (sup : Option ClassId) : Class where
  name := name
  kind := .ordinary
  loader := none
  accessFlags := 33
  super := sup
  interfaces := #[]
  cf := none
  fields := #[]
  methods := #[]
  instanceTypes := #[]
  staticTypes := #[]
  resolved := #[]
  callSites := []
  init := .initialized
  statics := none
  mirror := none

def pool0 : Array CpInfo := pool [(5, u "<init>"), (0, u "()V"), (1, .class_ 10), (1, u "java/lang/Object"), (85, u "clone"), (0, u "()Ljava/lang/Object;")] 26

def k0c0 : Code := { maxStack := 0, maxLocals := 1, code := object_method_1_code, exceptionTable := #[], attributes := #[] }
def k0m0 : Method := { name := "<init>", desc := "()V", sig := { parameters := [], returnType := none }, accessFlags := 1, code := some k0c0 }
def k0m1 : Method := { name := "clone", desc := "()Ljava/lang/Object;", sig := { parameters := [], returnType := some (.object "java/lang/Object") }, accessFlags := 260, code := none }
/-- java/lang/Object -/
def k0 : Class := { plain "java/lang/Object" none with
  accessFlags := 33
  interfaces := #[]
  cf := some (fileOf pool0 8 #[] #[{ accessFlags := 1, nameIndex := 5, descriptorIndex := 6, attributes := #[] }, { accessFlags := 260, nameIndex := 96, descriptorIndex := 97, attributes := #[] }] 33 0 #[] #[])
  fields := #[]
  methods := #[k0m0, k0m1]
  instanceTypes := #[]
  staticTypes := #[]
  resolved := Array.replicate 124 none
  statics := none }

def pool1 : Array CpInfo := pool [(2, .class_ 4), (1, u "java/lang/Object"), (0, u "<init>"), (0, u "()V"), (0, .integer 2147483647), (0, .class_ 9), (0, u "com/example/itinerant/itinerant/ArrayTour"), (0, .methodref 8 11), (0, .nameAndType 5 12), (0, u "([I)V"), (0, .methodref 8 14), (0, .nameAndType 15 16), (0, u "between"), (0, u "(III)Z"), (0, .class_ 18), (0, u "com/example/itinerant/itinerant/ArrayTourBetweenPinLaw"), (2, u "law"), (0, u "(IIIII)Z")] 5

def k1m0 : Method := { name := "<init>", desc := "()V", sig := { parameters := [], returnType := none }, accessFlags := 1, code := none }
def k1c1 : Code := { maxStack := 5, maxLocals := 15, code := code, exceptionTable := #[], attributes := #[] }
def k1m1 : Method := { name := "law", desc := "(IIIII)Z", sig := { parameters := [.int, .int, .int, .int, .int], returnType := some .boolean }, accessFlags := 9, code := some k1c1 }
/-- com/example/itinerant/itinerant/ArrayTourBetweenPinLaw -/
def k1 : Class := { plain "com/example/itinerant/itinerant/ArrayTourBetweenPinLaw" (some 0) with
  accessFlags := 49
  interfaces := #[]
  cf := some (fileOf pool1 17 #[] #[{ accessFlags := 1, nameIndex := 5, descriptorIndex := 6, attributes := #[] }, { accessFlags := 9, nameIndex := 21, descriptorIndex := 22, attributes := #[] }] 49 2 #[] #[])
  fields := #[]
  methods := #[k1m0, k1m1]
  instanceTypes := #[]
  staticTypes := #[]
  resolved := Array.replicate 28 none
  statics := none }

def pool2 : Array CpInfo := pool [(1, .methodref 2 3), (0, .class_ 4), (0, .nameAndType 5 6), (0, u "java/lang/Object"), (0, u "<init>"), (0, u "()V"), (0, .fieldref 8 9), (0, .class_ 10), (0, .nameAndType 11 12), (0, u "com/example/itinerant/itinerant/ArrayTour"), (0, u "journal"), (0, u "[I"), (0, .fieldref 8 14), (0, .nameAndType 15 16), (0, u "size"), (0, u "I"), (0, .methodref 18 19), (0, .class_ 12), (0, .nameAndType 20 21), (0, u "clone"), (0, u "()Ljava/lang/Object;"), (0, .fieldref 8 23), (0, .nameAndType 24 12), (0, u "cities"), (0, .fieldref 8 26), (0, .nameAndType 27 12), (0, u "places"), (22, u "between"), (0, u "(III)Z"), (16, u "journalLength"), (23, u "([I)V")] 37

def k2c0 : Code := { maxStack := 3, maxLocals := 3, code := prog_1_method_1_code, exceptionTable := #[], attributes := #[] }
def k2m0 : Method := { name := "<init>", desc := "([I)V", sig := { parameters := [(.array .int)], returnType := none }, accessFlags := 0, code := some k2c0 }
def k2c1 : Code := { maxStack := 2, maxLocals := 7, code := prog_1_method_6_code, exceptionTable := #[], attributes := #[] }
def k2m1 : Method := { name := "between", desc := "(III)Z", sig := { parameters := [.int, .int, .int], returnType := some .boolean }, accessFlags := 0, code := some k2c1 }
/-- com/example/itinerant/itinerant/ArrayTour -/
def k2 : Class := { plain "com/example/itinerant/itinerant/ArrayTour" (some 0) with
  accessFlags := 48
  interfaces := #[]
  cf := some (fileOf pool2 8 #[] #[{ accessFlags := 0, nameIndex := 5, descriptorIndex := 92, attributes := #[] }, { accessFlags := 0, nameIndex := 50, descriptorIndex := 51, attributes := #[] }] 48 2 #[] #[{ accessFlags := 18, nameIndex := 15, descriptorIndex := 16, attributes := #[] }, { accessFlags := 18, nameIndex := 24, descriptorIndex := 12, attributes := #[] }, { accessFlags := 18, nameIndex := 27, descriptorIndex := 12, attributes := #[] }, { accessFlags := 2, nameIndex := 11, descriptorIndex := 12, attributes := #[] }, { accessFlags := 2, nameIndex := 68, descriptorIndex := 16, attributes := #[] }])
  fields := #[{ name := "size", type := .int, accessFlags := 18, slot := 0, constantValue := 0 }, { name := "cities", type := (.array .int), accessFlags := 18, slot := 1, constantValue := 0 }, { name := "places", type := (.array .int), accessFlags := 18, slot := 2, constantValue := 0 }, { name := "journal", type := (.array .int), accessFlags := 2, slot := 3, constantValue := 0 }, { name := "journalLength", type := .int, accessFlags := 2, slot := 4, constantValue := 0 }]
  methods := #[k2m0, k2m1]
  instanceTypes := #[.int, (.array .int), (.array .int), (.array .int), .int]
  staticTypes := #[]
  resolved := Array.replicate 130 none
  statics := none }

def pool3 : Array CpInfo := pool [(1, .class_ 2), (0, u "java/lang/Cloneable"), (0, .class_ 4), (0, u "java/lang/Object")] 2

/-- java/lang/Cloneable -/
def k3 : Class := { plain "java/lang/Cloneable" (some 0) with
  accessFlags := 1537
  interfaces := #[]
  cf := some (fileOf pool3 1 #[] #[] 1537 3 #[] #[])
  fields := #[]
  methods := #[]
  instanceTypes := #[]
  staticTypes := #[]
  resolved := Array.replicate 7 none
  statics := none }

def pool4 : Array CpInfo := pool [(1, u "java/io/Serializable"), (0, .class_ 1), (0, u "java/lang/Object"), (0, .class_ 3)] 3

/-- java/io/Serializable -/
def k4 : Class := { plain "java/io/Serializable" (some 0) with
  accessFlags := 1537
  interfaces := #[]
  cf := some (fileOf pool4 2 #[] #[] 1537 4 #[] #[])
  fields := #[]
  methods := #[]
  instanceTypes := #[]
  staticTypes := #[]
  resolved := Array.replicate 8 none
  statics := none }

/-- the primitive byte -/
def k5 : Class := { plain "byte" none with kind := .primitive 'B', accessFlags := 0x411 }
/-- [B -/
def k6 : Class := { plain "[B" (some 0) with kind := .array 5 .byte, interfaces := #[3, 4], accessFlags := 1041 }

/-- the primitive int -/
def k7 : Class := { plain "int" none with kind := .primitive 'I', accessFlags := 0x411 }
/-- [I -/
def k8 : Class := { plain "[I" (some 0) with kind := .array 7 .int, interfaces := #[3, 4], accessFlags := 1041 }

def heap : Heap := #[]
def classes : Array Class := #[k0, k1, k2, k3, k4, k5, k6, k7, k8]
def interned : List (Array UInt16 × Addr) := []
def slotsUsed : Nat := 0
def theMethod : MethodId := ⟨1, 1⟩
def args0 : Array Value := #[.int 5, .int 5, .int 5, .int 5, .int 5]
def aboutOver (below : List Frame) : State where
  vm := { classes := classes, interned := interned.toArray }
  heap := heap
  slotsUsed := slotsUsed
  threads := #[{ frames := .invoking theMethod args0 :: below }]
def below0 : List Frame := [.native { method := ⟨0, 0⟩, args := #[] }]
def about1 : State := aboutOver below0
def p0 : Program := .bare "" "" ""
def e0 : Env := launch0.env 0 0 0
theorem w_frames : about1.frames = Frame.invoking theMethod args0 :: below0 := rfl
set_option maxRecDepth 65536 in
theorem w_args : argsFit about1.vm theMethod args0 = true := by decide +kernel
set_option maxRecDepth 65536 in
theorem w_heap : heapFits about1 = true := by decide +kernel
set_option maxRecDepth 65536 in
theorem w_runnable : about1.curStatus? = some .runnable := by decide +kernel
set_option maxRecDepth 65536 in
theorem w_alone : about1.alone = true := by decide +kernel
set_option maxRecDepth 65536 in
theorem w_named : about1.methodNamed? x = some theMethod := by decide +kernel
set_option maxRecDepth 65536 in
theorem w_hears : about1.hears theMethod below0 = true := by decide +kernel
set_option maxRecDepth 65536 in
theorem w_ripe : about1.ripe theMethod args0 below0 = true := by decide +kernel
theorem w_running : about1.status = .running := rfl
set_option maxRecDepth 65536 in
theorem w_room : about1.hasRoom e0.platform room_1 = true :=
  launch0.hasRoom_least _ room_1 (by decide +kernel) (by decide +kernel) (by decide +kernel) (by decide +kernel) (by decide +kernel) (by decide +kernel)
theorem allAtoms_all (ts : List Jvm.Cond) (a : Array Jvm.Value) (st : Jvm.State) : (allAtoms ts).before a st = ts.all (fun c => c.before a st) := by
  induction ts with
  | nil => rfl
  | cons c t ih =>
    show (Jvm.Cond.and c (allAtoms t)).before a st = _
    rw [Jvm.Cond.before_and, ih, List.all_cons]
def words1 : List Jvm.Cond := Jvm.Cond.code x code maxLocals ret :: tables_1
/-- a 'code' word, met by the world's own term for the bytes: nothing is compared byte by byte -/
theorem code_word {y : MethodName} {bytes : ByteArray} {mx : Nat} {rt : Option FieldType} {a : Array Value} {s : State} {m : MethodId} {meth : Method} {c : Code} (h1 : s.methodNamed? y = some m) (h2 : s.vm.method? m = some meth) (h3 : meth.code = some c) (h4 : c.code = bytes)
    (h5 : (c.maxLocals == mx && c.exceptionTable.isEmpty && decide (c.maxStack ≤ mostOperands) && decide (meth.sig.returnType = rt) && !meth.locks && decide (parseMethodDescriptor y.desc = some meth.sig)) = true) : (Jvm.Cond.code y bytes mx rt).before a s = true := by
  simp only [Bool.and_eq_true, beq_iff_eq, Bool.not_eq_true', decide_eq_true_eq] at h5
  obtain ⟨⟨⟨⟨⟨g1, g2⟩, g3⟩, g4⟩, g5⟩, g6⟩ := h5
  simp [Cond.before, Cond.holds, Cond.value, h1, h2, h3, h4, g1, g2, g3, g4, g5, g6]
def isCode : Jvm.Cond → Bool
  | .code _ _ _ _ => true
  | _ => false
theorem all_split {L : List Jvm.Cond} {P : Jvm.Cond → Bool} (h1 : L.all (fun c => isCode c || P c) = true) (h2 : ∀ c ∈ L.filter isCode, P c = true) : L.all P = true := by
  refine List.all_eq_true.mpr fun c hc => ?_
  have h := List.all_eq_true.mp h1 c hc
  rcases Bool.eq_false_or_eq_true (isCode c) with hi | hi
  · exact h2 c (List.mem_filter.mpr ⟨hc, hi⟩)
  · simpa [hi] using h
set_option maxRecDepth 65536 in
theorem w_c0 : (Jvm.Cond.code x code maxLocals ret).before args0 about1 = true := code_word (m := ⟨1, 1⟩) (meth := k1m1) (c := k1c1) (by decide +kernel) rfl rfl rfl (by decide +kernel)
set_option maxRecDepth 65536 in
theorem w_c1 : (Jvm.Cond.code ({ cls := "com/example/itinerant/itinerant/ArrayTour", name := "<init>", desc := "([I)V" } : Jvm.MethodName) prog_1_method_1_code (3 : Nat) (Option.none : Option Jvm.ClassFile.FieldType)).before args0 about1 = true := code_word (m := ⟨2, 0⟩) (meth := k2m0) (c := k2c0) (by decide +kernel) rfl rfl rfl (by decide +kernel)
set_option maxRecDepth 65536 in
theorem w_c2 : (Jvm.Cond.code ({ cls := "java/lang/Object", name := "<init>", desc := "()V" } : Jvm.MethodName) object_method_1_code (1 : Nat) (Option.none : Option Jvm.ClassFile.FieldType)).before args0 about1 = true := code_word (m := ⟨0, 0⟩) (meth := k0m0) (c := k0c0) (by decide +kernel) rfl rfl rfl (by decide +kernel)
set_option maxRecDepth 65536 in
theorem w_c3 : (Jvm.Cond.code ({ cls := "com/example/itinerant/itinerant/ArrayTour", name := "between", desc := "(III)Z" } : Jvm.MethodName) prog_1_method_6_code (7 : Nat) (Option.some Jvm.ClassFile.FieldType.boolean)).before args0 about1 = true := code_word (m := ⟨2, 1⟩) (meth := k2m1) (c := k2c1) (by decide +kernel) rfl rfl rfl (by decide +kernel)
def codes1 : List Jvm.Cond := [Jvm.Cond.code x code maxLocals ret, Jvm.Cond.code ({ cls := "com/example/itinerant/itinerant/ArrayTour", name := "<init>", desc := "([I)V" } : Jvm.MethodName) prog_1_method_1_code (3 : Nat) (Option.none : Option Jvm.ClassFile.FieldType), Jvm.Cond.code ({ cls := "java/lang/Object", name := "<init>", desc := "()V" } : Jvm.MethodName) object_method_1_code (1 : Nat) (Option.none : Option Jvm.ClassFile.FieldType), Jvm.Cond.code ({ cls := "com/example/itinerant/itinerant/ArrayTour", name := "between", desc := "(III)Z" } : Jvm.MethodName) prog_1_method_6_code (7 : Nat) (Option.some Jvm.ClassFile.FieldType.boolean)]
set_option maxRecDepth 65536 in
theorem codes_eq : words1.filter isCode = codes1 := rfl
theorem w_codes : ∀ c ∈ words1.filter isCode, c.before args0 about1 = true := by
  rw [codes_eq]
  intro c hc
  simp only [codes1, List.mem_cons, List.not_mem_nil, or_false] at hc
  rcases hc with rfl | rfl | rfl | rfl
  · exact w_c0
  · exact w_c1
  · exact w_c2
  · exact w_c3
set_option maxRecDepth 65536 in
theorem w_t1 : (words1.take 24).all (fun c => isCode c || c.before args0 about1) = true := by decide +kernel
set_option maxRecDepth 65536 in
theorem w_t2 : (words1.drop 24).all (fun c => isCode c || c.before args0 about1) = true := by decide +kernel
theorem w_tables : (allAtoms (Jvm.Cond.code x code maxLocals ret :: tables_1)).before args0 about1 = true := by
  rw [allAtoms_all]
  show words1.all (fun c => c.before args0 about1) = true
  refine all_split ?_ w_codes
  rw [← List.take_append_drop 24 words1, List.all_append, w_t1, w_t2]
  rfl
set_option maxRecDepth 65536 in
theorem w_case : (Jvm.Cond.and given_1 narrow_1).before args0 about1 = true := by decide +kernel
theorem w_applies : (headSpec (Jvm.Cond.code x code maxLocals ret :: tables_1) room_1).applies x e0.platform about1 = true :=
  (Spec.applies_iff w_frames).mpr ⟨w_running, w_runnable, w_alone, w_named, w_hears, w_ripe, w_room, w_tables⟩
theorem atStart : AtStart classFile x code maxLocals ret World_1 tables_1 room_1 Calls_1 rest_1 Pre_1 launch0 p0 e0 about1 theMethod args0 below0 :=
  ⟨lists_1, trivial, launch0.admits_env _ _ _, launch0.least_env, fairChoices_fair.cas, fairChoices_fair.clock, w_frames, w_args, w_heap, w_applies, trivial, trivial, w_case⟩
end start1
theorem witness_1 : WitnessClaimed_1 := ⟨start1.p0, start1.e0, start1.about1, start1.theMethod, start1.args0, start1.below0, start1.atStart⟩
end Jvm.Pilot.@@N@@

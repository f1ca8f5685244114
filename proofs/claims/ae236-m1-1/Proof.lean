import JvmDerived
import JvmDerived.Pilot.@@N@@Statement
import JvmDerived.Pilot.@@N@@Code
set_option linter.unusedVariables false
set_option linter.unusedSimpArgs false
namespace Jvm.RoadKit
open Sem ClassFile Op Lib Jvm.Stand Jvm.Free Jvm.LawKit
section New
variable {p : Program} {l : Launch} {e : Env} {R : Room} {s : State} {m : MethodId} {args : Array Value} {below : List Frame} {meth : Method} {c : Code} {T : State} {locs : List Loc} {cells slots : Nat}
theorem retI (X : Stand p l e R s m args below meth c T locs cells slots) (hx : p.tables.exec = Jvm.exec) {pc : Nat} {Ls : Array Slot} {z : Int32} {rest : List Value} (hret : meth.sig.returnType = some .int) (hd : decode c.code pc = .ok (.ireturn, 1)) {fs : List Frame}
    (hl : ∀ (f : JFrame) (acts : List Action), f.method = m → f.locked = none → f.entered = [] → (doReturn e (T.setTop f) acts (some (.int z))).1 = T.setFrames fs) : Steps p.tables e below (T.setTop (mkF m pc Ls (.int z :: rest))) (T.setFrames fs) := by
  have hm' : T.vm.method? m = some meth := X.method'
  have hn : narrow .int (.int z) = .int z := rfl
  show Steps p.tables e below (T.setTop { method := m, pc := pc, locals := Ls, stack := _ :: rest, locked := none }) _
  jvm_step X.here [X.here.top, hx, hd, hm', hret, hn]
  first | (intro acts; rw [hl _ acts rfl rfl rfl]) | rw [hl _ _ rfl rfl rfl]
  exact Steps.refl _
end New
end Jvm.RoadKit
namespace Jvm.Pilot.@@N@@
open Jvm Jvm.ClassFile Sem Op Lib Jvm.Free Jvm.Stand Jvm.LawKit Jvm.RoadKit Bundle Jvm.Pilot.@@N@@.Jvm.D
/-- the run comes from A to B -/
abbrev own_Go (p : Program) (e : Env) (below : List Frame) (A B : State) : Prop := ∀ t, Steps p.tables e below B t → Steps p.tables e below A t
theorem pn_0 : plainName "java/lang/Record" = true := by first | (simp [plainName, overriddenIn]; done) | decide +kernel
theorem d2_0 : decode jdk_30_method_1_code 0 = .ok (.aload_n 0, 1) := by decide +kernel
theorem d2_1 : decode jdk_30_method_1_code 1 = .ok (.invokespecial 1, 3) := by decide +kernel
theorem d2_4 : decode jdk_30_method_1_code 4 = .ok (.return_, 1) := by decide +kernel
theorem ef_2 (m : MethodId) (r0 : Addr) : entryFrame m #[(.ref r0)] 1 = mkF m 0 #[.val (.ref r0)] [] := by first | (simp [entryFrame, mkF, argsToLocals, Value.category]; done) | rfl
def Q2 (Z : State) (r0 : Addr) (h0 : Heap) (n0 : Nat) (v : Option Value) (h : Heap) (L : List Loc) : Prop := v = none ∧ Fr n0 L ∧ h = h0
set_option maxRecDepth 65536 in
set_option maxHeartbeats 40000000 in
theorem rm2 (l : Launch) (Z : State) (a0 : Array Value) (hw : ∀ d ∈ tables_1, d.before a0 Z = true) (ws : List Jvm.Cond) (r0 : Addr) (h0 : Heap) (n0 : Nat) (Z0 : n0 ≤ h0.size) :
    MetFree l (⟨"java/lang/Record", "<init>", "()V"⟩ : MethodName) (head1 (Jvm.Cond.code (⟨"java/lang/Record", "<init>", "()V"⟩ : MethodName) jdk_30_method_1_code 1 none :: ws) ({ frames := 1, cells := 0, slots := 0, locals := 12 } : Room)) (fun a U => a = #[(.ref r0)] ∧ Z.Warmed39 U.vm ∧ U.heap = h0) (fun _ _ _ _ _ => True) (fun _ U o U' => ∃ v L, o = .returned v ∧ Q2 Z r0 h0 n0 v U'.heap L ∧ FrameEnd U o U' L ({ frames := 1, cells := 0, slots := 0, locals := 12 } : Room).cells ({ frames := 1, cells := 0, slots := 0, locals := 12 } : Room).slots) := by
  refine MetFree.of_bodySF (plainFor_of_name pn_0) hisR ?_
  intro p e s m args below meth c s₁ Bd hml0 hP hK
  obtain ⟨rfl, hZ, hh⟩ := hP
  have hx := Bd.exec
  have hby := Bd.bytes
  have hml : c.maxLocals = 1 := hml0
  have hown : s.vm.findClass "java/lang/Record" = some m.cls := findClass_of_methodNamed Bd.named
  have hnm := (name_of_methodNamed Bd.named Bd.method).1
  have X0 : Stand p l e ({ frames := 1, cells := 0, slots := 0, locals := 12 } : Room) s m #[(.ref r0)] below meth c s₁ [] 0 0 := Stand.of_body Bd
  have e0 : s₁.heap = h0 := by rw [← hh, Bd.state]; rfl
  have N0 := Fr.nil n0
  have pre0 : own_Go p e below (s₁.setTop (entryFrame m #[(.ref r0)] 1)) (s₁.setTop (mkF m 0 #[.val (.ref r0)] [])) := fun t k => castTop (ef_2 m r0) k
  have k1 : own_Go p e below (s₁.setTop (entryFrame m #[(.ref r0)] 1)) (s₁.setTop (mkF m 1 #[.val (.ref r0)] [(.ref r0)])) := by
    intro t k
    refine pre0 t ?_
    show Steps p.tables e below (s₁.setTop (mkF m 0 #[.val (.ref r0)] [])) t
    refine XS.aloadN X0.here hx rfl (hb hby d2_0) rfl rfl ?_
    exact k
  obtain ⟨T2, X2, e2, st2⟩ := initO X0 hx hZ hown (hw _ (List.mem_of_getElem? (i := 11) rfl)) (hw _ (List.mem_of_getElem? (i := 12) rfl)) (hw _ (List.mem_of_getElem? (i := 13) rfl)) e0 (g := (mkF m 1 #[.val (.ref r0)] [(.ref r0)])) rfl (by rw [hml]; rfl) rfl (hb hby d2_1) (by decide) (W := 0) (by show 2 * 0 + _ ≤ _; exact Nat.le_of_eq rfl) (by decide)
  have k3 : own_Go p e below (s₁.setTop (entryFrame m #[(.ref r0)] 1)) (T2.setTop (mkF m 4 #[.val (.ref r0)] [])) := fun t k => k1 t (st2 t k)
  obtain ⟨fs, hr, hrun, hended, hW, hsame⟩ := X2.leave (v := none) (fun _ => rfl)
  refine ⟨_, _, k3 _ ?_, hrun, hended, _, _, rfl, ?_, ⟨_, rfl⟩, hW, hsame.mono (by decide) (by decide)⟩
  · exact X2.returnOut hx Bd.returns (hb hby d2_4) hr
  · show Q2 Z r0 h0 n0 _ T2.heap _
    rw [e2]
    exact ⟨rfl, N0, rfl⟩
theorem pn_1 : plainName "com/example/gate_per_key/gateperkey/model/Decision" = true := by first | (simp [plainName, overriddenIn]; done) | decide +kernel
theorem pd_0 : parseMethodDescriptor "()V" = some ⟨[], none⟩ := by decide +kernel
theorem d1_0 : decode prog_14_method_2_code 0 = .ok (.aload_n 0, 1) := by decide +kernel
theorem d1_1 : decode prog_14_method_2_code 1 = .ok (.invokespecial 1, 3) := by decide +kernel
theorem d1_4 : decode prog_14_method_2_code 4 = .ok (.aload_n 0, 1) := by decide +kernel
theorem d1_5 : decode prog_14_method_2_code 5 = .ok (.iload_n 1, 1) := by decide +kernel
theorem d1_6 : decode prog_14_method_2_code 6 = .ok (.putfield 7, 3) := by decide +kernel
theorem d1_9 : decode prog_14_method_2_code 9 = .ok (.aload_n 0, 1) := by decide +kernel
theorem d1_10 : decode prog_14_method_2_code 10 = .ok (.lload_n 2, 1) := by decide +kernel
theorem d1_11 : decode prog_14_method_2_code 11 = .ok (.putfield 13, 3) := by decide +kernel
theorem d1_14 : decode prog_14_method_2_code 14 = .ok (.aload_n 0, 1) := by decide +kernel
theorem d1_15 : decode prog_14_method_2_code 15 = .ok (.lload 4, 2) := by decide +kernel
theorem d1_17 : decode prog_14_method_2_code 17 = .ok (.putfield 17, 3) := by decide +kernel
theorem d1_20 : decode prog_14_method_2_code 20 = .ok (.aload_n 0, 1) := by decide +kernel
theorem d1_21 : decode prog_14_method_2_code 21 = .ok (.iload 6, 2) := by decide +kernel
theorem d1_23 : decode prog_14_method_2_code 23 = .ok (.putfield 20, 3) := by decide +kernel
theorem d1_26 : decode prog_14_method_2_code 26 = .ok (.return_, 1) := by decide +kernel
theorem ef_1 (m : MethodId) (r0 : Addr) (p1 : Int32) (q2 : Int64) (q3 : Int64) (p4 : Int32) : entryFrame m #[(.ref r0), (.int p1), (.long q2), (.long q3), (.int p4)] 7 = mkF m 0 #[.val (.ref r0), .val (.int p1), .val (.long q2), .second, .val (.long q3), .second, .val (.int p4)] [] := by first | (simp [entryFrame, mkF, argsToLocals, Value.category]; done) | rfl
def Q1 (Z : State) (r0 : Addr) (p1 : Int32) (q2 : Int64) (q3 : Int64) (p4 : Int32) (h0 : Heap) (n0 : Nat) (v : Option Value) (h : Heap) (L : List Loc) : Prop := v = none ∧ Fr n0 L ∧ Keep h0 h [r0] ∧ Exa Z h r0 "com/example/gate_per_key/gateperkey/model/Decision" ∧ Fld Z h r0 "com/example/gate_per_key/gateperkey/model/Decision" "allowed" "Z" (.int (p1 &&& 1)) ∧ Fld Z h r0 "com/example/gate_per_key/gateperkey/model/Decision" "remaining" "J" (.long q2) ∧ Fld Z h r0 "com/example/gate_per_key/gateperkey/model/Decision" "resetMillis" "J" (.long q3) ∧ Fld Z h r0 "com/example/gate_per_key/gateperkey/model/Decision" "failedOpen" "Z" (.int (p4 &&& 1))
set_option maxRecDepth 65536 in
set_option maxHeartbeats 40000000 in
theorem rm1 (l : Launch) (Z : State) (a0 : Array Value) (hw : ∀ d ∈ tables_1, d.before a0 Z = true) (ws : List Jvm.Cond) (r0 : Addr) (p1 : Int32) (q2 : Int64) (q3 : Int64) (p4 : Int32) (h0 : Heap) (n0 : Nat) (Z0 : n0 ≤ h0.size) (g_r0 : n0 ≤ r0) (E_r0 : Exa Z h0 r0 "com/example/gate_per_key/gateperkey/model/Decision") (F_allowed : Fld Z h0 r0 "com/example/gate_per_key/gateperkey/model/Decision" "allowed" "Z" (.int (0 : Int32))) (F_remaining : Fld Z h0 r0 "com/example/gate_per_key/gateperkey/model/Decision" "remaining" "J" (.long (0 : Int64))) (F_resetMillis : Fld Z h0 r0 "com/example/gate_per_key/gateperkey/model/Decision" "resetMillis" "J" (.long (0 : Int64))) (F_failedOpen : Fld Z h0 r0 "com/example/gate_per_key/gateperkey/model/Decision" "failedOpen" "Z" (.int (0 : Int32))) :
    MetFree l (⟨"com/example/gate_per_key/gateperkey/model/Decision", "<init>", "(ZJJZ)V"⟩ : MethodName) (head1 (Jvm.Cond.code (⟨"com/example/gate_per_key/gateperkey/model/Decision", "<init>", "(ZJJZ)V"⟩ : MethodName) prog_14_method_2_code 7 none :: ws) ({ frames := 2, cells := 0, slots := 0, locals := 24 } : Room)) (fun a U => a = #[(.ref r0), (.int p1), (.long q2), (.long q3), (.int p4)] ∧ Z.Warmed39 U.vm ∧ U.heap = h0) (fun _ _ _ _ _ => True) (fun _ U o U' => ∃ v L, o = .returned v ∧ Q1 Z r0 p1 q2 q3 p4 h0 n0 v U'.heap L ∧ FrameEnd U o U' L ({ frames := 2, cells := 0, slots := 0, locals := 24 } : Room).cells ({ frames := 2, cells := 0, slots := 0, locals := 24 } : Room).slots) := by
  refine MetFree.of_bodySF (plainFor_of_name pn_1) hisR ?_
  intro p e s m args below meth c s₁ Bd hml0 hP hK
  obtain ⟨rfl, hZ, hh⟩ := hP
  have hx := Bd.exec
  have hby := Bd.bytes
  have hml : c.maxLocals = 7 := hml0
  have hown : s.vm.findClass "com/example/gate_per_key/gateperkey/model/Decision" = some m.cls := findClass_of_methodNamed Bd.named
  have hnm := (name_of_methodNamed Bd.named Bd.method).1
  have X0 : Stand p l e ({ frames := 2, cells := 0, slots := 0, locals := 24 } : Room) s m #[(.ref r0), (.int p1), (.long q2), (.long q3), (.int p4)] below meth c s₁ [] 0 0 := Stand.of_body Bd
  have e0 : s₁.heap = h0 := by rw [← hh, Bd.state]; rfl
  have N0 := Fr.nil n0
  have K0 : Keep h0 h0 [r0] := Keep.refl h0 _
  have pre0 : own_Go p e below (s₁.setTop (entryFrame m #[(.ref r0), (.int p1), (.long q2), (.long q3), (.int p4)] 7)) (s₁.setTop (mkF m 0 #[.val (.ref r0), .val (.int p1), .val (.long q2), .second, .val (.long q3), .second, .val (.int p4)] [])) := fun t k => castTop (ef_1 m r0 p1 q2 q3 p4) k
  have k1 : own_Go p e below (s₁.setTop (entryFrame m #[(.ref r0), (.int p1), (.long q2), (.long q3), (.int p4)] 7)) (s₁.setTop (mkF m 1 #[.val (.ref r0), .val (.int p1), .val (.long q2), .second, .val (.long q3), .second, .val (.int p4)] [(.ref r0)])) := by
    intro t k
    refine pre0 t ?_
    show Steps p.tables e below (s₁.setTop (mkF m 0 #[.val (.ref r0), .val (.int p1), .val (.long q2), .second, .val (.long q3), .second, .val (.int p4)] [])) t
    refine XS.aloadN X0.here hx rfl (hb hby d1_0) rfl rfl ?_
    exact k
  obtain ⟨_, _, ⟨T2, L2, kk2, n2⟩, -, X2, ⟨Lc2, hQ2, l2, y2, z2⟩, st2⟩ := X0.specialBack hx (y := (⟨"java/lang/Record", "<init>", "()V"⟩ : MethodName)) rfl hown (mvT hZ (hw _ (List.mem_of_getElem? (i := 6) rfl))) (mvT hZ (hw _ (List.mem_of_getElem? (i := 7) rfl))) (mvT hZ (hw _ (List.mem_of_getElem? (i := 10) rfl))) (by decide) (backOf (W := 0) (rm2 l Z a0 hw [] r0  h0 n0 Z0 ) hZ (hw _ (List.mem_of_getElem? (i := 10) rfl)) (hw _ (List.mem_of_getElem? (i := 9) rfl)) (by decide) (by decide)) (g := (mkF m 1 #[.val (.ref r0), .val (.int p1), .val (.long q2), .second, .val (.long q3), .second, .val (.int p4)] [(.ref r0)])) rfl (by rw [hml]; rfl) (Steps.refl _) (a := r0) (argsL := []) (rest := []) (lenOf pd_0 rfl) rfl (by show 2 * 0 + _ ≤ _; exact Nat.le_of_eq rfl) (hb hby d1_1) (fun _ _ => ⟨rfl, e0, (by decide : 0 + 0 ≤ _), (by decide : 0 + 0 ≤ _)⟩)
  dsimp only [Pt.U, Pt.locs, Pt.cells, Pt.slots] at X2 l2 y2 z2 st2 hQ2
  subst l2 y2 z2
  obtain ⟨rfl, N2q, eh2⟩ := hQ2
  have N2 := Fr.app N0 N2q
  have k3 : own_Go p e below (s₁.setTop (entryFrame m #[(.ref r0), (.int p1), (.long q2), (.long q3), (.int p4)] 7)) (T2.setTop (mkF m 4 #[.val (.ref r0), .val (.int p1), .val (.long q2), .second, .val (.long q3), .second, .val (.int p4)] [])) := fun t k => k1 t (st2.trans k)
  have k4 : own_Go p e below (s₁.setTop (entryFrame m #[(.ref r0), (.int p1), (.long q2), (.long q3), (.int p4)] 7)) (T2.setTop (mkF m 6 #[.val (.ref r0), .val (.int p1), .val (.long q2), .second, .val (.long q3), .second, .val (.int p4)] [(.int p1), (.ref r0)])) := by
    intro t k
    refine k3 t ?_
    show Steps p.tables e below (T2.setTop (mkF m 4 #[.val (.ref r0), .val (.int p1), .val (.long q2), .second, .val (.long q3), .second, .val (.int p4)] [])) t
    refine XS.aloadN X2.here hx rfl (hb hby d1_4) rfl rfl ?_
    show Steps p.tables e below (T2.setTop (mkF m 5 #[.val (.ref r0), .val (.int p1), .val (.long q2), .second, .val (.long q3), .second, .val (.int p4)] [(.ref r0)])) t
    refine XS.iloadN X2.here hx rfl (hb hby d1_5) rfl ?_
    exact k
  obtain ⟨T5, h5, X5, e5, W5, st5⟩ := putFN X2 hx hZ hown (hw _ (List.mem_of_getElem? (i := 14) rfl)) Via.refl eh2 F_allowed E_r0 (Or.inr ⟨(hw _ (List.mem_of_getElem? (i := 15) rfl)), rfl, hnm⟩) (hw _ (List.mem_of_getElem? (i := 1) rfl)) (ty := .boolean) (v' := (.int (p1 &&& 1))) (by decide) rfl (fits_nar_bool _) (g := (mkF m 6 #[.val (.ref r0), .val (.int p1), .val (.long q2), .second, .val (.long q3), .second, .val (.int p4)] [(.int p1), (.ref r0)])) rfl rfl (hb hby d1_6)
  have Fw5 := F_allowed.same W5
  have Kp5 : Keep h0 h5 [r0] := K0.wr W5 (Or.inl (List.mem_of_getElem? (i := 0) rfl))
  have N5 := Fr.snoc X5 N2 g_r0
  have k6 : own_Go p e below (s₁.setTop (entryFrame m #[(.ref r0), (.int p1), (.long q2), (.long q3), (.int p4)] 7)) (T5.setTop (mkF m 9 #[.val (.ref r0), .val (.int p1), .val (.long q2), .second, .val (.long q3), .second, .val (.int p4)] [])) := fun t k => k4 t (st5 t k)
  have k7 : own_Go p e below (s₁.setTop (entryFrame m #[(.ref r0), (.int p1), (.long q2), (.long q3), (.int p4)] 7)) (T5.setTop (mkF m 11 #[.val (.ref r0), .val (.int p1), .val (.long q2), .second, .val (.long q3), .second, .val (.int p4)] [(.long q2), (.ref r0)])) := by
    intro t k
    refine k6 t ?_
    show Steps p.tables e below (T5.setTop (mkF m 9 #[.val (.ref r0), .val (.int p1), .val (.long q2), .second, .val (.long q3), .second, .val (.int p4)] [])) t
    refine XS.aloadN X5.here hx rfl (hb hby d1_9) rfl rfl ?_
    show Steps p.tables e below (T5.setTop (mkF m 10 #[.val (.ref r0), .val (.int p1), .val (.long q2), .second, .val (.long q3), .second, .val (.int p4)] [(.ref r0)])) t
    refine XS.lloadN X5.here hx rfl (hb hby d1_10) rfl ?_
    exact k
  obtain ⟨T8, h8, X8, e8, W8, st8⟩ := putF X5 hx hZ hown (host := "") (Or.inl (hw _ (List.mem_of_getElem? (i := 16) rfl))) Via.refl e5 (F_remaining.other W5 (Or.inr (slot_ne (Or.inr (hw _ (List.mem_of_getElem? (i := 17) rfl))) (Or.inr (hw _ (List.mem_of_getElem? (i := 15) rfl))) (by decide) (t := .long) (t' := .boolean) (by decide) (by decide)))) (E_r0.wr W5) (Or.inr ⟨(hw _ (List.mem_of_getElem? (i := 17) rfl)), rfl, hnm⟩) (hw _ (List.mem_of_getElem? (i := 1) rfl)) (ty := .long) (by decide) rfl rfl (g := (mkF m 11 #[.val (.ref r0), .val (.int p1), .val (.long q2), .second, .val (.long q3), .second, .val (.int p4)] [(.long q2), (.ref r0)])) rfl rfl (hb hby d1_11)
  have Fw8 := (F_remaining.other W5 (Or.inr (slot_ne (Or.inr (hw _ (List.mem_of_getElem? (i := 17) rfl))) (Or.inr (hw _ (List.mem_of_getElem? (i := 15) rfl))) (by decide) (t := .long) (t' := .boolean) (by decide) (by decide)))).same W8
  have Kp8 : Keep h0 h8 [r0] := Kp5.wr W8 (Or.inl (List.mem_of_getElem? (i := 0) rfl))
  have N8 := Fr.snoc X8 N5 g_r0
  have k9 : own_Go p e below (s₁.setTop (entryFrame m #[(.ref r0), (.int p1), (.long q2), (.long q3), (.int p4)] 7)) (T8.setTop (mkF m 14 #[.val (.ref r0), .val (.int p1), .val (.long q2), .second, .val (.long q3), .second, .val (.int p4)] [])) := fun t k => k7 t (st8 t k)
  have k10 : own_Go p e below (s₁.setTop (entryFrame m #[(.ref r0), (.int p1), (.long q2), (.long q3), (.int p4)] 7)) (T8.setTop (mkF m 17 #[.val (.ref r0), .val (.int p1), .val (.long q2), .second, .val (.long q3), .second, .val (.int p4)] [(.long q3), (.ref r0)])) := by
    intro t k
    refine k9 t ?_
    show Steps p.tables e below (T8.setTop (mkF m 14 #[.val (.ref r0), .val (.int p1), .val (.long q2), .second, .val (.long q3), .second, .val (.int p4)] [])) t
    refine XS.aloadN X8.here hx rfl (hb hby d1_14) rfl rfl ?_
    show Steps p.tables e below (T8.setTop (mkF m 15 #[.val (.ref r0), .val (.int p1), .val (.long q2), .second, .val (.long q3), .second, .val (.int p4)] [(.ref r0)])) t
    refine XS.lload X8.here hx rfl (hb hby d1_15) rfl ?_
    exact k
  obtain ⟨T11, h11, X11, e11, W11, st11⟩ := putF X8 hx hZ hown (host := "") (Or.inl (hw _ (List.mem_of_getElem? (i := 18) rfl))) Via.refl e8 ((F_resetMillis.other W5 (Or.inr (slot_ne (Or.inr (hw _ (List.mem_of_getElem? (i := 19) rfl))) (Or.inr (hw _ (List.mem_of_getElem? (i := 15) rfl))) (by decide) (t := .long) (t' := .boolean) (by decide) (by decide)))).other W8 (Or.inr (slot_ne (Or.inr (hw _ (List.mem_of_getElem? (i := 19) rfl))) (Or.inr (hw _ (List.mem_of_getElem? (i := 17) rfl))) (by decide) (t := .long) (t' := .long) (by decide) (by decide)))) ((E_r0.wr W5).wr W8) (Or.inr ⟨(hw _ (List.mem_of_getElem? (i := 19) rfl)), rfl, hnm⟩) (hw _ (List.mem_of_getElem? (i := 1) rfl)) (ty := .long) (by decide) rfl rfl (g := (mkF m 17 #[.val (.ref r0), .val (.int p1), .val (.long q2), .second, .val (.long q3), .second, .val (.int p4)] [(.long q3), (.ref r0)])) rfl rfl (hb hby d1_17)
  have Fw11 := ((F_resetMillis.other W5 (Or.inr (slot_ne (Or.inr (hw _ (List.mem_of_getElem? (i := 19) rfl))) (Or.inr (hw _ (List.mem_of_getElem? (i := 15) rfl))) (by decide) (t := .long) (t' := .boolean) (by decide) (by decide)))).other W8 (Or.inr (slot_ne (Or.inr (hw _ (List.mem_of_getElem? (i := 19) rfl))) (Or.inr (hw _ (List.mem_of_getElem? (i := 17) rfl))) (by decide) (t := .long) (t' := .long) (by decide) (by decide)))).same W11
  have Kp11 : Keep h0 h11 [r0] := Kp8.wr W11 (Or.inl (List.mem_of_getElem? (i := 0) rfl))
  have N11 := Fr.snoc X11 N8 g_r0
  have k12 : own_Go p e below (s₁.setTop (entryFrame m #[(.ref r0), (.int p1), (.long q2), (.long q3), (.int p4)] 7)) (T11.setTop (mkF m 20 #[.val (.ref r0), .val (.int p1), .val (.long q2), .second, .val (.long q3), .second, .val (.int p4)] [])) := fun t k => k10 t (st11 t k)
  have k13 : own_Go p e below (s₁.setTop (entryFrame m #[(.ref r0), (.int p1), (.long q2), (.long q3), (.int p4)] 7)) (T11.setTop (mkF m 23 #[.val (.ref r0), .val (.int p1), .val (.long q2), .second, .val (.long q3), .second, .val (.int p4)] [(.int p4), (.ref r0)])) := by
    intro t k
    refine k12 t ?_
    show Steps p.tables e below (T11.setTop (mkF m 20 #[.val (.ref r0), .val (.int p1), .val (.long q2), .second, .val (.long q3), .second, .val (.int p4)] [])) t
    refine XS.aloadN X11.here hx rfl (hb hby d1_20) rfl rfl ?_
    show Steps p.tables e below (T11.setTop (mkF m 21 #[.val (.ref r0), .val (.int p1), .val (.long q2), .second, .val (.long q3), .second, .val (.int p4)] [(.ref r0)])) t
    refine XS.iload X11.here hx rfl (hb hby d1_21) rfl ?_
    exact k
  obtain ⟨T14, h14, X14, e14, W14, st14⟩ := putFN X11 hx hZ hown (hw _ (List.mem_of_getElem? (i := 20) rfl)) Via.refl e11 (((F_failedOpen.other W5 (Or.inr (slot_ne (Or.inr (hw _ (List.mem_of_getElem? (i := 21) rfl))) (Or.inr (hw _ (List.mem_of_getElem? (i := 15) rfl))) (by decide) (t := .boolean) (t' := .boolean) (by decide) (by decide)))).other W8 (Or.inr (slot_ne (Or.inr (hw _ (List.mem_of_getElem? (i := 21) rfl))) (Or.inr (hw _ (List.mem_of_getElem? (i := 17) rfl))) (by decide) (t := .boolean) (t' := .long) (by decide) (by decide)))).other W11 (Or.inr (slot_ne (Or.inr (hw _ (List.mem_of_getElem? (i := 21) rfl))) (Or.inr (hw _ (List.mem_of_getElem? (i := 19) rfl))) (by decide) (t := .boolean) (t' := .long) (by decide) (by decide)))) (((E_r0.wr W5).wr W8).wr W11) (Or.inr ⟨(hw _ (List.mem_of_getElem? (i := 21) rfl)), rfl, hnm⟩) (hw _ (List.mem_of_getElem? (i := 1) rfl)) (ty := .boolean) (v' := (.int (p4 &&& 1))) (by decide) rfl (fits_nar_bool _) (g := (mkF m 23 #[.val (.ref r0), .val (.int p1), .val (.long q2), .second, .val (.long q3), .second, .val (.int p4)] [(.int p4), (.ref r0)])) rfl rfl (hb hby d1_23)
  have Fw14 := (((F_failedOpen.other W5 (Or.inr (slot_ne (Or.inr (hw _ (List.mem_of_getElem? (i := 21) rfl))) (Or.inr (hw _ (List.mem_of_getElem? (i := 15) rfl))) (by decide) (t := .boolean) (t' := .boolean) (by decide) (by decide)))).other W8 (Or.inr (slot_ne (Or.inr (hw _ (List.mem_of_getElem? (i := 21) rfl))) (Or.inr (hw _ (List.mem_of_getElem? (i := 17) rfl))) (by decide) (t := .boolean) (t' := .long) (by decide) (by decide)))).other W11 (Or.inr (slot_ne (Or.inr (hw _ (List.mem_of_getElem? (i := 21) rfl))) (Or.inr (hw _ (List.mem_of_getElem? (i := 19) rfl))) (by decide) (t := .boolean) (t' := .long) (by decide) (by decide)))).same W14
  have Kp14 : Keep h0 h14 [r0] := Kp11.wr W14 (Or.inl (List.mem_of_getElem? (i := 0) rfl))
  have N14 := Fr.snoc X14 N11 g_r0
  have k15 : own_Go p e below (s₁.setTop (entryFrame m #[(.ref r0), (.int p1), (.long q2), (.long q3), (.int p4)] 7)) (T14.setTop (mkF m 26 #[.val (.ref r0), .val (.int p1), .val (.long q2), .second, .val (.long q3), .second, .val (.int p4)] [])) := fun t k => k13 t (st14 t k)
  obtain ⟨fs, hr, hrun, hended, hW, hsame⟩ := X14.leave (v := none) (fun _ => rfl)
  refine ⟨_, _, k15 _ ?_, hrun, hended, _, _, rfl, ?_, ⟨_, rfl⟩, hW, hsame.mono (by decide) (by decide)⟩
  · exact X14.returnOut hx Bd.returns (hb hby d1_26) hr
  · show Q1 Z r0 p1 q2 q3 p4 h0 n0 _ T14.heap _
    rw [e14]
    exact ⟨rfl, N14, Kp14, ((((E_r0.wr W5).wr W8).wr W11).wr W14), (((Fw5.other W8 (Or.inr (slot_ne (Or.inr (hw _ (List.mem_of_getElem? (i := 15) rfl))) (Or.inr (hw _ (List.mem_of_getElem? (i := 17) rfl))) (by decide) (t := .boolean) (t' := .long) (by decide) (by decide)))).other W11 (Or.inr (slot_ne (Or.inr (hw _ (List.mem_of_getElem? (i := 15) rfl))) (Or.inr (hw _ (List.mem_of_getElem? (i := 19) rfl))) (by decide) (t := .boolean) (t' := .long) (by decide) (by decide)))).other W14 (Or.inr (slot_ne (Or.inr (hw _ (List.mem_of_getElem? (i := 15) rfl))) (Or.inr (hw _ (List.mem_of_getElem? (i := 21) rfl))) (by decide) (t := .boolean) (t' := .boolean) (by decide) (by decide)))), ((Fw8.other W11 (Or.inr (slot_ne (Or.inr (hw _ (List.mem_of_getElem? (i := 17) rfl))) (Or.inr (hw _ (List.mem_of_getElem? (i := 19) rfl))) (by decide) (t := .long) (t' := .long) (by decide) (by decide)))).other W14 (Or.inr (slot_ne (Or.inr (hw _ (List.mem_of_getElem? (i := 17) rfl))) (Or.inr (hw _ (List.mem_of_getElem? (i := 21) rfl))) (by decide) (t := .long) (t' := .boolean) (by decide) (by decide)))), (Fw11.other W14 (Or.inr (slot_ne (Or.inr (hw _ (List.mem_of_getElem? (i := 19) rfl))) (Or.inr (hw _ (List.mem_of_getElem? (i := 21) rfl))) (by decide) (t := .long) (t' := .boolean) (by decide) (by decide)))), Fw14⟩
theorem d4_0 : decode prog_14_method_3_code 0 = .ok (.aload_n 0, 1) := by decide +kernel
theorem d4_1 : decode prog_14_method_3_code 1 = .ok (.getfield 7, 3) := by decide +kernel
theorem d4_4 : decode prog_14_method_3_code 4 = .ok (.ifCond .eq 7, 3) := by decide +kernel
theorem d4_7 : decode prog_14_method_3_code 7 = .ok (.lconst 0, 1) := by decide +kernel
theorem d4_8 : decode prog_14_method_3_code 8 = .ok (.goto 7, 3) := by decide +kernel
theorem d4_11 : decode prog_14_method_3_code 11 = .ok (.aload_n 0, 1) := by decide +kernel
theorem d4_12 : decode prog_14_method_3_code 12 = .ok (.getfield 17, 3) := by decide +kernel
theorem d4_15 : decode prog_14_method_3_code 15 = .ok (.lreturn, 1) := by decide +kernel
theorem ef_4 (m : MethodId) (r0 : Addr) : entryFrame m #[(.ref r0)] 1 = mkF m 0 #[.val (.ref r0)] [] := by first | (simp [entryFrame, mkF, argsToLocals, Value.category]; done) | rfl
def f4 (u_allowed : Int32) (u_remaining : Int64) (u_resetMillis : Int64) (u_failedOpen : Int32) : Int64 := (if u_allowed = (0 : Int32) then u_resetMillis else (0 : Int64))
def Q4 (Z : State) (r0 : Addr) (u_allowed : Int32) (u_remaining : Int64) (u_resetMillis : Int64) (u_failedOpen : Int32) (h0 : Heap) (n0 : Nat) (v : Option Value) (h : Heap) (L : List Loc) : Prop := v = some (.long (f4 u_allowed u_remaining u_resetMillis u_failedOpen)) ∧ Fr n0 L ∧ h = h0
set_option maxRecDepth 65536 in
set_option maxHeartbeats 40000000 in
theorem rm4 (l : Launch) (Z : State) (a0 : Array Value) (hw : ∀ d ∈ tables_1, d.before a0 Z = true) (ws : List Jvm.Cond) (r0 : Addr) (u_allowed : Int32) (u_remaining : Int64) (u_resetMillis : Int64) (u_failedOpen : Int32) (h0 : Heap) (n0 : Nat) (Z0 : n0 ≤ h0.size) (E_r0 : Exa Z h0 r0 "com/example/gate_per_key/gateperkey/model/Decision") (F_allowed : Fld Z h0 r0 "com/example/gate_per_key/gateperkey/model/Decision" "allowed" "Z" (.int u_allowed)) (F_remaining : Fld Z h0 r0 "com/example/gate_per_key/gateperkey/model/Decision" "remaining" "J" (.long u_remaining)) (F_resetMillis : Fld Z h0 r0 "com/example/gate_per_key/gateperkey/model/Decision" "resetMillis" "J" (.long u_resetMillis)) (F_failedOpen : Fld Z h0 r0 "com/example/gate_per_key/gateperkey/model/Decision" "failedOpen" "Z" (.int u_failedOpen)) :
    MetFree l (⟨"com/example/gate_per_key/gateperkey/model/Decision", "waitMillis", "()J"⟩ : MethodName) (head1 (Jvm.Cond.code (⟨"com/example/gate_per_key/gateperkey/model/Decision", "waitMillis", "()J"⟩ : MethodName) prog_14_method_3_code 1 (some .long) :: ws) ({ frames := 0, cells := 0, slots := 0, locals := 0 } : Room)) (fun a U => a = #[(.ref r0)] ∧ Z.Warmed39 U.vm ∧ U.heap = h0) (fun _ _ _ _ _ => True) (fun _ U o U' => ∃ v L, o = .returned v ∧ Q4 Z r0 u_allowed u_remaining u_resetMillis u_failedOpen h0 n0 v U'.heap L ∧ FrameEnd U o U' L ({ frames := 0, cells := 0, slots := 0, locals := 0 } : Room).cells ({ frames := 0, cells := 0, slots := 0, locals := 0 } : Room).slots) := by
  refine MetFree.of_bodySF (plainFor_of_name pn_1) hisR ?_
  intro p e s m args below meth c s₁ Bd hml0 hP hK
  obtain ⟨rfl, hZ, hh⟩ := hP
  have hx := Bd.exec
  have hby := Bd.bytes
  have hml : c.maxLocals = 1 := hml0
  have hown : s.vm.findClass "com/example/gate_per_key/gateperkey/model/Decision" = some m.cls := findClass_of_methodNamed Bd.named
  have hnm := (name_of_methodNamed Bd.named Bd.method).1
  have X0 : Stand p l e ({ frames := 0, cells := 0, slots := 0, locals := 0 } : Room) s m #[(.ref r0)] below meth c s₁ [] 0 0 := Stand.of_body Bd
  have e0 : s₁.heap = h0 := by rw [← hh, Bd.state]; rfl
  have N0 := Fr.nil n0
  have pre0 : own_Go p e below (s₁.setTop (entryFrame m #[(.ref r0)] 1)) (s₁.setTop (mkF m 0 #[.val (.ref r0)] [])) := fun t k => castTop (ef_4 m r0) k
  have k1 : own_Go p e below (s₁.setTop (entryFrame m #[(.ref r0)] 1)) (s₁.setTop (mkF m 1 #[.val (.ref r0)] [(.ref r0)])) := by
    intro t k
    refine pre0 t ?_
    show Steps p.tables e below (s₁.setTop (mkF m 0 #[.val (.ref r0)] [])) t
    refine XS.aloadN X0.here hx rfl (hb hby d4_0) rfl rfl ?_
    exact k
  obtain ⟨T2, X2, e2, st2⟩ := getF X0 hx hZ hown (host := "") (Or.inl (hw _ (List.mem_of_getElem? (i := 14) rfl))) Via.refl e0 F_allowed (g := (mkF m 1 #[.val (.ref r0)] [(.ref r0)])) rfl rfl (hb hby d4_1)
  have k3 : own_Go p e below (s₁.setTop (entryFrame m #[(.ref r0)] 1)) (T2.setTop (mkF m 4 #[.val (.ref r0)] [(.int u_allowed)])) := fun t k => k1 t (st2 t k)
  by_cases hc4_4 : u_allowed = (0 : Int32)
  · have k5 : own_Go p e below (s₁.setTop (entryFrame m #[(.ref r0)] 1)) (T2.setTop (mkF m 12 #[.val (.ref r0)] [(.ref r0)])) := by
      intro t k
      refine k3 t ?_
      show Steps p.tables e below (T2.setTop (mkF m 4 #[.val (.ref r0)] [(.int u_allowed)])) t
      refine XS.ifYes X2.here hx rfl (pc0 := 4) (pc' := 11) rfl (hb hby d4_4) rfl ((if0 _ _).trans (teq hc4_4).1) (by decide) (by decide) ?_
      show Steps p.tables e below (T2.setTop (mkF m 11 #[.val (.ref r0)] [])) t
      refine XS.aloadN X2.here hx rfl (hb hby d4_11) rfl rfl ?_
      exact k
    obtain ⟨T6, X6, e6, st6⟩ := getF X2 hx hZ hown (host := "") (Or.inl (hw _ (List.mem_of_getElem? (i := 18) rfl))) Via.refl e2 F_resetMillis (g := (mkF m 12 #[.val (.ref r0)] [(.ref r0)])) rfl rfl (hb hby d4_12)
    have k7 : own_Go p e below (s₁.setTop (entryFrame m #[(.ref r0)] 1)) (T6.setTop (mkF m 15 #[.val (.ref r0)] [(.long u_resetMillis)])) := fun t k => k5 t (st6 t k)
    obtain ⟨fs, hr, hrun, hended, hW, hsame⟩ := X6.leave (v := some (.long u_resetMillis)) (fun h => by rw [Bd.returns] at h; cases h)
    refine ⟨_, _, k7 _ ?_, hrun, hended, _, _, rfl, ?_, ⟨_, rfl⟩, hW, hsame.mono (by decide) (by decide)⟩
    · jvm_step X6.here [X6.here.top, hx, (hb hby d4_15), X6.method', Bd.returns, narrow]
      first | (intro acts; rw [hr _ acts rfl rfl rfl]) | rw [hr _ _ rfl rfl rfl]
      exact Steps.refl _
    · show Q4 Z r0 u_allowed u_remaining u_resetMillis u_failedOpen h0 n0 _ T6.heap _
      rw [e6]
      exact ⟨congrArg (fun z => some (Value.long z)) (show f4 u_allowed u_remaining u_resetMillis u_failedOpen = u_resetMillis from (by unfold f4; rw [if_pos hc4_4])).symm, N0, rfl⟩
  · have k8 : own_Go p e below (s₁.setTop (entryFrame m #[(.ref r0)] 1)) (T2.setTop (mkF m 15 #[.val (.ref r0)] [(.long (0 : Int64))])) := by
      intro t k
      refine k3 t ?_
      show Steps p.tables e below (T2.setTop (mkF m 4 #[.val (.ref r0)] [(.int u_allowed)])) t
      refine XS.ifNo X2.here hx rfl (hb hby d4_4) rfl ((if0 _ _).trans (feq hc4_4).1) ?_
      show Steps p.tables e below (T2.setTop (mkF m 7 #[.val (.ref r0)] [])) t
      refine XS.lconst X2.here hx rfl (hb hby d4_7) ?_
      show Steps p.tables e below (T2.setTop (mkF m 8 #[.val (.ref r0)] [(.long (0 : Int64))])) t
      refine XS.goto X2.here hx rfl (pc0 := 8) (pc' := 15) rfl (hb hby d4_8) (by decide) (by decide) ?_
      exact k
    obtain ⟨fs, hr, hrun, hended, hW, hsame⟩ := X2.leave (v := some (.long (0 : Int64))) (fun h => by rw [Bd.returns] at h; cases h)
    refine ⟨_, _, k8 _ ?_, hrun, hended, _, _, rfl, ?_, ⟨_, rfl⟩, hW, hsame.mono (by decide) (by decide)⟩
    · jvm_step X2.here [X2.here.top, hx, (hb hby d4_15), X2.method', Bd.returns, narrow]
      first | (intro acts; rw [hr _ acts rfl rfl rfl]) | rw [hr _ _ rfl rfl rfl]
      exact Steps.refl _
    · show Q4 Z r0 u_allowed u_remaining u_resetMillis u_failedOpen h0 n0 _ T2.heap _
      rw [e2]
      exact ⟨congrArg (fun z => some (Value.long z)) (show f4 u_allowed u_remaining u_resetMillis u_failedOpen = (0 : Int64) from (by unfold f4; rw [if_neg hc4_4])).symm, N0, rfl⟩
theorem d5_0 : decode prog_14_method_13_code 0 = .ok (.aload_n 0, 1) := by decide +kernel
theorem d5_1 : decode prog_14_method_13_code 1 = .ok (.getfield 17, 3) := by decide +kernel
theorem d5_4 : decode prog_14_method_13_code 4 = .ok (.lreturn, 1) := by decide +kernel
theorem ef_5 (m : MethodId) (r0 : Addr) : entryFrame m #[(.ref r0)] 1 = mkF m 0 #[.val (.ref r0)] [] := by first | (simp [entryFrame, mkF, argsToLocals, Value.category]; done) | rfl
def f5 (u_allowed : Int32) (u_remaining : Int64) (u_resetMillis : Int64) (u_failedOpen : Int32) : Int64 := u_resetMillis
def Q5 (Z : State) (r0 : Addr) (u_allowed : Int32) (u_remaining : Int64) (u_resetMillis : Int64) (u_failedOpen : Int32) (h0 : Heap) (n0 : Nat) (v : Option Value) (h : Heap) (L : List Loc) : Prop := v = some (.long (f5 u_allowed u_remaining u_resetMillis u_failedOpen)) ∧ Fr n0 L ∧ h = h0
set_option maxRecDepth 65536 in
set_option maxHeartbeats 40000000 in
theorem rm5 (l : Launch) (Z : State) (a0 : Array Value) (hw : ∀ d ∈ tables_1, d.before a0 Z = true) (ws : List Jvm.Cond) (r0 : Addr) (u_allowed : Int32) (u_remaining : Int64) (u_resetMillis : Int64) (u_failedOpen : Int32) (h0 : Heap) (n0 : Nat) (Z0 : n0 ≤ h0.size) (E_r0 : Exa Z h0 r0 "com/example/gate_per_key/gateperkey/model/Decision") (F_allowed : Fld Z h0 r0 "com/example/gate_per_key/gateperkey/model/Decision" "allowed" "Z" (.int u_allowed)) (F_remaining : Fld Z h0 r0 "com/example/gate_per_key/gateperkey/model/Decision" "remaining" "J" (.long u_remaining)) (F_resetMillis : Fld Z h0 r0 "com/example/gate_per_key/gateperkey/model/Decision" "resetMillis" "J" (.long u_resetMillis)) (F_failedOpen : Fld Z h0 r0 "com/example/gate_per_key/gateperkey/model/Decision" "failedOpen" "Z" (.int u_failedOpen)) :
    MetFree l (⟨"com/example/gate_per_key/gateperkey/model/Decision", "resetMillis", "()J"⟩ : MethodName) (head1 (Jvm.Cond.code (⟨"com/example/gate_per_key/gateperkey/model/Decision", "resetMillis", "()J"⟩ : MethodName) prog_14_method_13_code 1 (some .long) :: ws) ({ frames := 0, cells := 0, slots := 0, locals := 0 } : Room)) (fun a U => a = #[(.ref r0)] ∧ Z.Warmed39 U.vm ∧ U.heap = h0) (fun _ _ _ _ _ => True) (fun _ U o U' => ∃ v L, o = .returned v ∧ Q5 Z r0 u_allowed u_remaining u_resetMillis u_failedOpen h0 n0 v U'.heap L ∧ FrameEnd U o U' L ({ frames := 0, cells := 0, slots := 0, locals := 0 } : Room).cells ({ frames := 0, cells := 0, slots := 0, locals := 0 } : Room).slots) := by
  refine MetFree.of_bodySF (plainFor_of_name pn_1) hisR ?_
  intro p e s m args below meth c s₁ Bd hml0 hP hK
  obtain ⟨rfl, hZ, hh⟩ := hP
  have hx := Bd.exec
  have hby := Bd.bytes
  have hml : c.maxLocals = 1 := hml0
  have hown : s.vm.findClass "com/example/gate_per_key/gateperkey/model/Decision" = some m.cls := findClass_of_methodNamed Bd.named
  have hnm := (name_of_methodNamed Bd.named Bd.method).1
  have X0 : Stand p l e ({ frames := 0, cells := 0, slots := 0, locals := 0 } : Room) s m #[(.ref r0)] below meth c s₁ [] 0 0 := Stand.of_body Bd
  have e0 : s₁.heap = h0 := by rw [← hh, Bd.state]; rfl
  have N0 := Fr.nil n0
  have pre0 : own_Go p e below (s₁.setTop (entryFrame m #[(.ref r0)] 1)) (s₁.setTop (mkF m 0 #[.val (.ref r0)] [])) := fun t k => castTop (ef_5 m r0) k
  have k1 : own_Go p e below (s₁.setTop (entryFrame m #[(.ref r0)] 1)) (s₁.setTop (mkF m 1 #[.val (.ref r0)] [(.ref r0)])) := by
    intro t k
    refine pre0 t ?_
    show Steps p.tables e below (s₁.setTop (mkF m 0 #[.val (.ref r0)] [])) t
    refine XS.aloadN X0.here hx rfl (hb hby d5_0) rfl rfl ?_
    exact k
  obtain ⟨T2, X2, e2, st2⟩ := getF X0 hx hZ hown (host := "") (Or.inl (hw _ (List.mem_of_getElem? (i := 18) rfl))) Via.refl e0 F_resetMillis (g := (mkF m 1 #[.val (.ref r0)] [(.ref r0)])) rfl rfl (hb hby d5_1)
  have k3 : own_Go p e below (s₁.setTop (entryFrame m #[(.ref r0)] 1)) (T2.setTop (mkF m 4 #[.val (.ref r0)] [(.long u_resetMillis)])) := fun t k => k1 t (st2 t k)
  obtain ⟨fs, hr, hrun, hended, hW, hsame⟩ := X2.leave (v := some (.long u_resetMillis)) (fun h => by rw [Bd.returns] at h; cases h)
  refine ⟨_, _, k3 _ ?_, hrun, hended, _, _, rfl, ?_, ⟨_, rfl⟩, hW, hsame.mono (by decide) (by decide)⟩
  · jvm_step X2.here [X2.here.top, hx, (hb hby d5_4), X2.method', Bd.returns, narrow]
    first | (intro acts; rw [hr _ acts rfl rfl rfl]) | rw [hr _ _ rfl rfl rfl]
    exact Steps.refl _
  · show Q5 Z r0 u_allowed u_remaining u_resetMillis u_failedOpen h0 n0 _ T2.heap _
    rw [e2]
    exact ⟨congrArg (fun z => some (Value.long z)) (show f5 u_allowed u_remaining u_resetMillis u_failedOpen = u_resetMillis from (by unfold f5; rfl)).symm, N0, rfl⟩
theorem pn_2 : plainName "com/example/gate_per_key/gateperkey/model/DecisionWaitMillisPinLaw" = true := by first | (simp [plainName, overriddenIn]; done) | decide +kernel
theorem pd_1 : parseMethodDescriptor "(ZJJZ)V" = some ⟨[.boolean, .long, .long, .boolean], none⟩ := by decide +kernel
theorem pd_2 : parseMethodDescriptor "()J" = some ⟨[], some .long⟩ := by decide +kernel
theorem ef_0 (m : MethodId) (q0 : Int64) (q1 : Int64) (p2 : Int32) : entryFrame m #[(.long q0), (.long q1), (.int p2)] maxLocals = mkF m 0 #[.val (.long q0), .second, .val (.long q1), .second, .val (.int p2), .unset, .unset, .unset, .unset, .unset] [] := by first | (simp [entryFrame, mkF, argsToLocals, Value.category, maxLocals]; done) | rfl
def m0_12_s0 (p2 : Int32) : Int32 := (if (p2 &&& (1 : Int32)) = (0 : Int32) then (0 : Int32) else (1 : Int32))
def m0_26_s0 (p2 : Int32) : Int32 := (if (p2 &&& (2 : Int32)) = (0 : Int32) then (0 : Int32) else (1 : Int32))
def v0_48 (q0 : Int64) (q1 : Int64) (p2 : Int32) : Int64 := (f4 ((m0_12_s0 p2) &&& 1) q0 q1 ((m0_26_s0 p2) &&& 1))
def f0 (q0 : Int64) (q1 : Int64) (p2 : Int32) : Int32 := (if (m0_12_s0 p2) = (0 : Int32) then (if (lcmpW (v0_48 q0 q1 p2) q1) = (0 : Int32) then (if (lcmpW (v0_48 q0 q1 p2) (f5 ((m0_12_s0 p2) &&& 1) q0 q1 ((m0_26_s0 p2) &&& 1))) = (0 : Int32) then (1 : Int32) else (0 : Int32)) else (0 : Int32)) else (if (lcmpW (v0_48 q0 q1 p2) (0 : Int64)) = (0 : Int32) then (1 : Int32) else (0 : Int32)))
def Q0 (Z : State) (q0 : Int64) (q1 : Int64) (p2 : Int32) (h0 : Heap) (n0 : Nat) (v : Option Value) (h : Heap) (L : List Loc) : Prop := v = some (.int (f0 q0 q1 p2)) ∧ Fr n0 L
set_option maxRecDepth 65536 in
set_option maxHeartbeats 40000000 in
theorem rm0 (l : Launch) (Z : State) (a0 : Array Value) (hw : ∀ d ∈ tables_1, d.before a0 Z = true) (ws : List Jvm.Cond) (q0 : Int64) (q1 : Int64) (p2 : Int32) (h0 : Heap) (n0 : Nat) (Z0 : n0 ≤ h0.size) :
    MetFree l x (head1 (Jvm.Cond.code x code maxLocals ret :: ws) room_1) (fun a U => a = #[(.long q0), (.long q1), (.int p2)] ∧ Z.Warmed39 U.vm ∧ U.heap = h0) (fun _ _ _ _ _ => True) (fun _ U o U' => ∃ v L, o = .returned v ∧ Q0 Z q0 q1 p2 h0 n0 v U'.heap L ∧ FrameEnd U o U' L room_1.cells room_1.slots) := by
  refine MetFree.of_bodySF (plainFor_of_name pn_2) hisR ?_
  intro p e s m args below meth c s₁ Bd hml0 hP hK
  obtain ⟨rfl, hZ, hh⟩ := hP
  have hx := Bd.exec
  have hby := Bd.bytes
  have hml : c.maxLocals = 10 := hml0
  have hown : s.vm.findClass "com/example/gate_per_key/gateperkey/model/DecisionWaitMillisPinLaw" = some m.cls := findClass_of_methodNamed Bd.named
  have hnm := (name_of_methodNamed Bd.named Bd.method).1
  have X0 : Stand p l e room_1 s m #[(.long q0), (.long q1), (.int p2)] below meth c s₁ [] 0 0 := Stand.of_body Bd
  have e0 : s₁.heap = h0 := by rw [← hh, Bd.state]; rfl
  have N0 := Fr.nil n0
  have pre0 : own_Go p e below (s₁.setTop (entryFrame m #[(.long q0), (.long q1), (.int p2)] maxLocals)) (s₁.setTop (mkF m 0 #[.val (.long q0), .second, .val (.long q1), .second, .val (.int p2), .unset, .unset, .unset, .unset, .unset] [])) := fun t k => castTop (ef_0 m q0 q1 p2) k
  have k1 : own_Go p e below (s₁.setTop (entryFrame m #[(.long q0), (.long q1), (.int p2)] maxLocals)) (s₁.setTop (mkF m 4 #[.val (.long q0), .second, .val (.long q1), .second, .val (.int p2), .unset, .unset, .unset, .unset, .unset] [(.int (p2 &&& (1 : Int32)))])) := by
    intro t k
    refine pre0 t ?_
    show Steps p.tables e below (s₁.setTop (mkF m 0 #[.val (.long q0), .second, .val (.long q1), .second, .val (.int p2), .unset, .unset, .unset, .unset, .unset] [])) t
    refine XS.iload X0.here hx rfl (hb hby at_0) rfl ?_
    show Steps p.tables e below (s₁.setTop (mkF m 2 #[.val (.long q0), .second, .val (.long q1), .second, .val (.int p2), .unset, .unset, .unset, .unset, .unset] [(.int p2)])) t
    refine XS.iconst X0.here hx rfl (hb hby at_2) ?_
    show Steps p.tables e below (s₁.setTop (mkF m 3 #[.val (.long q0), .second, .val (.long q1), .second, .val (.int p2), .unset, .unset, .unset, .unset, .unset] [(.int (1 : Int32)), (.int p2)])) t
    refine XS.iand X0.here hx rfl (hb hby at_3) rfl ?_
    exact k
  have k2 : own_Go p e below (s₁.setTop (entryFrame m #[(.long q0), (.long q1), (.int p2)] maxLocals)) (s₁.setTop (mkF m 12 #[.val (.long q0), .second, .val (.long q1), .second, .val (.int p2), .unset, .unset, .unset, .unset, .unset] [(.int (m0_12_s0 p2))])) := by
    by_cases hc4_3 : (p2 &&& (1 : Int32)) = (0 : Int32)
    · have k4 : own_Go p e below (s₁.setTop (entryFrame m #[(.long q0), (.long q1), (.int p2)] maxLocals)) (s₁.setTop (mkF m 12 #[.val (.long q0), .second, .val (.long q1), .second, .val (.int p2), .unset, .unset, .unset, .unset, .unset] [(.int (0 : Int32))])) := by
        intro t k
        refine k1 t ?_
        show Steps p.tables e below (s₁.setTop (mkF m 4 #[.val (.long q0), .second, .val (.long q1), .second, .val (.int p2), .unset, .unset, .unset, .unset, .unset] [(.int (p2 &&& (1 : Int32)))])) t
        refine XS.ifYes X0.here hx rfl (pc0 := 4) (pc' := 11) rfl (hb hby at_4) rfl ((if0 _ _).trans (teq hc4_3).1) (by decide) (by decide) ?_
        show Steps p.tables e below (s₁.setTop (mkF m 11 #[.val (.long q0), .second, .val (.long q1), .second, .val (.int p2), .unset, .unset, .unset, .unset, .unset] [])) t
        refine XS.iconst X0.here hx rfl (hb hby at_11) ?_
        exact k
      exact (by rw [show (m0_12_s0 p2) = (0 : Int32) from (by unfold m0_12_s0; rw [if_pos hc4_3])]; exact k4)
    · have k5 : own_Go p e below (s₁.setTop (entryFrame m #[(.long q0), (.long q1), (.int p2)] maxLocals)) (s₁.setTop (mkF m 12 #[.val (.long q0), .second, .val (.long q1), .second, .val (.int p2), .unset, .unset, .unset, .unset, .unset] [(.int (1 : Int32))])) := by
        intro t k
        refine k1 t ?_
        show Steps p.tables e below (s₁.setTop (mkF m 4 #[.val (.long q0), .second, .val (.long q1), .second, .val (.int p2), .unset, .unset, .unset, .unset, .unset] [(.int (p2 &&& (1 : Int32)))])) t
        refine XS.ifNo X0.here hx rfl (hb hby at_4) rfl ((if0 _ _).trans (feq hc4_3).1) ?_
        show Steps p.tables e below (s₁.setTop (mkF m 7 #[.val (.long q0), .second, .val (.long q1), .second, .val (.int p2), .unset, .unset, .unset, .unset, .unset] [])) t
        refine XS.iconst X0.here hx rfl (hb hby at_7) ?_
        show Steps p.tables e below (s₁.setTop (mkF m 8 #[.val (.long q0), .second, .val (.long q1), .second, .val (.int p2), .unset, .unset, .unset, .unset, .unset] [(.int (1 : Int32))])) t
        refine XS.goto X0.here hx rfl (pc0 := 8) (pc' := 12) rfl (hb hby at_8) (by decide) (by decide) ?_
        exact k
      exact (by rw [show (m0_12_s0 p2) = (1 : Int32) from (by unfold m0_12_s0; rw [if_neg hc4_3])]; exact k5)
  have k6 : own_Go p e below (s₁.setTop (entryFrame m #[(.long q0), (.long q1), (.int p2)] maxLocals)) (s₁.setTop (mkF m 18 #[.val (.long q0), .second, .val (.long q1), .second, .val (.int p2), .val (.int (m0_12_s0 p2)), .unset, .unset, .unset, .unset] [(.int (p2 &&& (2 : Int32)))])) := by
    intro t k
    refine k2 t ?_
    show Steps p.tables e below (s₁.setTop (mkF m 12 #[.val (.long q0), .second, .val (.long q1), .second, .val (.int p2), .unset, .unset, .unset, .unset, .unset] [(.int (m0_12_s0 p2))])) t
    refine XS.istore X0.here hx rfl (hb hby at_12) rfl (l' := #[.val (.long q0), .second, .val (.long q1), .second, .val (.int p2), .val (.int (m0_12_s0 p2)), .unset, .unset, .unset, .unset]) rfl ?_
    show Steps p.tables e below (s₁.setTop (mkF m 14 #[.val (.long q0), .second, .val (.long q1), .second, .val (.int p2), .val (.int (m0_12_s0 p2)), .unset, .unset, .unset, .unset] [])) t
    refine XS.iload X0.here hx rfl (hb hby at_14) rfl ?_
    show Steps p.tables e below (s₁.setTop (mkF m 16 #[.val (.long q0), .second, .val (.long q1), .second, .val (.int p2), .val (.int (m0_12_s0 p2)), .unset, .unset, .unset, .unset] [(.int p2)])) t
    refine XS.iconst X0.here hx rfl (hb hby at_16) ?_
    show Steps p.tables e below (s₁.setTop (mkF m 17 #[.val (.long q0), .second, .val (.long q1), .second, .val (.int p2), .val (.int (m0_12_s0 p2)), .unset, .unset, .unset, .unset] [(.int (2 : Int32)), (.int p2)])) t
    refine XS.iand X0.here hx rfl (hb hby at_17) rfl ?_
    exact k
  have k7 : own_Go p e below (s₁.setTop (entryFrame m #[(.long q0), (.long q1), (.int p2)] maxLocals)) (s₁.setTop (mkF m 26 #[.val (.long q0), .second, .val (.long q1), .second, .val (.int p2), .val (.int (m0_12_s0 p2)), .unset, .unset, .unset, .unset] [(.int (m0_26_s0 p2))])) := by
    by_cases hc18_8 : (p2 &&& (2 : Int32)) = (0 : Int32)
    · have k9 : own_Go p e below (s₁.setTop (entryFrame m #[(.long q0), (.long q1), (.int p2)] maxLocals)) (s₁.setTop (mkF m 26 #[.val (.long q0), .second, .val (.long q1), .second, .val (.int p2), .val (.int (m0_12_s0 p2)), .unset, .unset, .unset, .unset] [(.int (0 : Int32))])) := by
        intro t k
        refine k6 t ?_
        show Steps p.tables e below (s₁.setTop (mkF m 18 #[.val (.long q0), .second, .val (.long q1), .second, .val (.int p2), .val (.int (m0_12_s0 p2)), .unset, .unset, .unset, .unset] [(.int (p2 &&& (2 : Int32)))])) t
        refine XS.ifYes X0.here hx rfl (pc0 := 18) (pc' := 25) rfl (hb hby at_18) rfl ((if0 _ _).trans (teq hc18_8).1) (by decide) (by decide) ?_
        show Steps p.tables e below (s₁.setTop (mkF m 25 #[.val (.long q0), .second, .val (.long q1), .second, .val (.int p2), .val (.int (m0_12_s0 p2)), .unset, .unset, .unset, .unset] [])) t
        refine XS.iconst X0.here hx rfl (hb hby at_25) ?_
        exact k
      exact (by rw [show (m0_26_s0 p2) = (0 : Int32) from (by unfold m0_26_s0; rw [if_pos hc18_8])]; exact k9)
    · have k10 : own_Go p e below (s₁.setTop (entryFrame m #[(.long q0), (.long q1), (.int p2)] maxLocals)) (s₁.setTop (mkF m 26 #[.val (.long q0), .second, .val (.long q1), .second, .val (.int p2), .val (.int (m0_12_s0 p2)), .unset, .unset, .unset, .unset] [(.int (1 : Int32))])) := by
        intro t k
        refine k6 t ?_
        show Steps p.tables e below (s₁.setTop (mkF m 18 #[.val (.long q0), .second, .val (.long q1), .second, .val (.int p2), .val (.int (m0_12_s0 p2)), .unset, .unset, .unset, .unset] [(.int (p2 &&& (2 : Int32)))])) t
        refine XS.ifNo X0.here hx rfl (hb hby at_18) rfl ((if0 _ _).trans (feq hc18_8).1) ?_
        show Steps p.tables e below (s₁.setTop (mkF m 21 #[.val (.long q0), .second, .val (.long q1), .second, .val (.int p2), .val (.int (m0_12_s0 p2)), .unset, .unset, .unset, .unset] [])) t
        refine XS.iconst X0.here hx rfl (hb hby at_21) ?_
        show Steps p.tables e below (s₁.setTop (mkF m 22 #[.val (.long q0), .second, .val (.long q1), .second, .val (.int p2), .val (.int (m0_12_s0 p2)), .unset, .unset, .unset, .unset] [(.int (1 : Int32))])) t
        refine XS.goto X0.here hx rfl (pc0 := 22) (pc' := 26) rfl (hb hby at_22) (by decide) (by decide) ?_
        exact k
      exact (by rw [show (m0_26_s0 p2) = (1 : Int32) from (by unfold m0_26_s0; rw [if_neg hc18_8])]; exact k10)
  have k11 : own_Go p e below (s₁.setTop (entryFrame m #[(.long q0), (.long q1), (.int p2)] maxLocals)) (s₁.setTop (mkF m 28 #[.val (.long q0), .second, .val (.long q1), .second, .val (.int p2), .val (.int (m0_12_s0 p2)), .val (.int (m0_26_s0 p2)), .unset, .unset, .unset] [])) := by
    intro t k
    refine k7 t ?_
    show Steps p.tables e below (s₁.setTop (mkF m 26 #[.val (.long q0), .second, .val (.long q1), .second, .val (.int p2), .val (.int (m0_12_s0 p2)), .unset, .unset, .unset, .unset] [(.int (m0_26_s0 p2))])) t
    refine XS.istore X0.here hx rfl (hb hby at_26) rfl (l' := #[.val (.long q0), .second, .val (.long q1), .second, .val (.int p2), .val (.int (m0_12_s0 p2)), .val (.int (m0_26_s0 p2)), .unset, .unset, .unset]) rfl ?_
    exact k
  obtain ⟨T12, h12, X12, e12, E12, A12, D12, -, st12⟩ := newO X0 hx hZ hown (hw _ (List.mem_of_getElem? (i := 0) rfl)) (hw _ (List.mem_of_getElem? (i := 1) rfl)) (hw _ (List.mem_of_getElem? (i := 2) rfl)) e0 (g := (mkF m 28 #[.val (.long q0), .second, .val (.long q1), .second, .val (.int p2), .val (.int (m0_12_s0 p2)), .val (.int (m0_26_s0 p2)), .unset, .unset, .unset] [])) rfl (hb hby at_28) (by decide) (by decide)
  obtain ⟨b12, g12⟩ : ∃ z, z = h0.size := ⟨_, rfl⟩
  rw [← g12] at A12 D12 st12
  have F_allowed_b12 : Fld Z h12 b12 "com/example/gate_per_key/gateperkey/model/Decision" "allowed" "Z" (.int (0 : Int32)) := D12 (Or.inr (hw _ (List.mem_of_getElem? (i := 15) rfl))) (ty := .boolean) (by decide)
  have F_remaining_b12 : Fld Z h12 b12 "com/example/gate_per_key/gateperkey/model/Decision" "remaining" "J" (.long (0 : Int64)) := D12 (Or.inr (hw _ (List.mem_of_getElem? (i := 17) rfl))) (ty := .long) (by decide)
  have F_resetMillis_b12 : Fld Z h12 b12 "com/example/gate_per_key/gateperkey/model/Decision" "resetMillis" "J" (.long (0 : Int64)) := D12 (Or.inr (hw _ (List.mem_of_getElem? (i := 19) rfl))) (ty := .long) (by decide)
  have F_failedOpen_b12 : Fld Z h12 b12 "com/example/gate_per_key/gateperkey/model/Decision" "failedOpen" "Z" (.int (0 : Int32)) := D12 (Or.inr (hw _ (List.mem_of_getElem? (i := 21) rfl))) (ty := .boolean) (by decide)
  have g_b12 : n0 ≤ b12 := Nat.le_trans Z0 (Nat.le_of_eq g12.symm)
  have k13 : own_Go p e below (s₁.setTop (entryFrame m #[(.long q0), (.long q1), (.int p2)] maxLocals)) (T12.setTop (mkF m 31 #[.val (.long q0), .second, .val (.long q1), .second, .val (.int p2), .val (.int (m0_12_s0 p2)), .val (.int (m0_26_s0 p2)), .unset, .unset, .unset] [(.ref b12)])) := fun t k => k11 t (st12 t k)
  have k14 : own_Go p e below (s₁.setTop (entryFrame m #[(.long q0), (.long q1), (.int p2)] maxLocals)) (T12.setTop (mkF m 38 #[.val (.long q0), .second, .val (.long q1), .second, .val (.int p2), .val (.int (m0_12_s0 p2)), .val (.int (m0_26_s0 p2)), .unset, .unset, .unset] [(.int (m0_26_s0 p2)), (.long q1), (.long q0), (.int (m0_12_s0 p2)), (.ref b12), (.ref b12)])) := by
    intro t k
    refine k13 t ?_
    show Steps p.tables e below (T12.setTop (mkF m 31 #[.val (.long q0), .second, .val (.long q1), .second, .val (.int p2), .val (.int (m0_12_s0 p2)), .val (.int (m0_26_s0 p2)), .unset, .unset, .unset] [(.ref b12)])) t
    refine XS.dup X12.here hx rfl (hb hby at_31) rfl rfl ?_
    show Steps p.tables e below (T12.setTop (mkF m 32 #[.val (.long q0), .second, .val (.long q1), .second, .val (.int p2), .val (.int (m0_12_s0 p2)), .val (.int (m0_26_s0 p2)), .unset, .unset, .unset] [(.ref b12), (.ref b12)])) t
    refine XS.iload X12.here hx rfl (hb hby at_32) rfl ?_
    show Steps p.tables e below (T12.setTop (mkF m 34 #[.val (.long q0), .second, .val (.long q1), .second, .val (.int p2), .val (.int (m0_12_s0 p2)), .val (.int (m0_26_s0 p2)), .unset, .unset, .unset] [(.int (m0_12_s0 p2)), (.ref b12), (.ref b12)])) t
    refine XS.lloadN X12.here hx rfl (hb hby at_34) rfl ?_
    show Steps p.tables e below (T12.setTop (mkF m 35 #[.val (.long q0), .second, .val (.long q1), .second, .val (.int p2), .val (.int (m0_12_s0 p2)), .val (.int (m0_26_s0 p2)), .unset, .unset, .unset] [(.long q0), (.int (m0_12_s0 p2)), (.ref b12), (.ref b12)])) t
    refine XS.lloadN X12.here hx rfl (hb hby at_35) rfl ?_
    show Steps p.tables e below (T12.setTop (mkF m 36 #[.val (.long q0), .second, .val (.long q1), .second, .val (.int p2), .val (.int (m0_12_s0 p2)), .val (.int (m0_26_s0 p2)), .unset, .unset, .unset] [(.long q1), (.long q0), (.int (m0_12_s0 p2)), (.ref b12), (.ref b12)])) t
    refine XS.iload X12.here hx rfl (hb hby at_36) rfl ?_
    exact k
  obtain ⟨_, _, ⟨T15, L15, kk15, n15⟩, -, X15, ⟨Lc15, hQ15, l15, y15, z15⟩, st15⟩ := X12.specialBack hx (y := (⟨"com/example/gate_per_key/gateperkey/model/Decision", "<init>", "(ZJJZ)V"⟩ : MethodName)) rfl hown (mvT hZ (hw _ (List.mem_of_getElem? (i := 3) rfl))) (mvT hZ (hw _ (List.mem_of_getElem? (i := 4) rfl))) (mvT hZ (hw _ (List.mem_of_getElem? (i := 5) rfl))) (by decide) (backOf (W := 1) (rm1 l Z a0 hw [] b12 (m0_12_s0 p2) q0 q1 (m0_26_s0 p2)  h12 n0 (Nat.le_trans Z0 E12.1) g_b12 A12 F_allowed_b12 F_remaining_b12 F_resetMillis_b12 F_failedOpen_b12) hZ (hw _ (List.mem_of_getElem? (i := 5) rfl)) (hw _ (List.mem_of_getElem? (i := 2) rfl)) (by decide) (by decide)) (g := (mkF m 38 #[.val (.long q0), .second, .val (.long q1), .second, .val (.int p2), .val (.int (m0_12_s0 p2)), .val (.int (m0_26_s0 p2)), .unset, .unset, .unset] [(.int (m0_26_s0 p2)), (.long q1), (.long q0), (.int (m0_12_s0 p2)), (.ref b12), (.ref b12)])) rfl (by rw [hml]; rfl) (Steps.refl _) (a := b12) (argsL := [(.int (m0_12_s0 p2)), (.long q0), (.long q1), (.int (m0_26_s0 p2))]) (rest := [(.ref b12)]) (lenOf pd_1 rfl) rfl (by show 2 * 0 + _ ≤ _; exact Nat.le_of_eq rfl) (hb hby at_38) (fun _ _ => ⟨rfl, e12, (by decide : 1 + 0 ≤ _), (by decide : 4 + 0 ≤ _)⟩)
  dsimp only [Pt.U, Pt.locs, Pt.cells, Pt.slots] at X15 l15 y15 z15 st15 hQ15
  subst l15 y15 z15
  obtain ⟨rfl, N15q, Kq15, gE15, gF_allowed15, gF_remaining15, gF_resetMillis15, gF_failedOpen15⟩ := hQ15
  have N15 := Fr.app N0 N15q
  have k16 : own_Go p e below (s₁.setTop (entryFrame m #[(.long q0), (.long q1), (.int p2)] maxLocals)) (T15.setTop (mkF m 41 #[.val (.long q0), .second, .val (.long q1), .second, .val (.int p2), .val (.int (m0_12_s0 p2)), .val (.int (m0_26_s0 p2)), .unset, .unset, .unset] [(.ref b12)])) := fun t k => k14 t (st15.trans k)
  have k17 : own_Go p e below (s₁.setTop (entryFrame m #[(.long q0), (.long q1), (.int p2)] maxLocals)) (T15.setTop (mkF m 45 #[.val (.long q0), .second, .val (.long q1), .second, .val (.int p2), .val (.int (m0_12_s0 p2)), .val (.int (m0_26_s0 p2)), .val (.ref b12), .unset, .unset] [(.ref b12)])) := by
    intro t k
    refine k16 t ?_
    show Steps p.tables e below (T15.setTop (mkF m 41 #[.val (.long q0), .second, .val (.long q1), .second, .val (.int p2), .val (.int (m0_12_s0 p2)), .val (.int (m0_26_s0 p2)), .unset, .unset, .unset] [(.ref b12)])) t
    refine XS.astore X15.here hx rfl (hb hby at_41) rfl rfl (l' := #[.val (.long q0), .second, .val (.long q1), .second, .val (.int p2), .val (.int (m0_12_s0 p2)), .val (.int (m0_26_s0 p2)), .val (.ref b12), .unset, .unset]) rfl ?_
    show Steps p.tables e below (T15.setTop (mkF m 43 #[.val (.long q0), .second, .val (.long q1), .second, .val (.int p2), .val (.int (m0_12_s0 p2)), .val (.int (m0_26_s0 p2)), .val (.ref b12), .unset, .unset] [])) t
    refine XS.aload X15.here hx rfl (hb hby at_43) rfl rfl ?_
    exact k
  obtain ⟨cq18, kq18, q18a, q18b, q18c⟩ := isOf hZ rfl gE15
  obtain ⟨_, _, ⟨T18, L18, kk18, n18⟩, -, X18, ⟨Lc18, hQ18, l18, y18, z18⟩, st18⟩ := X15.virtualBack hx (y := (⟨"com/example/gate_per_key/gateperkey/model/Decision", "waitMillis", "()J"⟩ : MethodName)) (z := (⟨"com/example/gate_per_key/gateperkey/model/Decision", "waitMillis", "()J"⟩ : MethodName)) hown (mvT hZ (hw _ (List.mem_of_getElem? (i := 22) rfl))) (mvT hZ (hw _ (List.mem_of_getElem? (i := 23) rfl))) (notFace_of_selects (args := #[]) (mvT hZ (hw _ (List.mem_of_getElem? (i := 25) rfl)))) (mvT hZ (hw _ (List.mem_of_getElem? (i := 25) rfl))) (mvT hZ (hw _ (List.mem_of_getElem? (i := 24) rfl))) (by decide) (backOf (W := 0) (rm4 l Z a0 hw [] b12 ((m0_12_s0 p2) &&& 1) q0 q1 ((m0_26_s0 p2) &&& 1) T15.heap n0 (Nat.le_trans (Nat.le_trans Z0 E12.1) Kq15.1) gE15 gF_allowed15 gF_remaining15 gF_resetMillis15 gF_failedOpen15) hZ (hw _ (List.mem_of_getElem? (i := 26) rfl)) (hw _ (List.mem_of_getElem? (i := 2) rfl)) (by decide) (by decide)) q18a q18c (g := (mkF m 45 #[.val (.long q0), .second, .val (.long q1), .second, .val (.int p2), .val (.int (m0_12_s0 p2)), .val (.int (m0_26_s0 p2)), .val (.ref b12), .unset, .unset] [(.ref b12)])) rfl (by rw [hml]; rfl) (Steps.refl _) (argsL := []) (rest := []) (lenOf pd_2 rfl) rfl (by show 2 * 0 + _ ≤ _; exact Nat.le_of_eq rfl) (hb hby at_45) (fun _ _ => ⟨rfl, rfl, (by decide : 1 + 0 ≤ _), (by decide : 4 + 0 ≤ _)⟩)
  dsimp only [Pt.U, Pt.locs, Pt.cells, Pt.slots] at X18 l18 y18 z18 st18 hQ18
  subst l18 y18 z18
  obtain ⟨rfl, N18q, eh18⟩ := hQ18
  have N18 := Fr.app N15 N18q
  have k19 : own_Go p e below (s₁.setTop (entryFrame m #[(.long q0), (.long q1), (.int p2)] maxLocals)) (T18.setTop (mkF m 48 #[.val (.long q0), .second, .val (.long q1), .second, .val (.int p2), .val (.int (m0_12_s0 p2)), .val (.int (m0_26_s0 p2)), .val (.ref b12), .unset, .unset] [(.long (f4 ((m0_12_s0 p2) &&& 1) q0 q1 ((m0_26_s0 p2) &&& 1)))])) := fun t k => k17 t (st18.trans k)
  have k20 : own_Go p e below (s₁.setTop (entryFrame m #[(.long q0), (.long q1), (.int p2)] maxLocals)) (T18.setTop (mkF m 52 #[.val (.long q0), .second, .val (.long q1), .second, .val (.int p2), .val (.int (m0_12_s0 p2)), .val (.int (m0_26_s0 p2)), .val (.ref b12), .val (.long (v0_48 q0 q1 p2)), .second] [(.int (m0_12_s0 p2))])) := by
    intro t k
    refine k19 t ?_
    show Steps p.tables e below (T18.setTop (mkF m 48 #[.val (.long q0), .second, .val (.long q1), .second, .val (.int p2), .val (.int (m0_12_s0 p2)), .val (.int (m0_26_s0 p2)), .val (.ref b12), .unset, .unset] [(.long (f4 ((m0_12_s0 p2) &&& 1) q0 q1 ((m0_26_s0 p2) &&& 1)))])) t
    refine XS.lstore X18.here hx rfl (hb hby at_48) rfl (l' := #[.val (.long q0), .second, .val (.long q1), .second, .val (.int p2), .val (.int (m0_12_s0 p2)), .val (.int (m0_26_s0 p2)), .val (.ref b12), .val (.long (v0_48 q0 q1 p2)), .second]) rfl ?_
    show Steps p.tables e below (T18.setTop (mkF m 50 #[.val (.long q0), .second, .val (.long q1), .second, .val (.int p2), .val (.int (m0_12_s0 p2)), .val (.int (m0_26_s0 p2)), .val (.ref b12), .val (.long (v0_48 q0 q1 p2)), .second] [])) t
    refine XS.iload X18.here hx rfl (hb hby at_50) rfl ?_
    exact k
  by_cases hc52_21 : (m0_12_s0 p2) = (0 : Int32)
  · have k22 : own_Go p e below (s₁.setTop (entryFrame m #[(.long q0), (.long q1), (.int p2)] maxLocals)) (T18.setTop (mkF m 72 #[.val (.long q0), .second, .val (.long q1), .second, .val (.int p2), .val (.int (m0_12_s0 p2)), .val (.int (m0_26_s0 p2)), .val (.ref b12), .val (.long (v0_48 q0 q1 p2)), .second] [(.int (lcmpW (v0_48 q0 q1 p2) q1))])) := by
      intro t k
      refine k20 t ?_
      show Steps p.tables e below (T18.setTop (mkF m 52 #[.val (.long q0), .second, .val (.long q1), .second, .val (.int p2), .val (.int (m0_12_s0 p2)), .val (.int (m0_26_s0 p2)), .val (.ref b12), .val (.long (v0_48 q0 q1 p2)), .second] [(.int (m0_12_s0 p2))])) t
      refine XS.ifYes X18.here hx rfl (pc0 := 52) (pc' := 68) rfl (hb hby at_52) rfl ((if0 _ _).trans (teq hc52_21).1) (by decide) (by decide) ?_
      show Steps p.tables e below (T18.setTop (mkF m 68 #[.val (.long q0), .second, .val (.long q1), .second, .val (.int p2), .val (.int (m0_12_s0 p2)), .val (.int (m0_26_s0 p2)), .val (.ref b12), .val (.long (v0_48 q0 q1 p2)), .second] [])) t
      refine XS.lload X18.here hx rfl (hb hby at_68) rfl ?_
      show Steps p.tables e below (T18.setTop (mkF m 70 #[.val (.long q0), .second, .val (.long q1), .second, .val (.int p2), .val (.int (m0_12_s0 p2)), .val (.int (m0_26_s0 p2)), .val (.ref b12), .val (.long (v0_48 q0 q1 p2)), .second] [(.long (v0_48 q0 q1 p2))])) t
      refine XS.lloadN X18.here hx rfl (hb hby at_70) rfl ?_
      show Steps p.tables e below (T18.setTop (mkF m 71 #[.val (.long q0), .second, .val (.long q1), .second, .val (.int p2), .val (.int (m0_12_s0 p2)), .val (.int (m0_26_s0 p2)), .val (.ref b12), .val (.long (v0_48 q0 q1 p2)), .second] [(.long q1), (.long (v0_48 q0 q1 p2))])) t
      refine XS.lcmp X18.here hx rfl (hb hby at_71) rfl ?_
      exact k
    by_cases hc72_23 : (lcmpW (v0_48 q0 q1 p2) q1) = (0 : Int32)
    · have k24 : own_Go p e below (s₁.setTop (entryFrame m #[(.long q0), (.long q1), (.int p2)] maxLocals)) (T18.setTop (mkF m 79 #[.val (.long q0), .second, .val (.long q1), .second, .val (.int p2), .val (.int (m0_12_s0 p2)), .val (.int (m0_26_s0 p2)), .val (.ref b12), .val (.long (v0_48 q0 q1 p2)), .second] [(.ref b12), (.long (v0_48 q0 q1 p2))])) := by
        intro t k
        refine k22 t ?_
        show Steps p.tables e below (T18.setTop (mkF m 72 #[.val (.long q0), .second, .val (.long q1), .second, .val (.int p2), .val (.int (m0_12_s0 p2)), .val (.int (m0_26_s0 p2)), .val (.ref b12), .val (.long (v0_48 q0 q1 p2)), .second] [(.int (lcmpW (v0_48 q0 q1 p2) q1))])) t
        refine XS.ifNo X18.here hx rfl (hb hby at_72) rfl ((if0 _ _).trans (teq hc72_23).2) ?_
        show Steps p.tables e below (T18.setTop (mkF m 75 #[.val (.long q0), .second, .val (.long q1), .second, .val (.int p2), .val (.int (m0_12_s0 p2)), .val (.int (m0_26_s0 p2)), .val (.ref b12), .val (.long (v0_48 q0 q1 p2)), .second] [])) t
        refine XS.lload X18.here hx rfl (hb hby at_75) rfl ?_
        show Steps p.tables e below (T18.setTop (mkF m 77 #[.val (.long q0), .second, .val (.long q1), .second, .val (.int p2), .val (.int (m0_12_s0 p2)), .val (.int (m0_26_s0 p2)), .val (.ref b12), .val (.long (v0_48 q0 q1 p2)), .second] [(.long (v0_48 q0 q1 p2))])) t
        refine XS.aload X18.here hx rfl (hb hby at_77) rfl rfl ?_
        exact k
      obtain ⟨cq25, kq25, q25a, q25b, q25c⟩ := isOf hZ eh18 gE15
      obtain ⟨_, _, ⟨T25, L25, kk25, n25⟩, -, X25, ⟨Lc25, hQ25, l25, y25, z25⟩, st25⟩ := X18.virtualBack hx (y := (⟨"com/example/gate_per_key/gateperkey/model/Decision", "resetMillis", "()J"⟩ : MethodName)) (z := (⟨"com/example/gate_per_key/gateperkey/model/Decision", "resetMillis", "()J"⟩ : MethodName)) hown (mvT hZ (hw _ (List.mem_of_getElem? (i := 27) rfl))) (mvT hZ (hw _ (List.mem_of_getElem? (i := 28) rfl))) (notFace_of_selects (args := #[]) (mvT hZ (hw _ (List.mem_of_getElem? (i := 30) rfl)))) (mvT hZ (hw _ (List.mem_of_getElem? (i := 30) rfl))) (mvT hZ (hw _ (List.mem_of_getElem? (i := 29) rfl))) (by decide) (backOf (W := 2) (rm5 l Z a0 hw [] b12 ((m0_12_s0 p2) &&& 1) q0 q1 ((m0_26_s0 p2) &&& 1) T15.heap n0 (Nat.le_trans (Nat.le_trans Z0 E12.1) Kq15.1) gE15 gF_allowed15 gF_remaining15 gF_resetMillis15 gF_failedOpen15) hZ (hw _ (List.mem_of_getElem? (i := 31) rfl)) (hw _ (List.mem_of_getElem? (i := 2) rfl)) (by decide) (by decide)) q25a q25c (g := (mkF m 79 #[.val (.long q0), .second, .val (.long q1), .second, .val (.int p2), .val (.int (m0_12_s0 p2)), .val (.int (m0_26_s0 p2)), .val (.ref b12), .val (.long (v0_48 q0 q1 p2)), .second] [(.ref b12), (.long (v0_48 q0 q1 p2))])) rfl (by rw [hml]; rfl) (Steps.refl _) (argsL := []) (rest := [(.long (v0_48 q0 q1 p2))]) (lenOf pd_2 rfl) rfl (by show 2 * 0 + _ ≤ _; exact Nat.le_of_eq rfl) (hb hby at_79) (fun _ _ => ⟨rfl, eh18, (by decide : 1 + 0 ≤ _), (by decide : 4 + 0 ≤ _)⟩)
      dsimp only [Pt.U, Pt.locs, Pt.cells, Pt.slots] at X25 l25 y25 z25 st25 hQ25
      subst l25 y25 z25
      obtain ⟨rfl, N25q, eh25⟩ := hQ25
      have N25 := Fr.app N18 N25q
      have k26 : own_Go p e below (s₁.setTop (entryFrame m #[(.long q0), (.long q1), (.int p2)] maxLocals)) (T25.setTop (mkF m 82 #[.val (.long q0), .second, .val (.long q1), .second, .val (.int p2), .val (.int (m0_12_s0 p2)), .val (.int (m0_26_s0 p2)), .val (.ref b12), .val (.long (v0_48 q0 q1 p2)), .second] [(.long (f5 ((m0_12_s0 p2) &&& 1) q0 q1 ((m0_26_s0 p2) &&& 1))), (.long (v0_48 q0 q1 p2))])) := fun t k => k24 t (st25.trans k)
      have k27 : own_Go p e below (s₁.setTop (entryFrame m #[(.long q0), (.long q1), (.int p2)] maxLocals)) (T25.setTop (mkF m 83 #[.val (.long q0), .second, .val (.long q1), .second, .val (.int p2), .val (.int (m0_12_s0 p2)), .val (.int (m0_26_s0 p2)), .val (.ref b12), .val (.long (v0_48 q0 q1 p2)), .second] [(.int (lcmpW (v0_48 q0 q1 p2) (f5 ((m0_12_s0 p2) &&& 1) q0 q1 ((m0_26_s0 p2) &&& 1))))])) := by
        intro t k
        refine k26 t ?_
        show Steps p.tables e below (T25.setTop (mkF m 82 #[.val (.long q0), .second, .val (.long q1), .second, .val (.int p2), .val (.int (m0_12_s0 p2)), .val (.int (m0_26_s0 p2)), .val (.ref b12), .val (.long (v0_48 q0 q1 p2)), .second] [(.long (f5 ((m0_12_s0 p2) &&& 1) q0 q1 ((m0_26_s0 p2) &&& 1))), (.long (v0_48 q0 q1 p2))])) t
        refine XS.lcmp X25.here hx rfl (hb hby at_82) rfl ?_
        exact k
      by_cases hc83_28 : (lcmpW (v0_48 q0 q1 p2) (f5 ((m0_12_s0 p2) &&& 1) q0 q1 ((m0_26_s0 p2) &&& 1))) = (0 : Int32)
      · have k29 : own_Go p e below (s₁.setTop (entryFrame m #[(.long q0), (.long q1), (.int p2)] maxLocals)) (T25.setTop (mkF m 91 #[.val (.long q0), .second, .val (.long q1), .second, .val (.int p2), .val (.int (m0_12_s0 p2)), .val (.int (m0_26_s0 p2)), .val (.ref b12), .val (.long (v0_48 q0 q1 p2)), .second] [(.int (1 : Int32))])) := by
          intro t k
          refine k27 t ?_
          show Steps p.tables e below (T25.setTop (mkF m 83 #[.val (.long q0), .second, .val (.long q1), .second, .val (.int p2), .val (.int (m0_12_s0 p2)), .val (.int (m0_26_s0 p2)), .val (.ref b12), .val (.long (v0_48 q0 q1 p2)), .second] [(.int (lcmpW (v0_48 q0 q1 p2) (f5 ((m0_12_s0 p2) &&& 1) q0 q1 ((m0_26_s0 p2) &&& 1))))])) t
          refine XS.ifNo X25.here hx rfl (hb hby at_83) rfl ((if0 _ _).trans (teq hc83_28).2) ?_
          show Steps p.tables e below (T25.setTop (mkF m 86 #[.val (.long q0), .second, .val (.long q1), .second, .val (.int p2), .val (.int (m0_12_s0 p2)), .val (.int (m0_26_s0 p2)), .val (.ref b12), .val (.long (v0_48 q0 q1 p2)), .second] [])) t
          refine XS.iconst X25.here hx rfl (hb hby at_86) ?_
          show Steps p.tables e below (T25.setTop (mkF m 87 #[.val (.long q0), .second, .val (.long q1), .second, .val (.int p2), .val (.int (m0_12_s0 p2)), .val (.int (m0_26_s0 p2)), .val (.ref b12), .val (.long (v0_48 q0 q1 p2)), .second] [(.int (1 : Int32))])) t
          refine XS.goto X25.here hx rfl (pc0 := 87) (pc' := 91) rfl (hb hby at_87) (by decide) (by decide) ?_
          exact k
        obtain ⟨fs, hr, hrun, hended, hW, hsame⟩ := X25.leave (v := some (.int (1 : Int32))) (fun h => by rw [Bd.returns] at h; cases h)
        refine ⟨_, _, k29 _ ?_, hrun, hended, _, _, rfl, ?_, ⟨_, rfl⟩, hW, hsame.mono (by decide) (by decide)⟩
        · exact retN X25 hx (t := .boolean) Bd.returns (by simp) (hb hby at_91) hr
        · show Q0 Z q0 q1 p2 h0 n0 _ T25.heap _
          rw [eh25]
          exact ⟨congrArg (fun z => some (Value.int z)) (show f0 q0 q1 p2 = (1 : Int32) from (by unfold f0; rw [if_pos hc52_21, if_pos hc72_23, if_pos hc83_28])).symm, N25⟩
      · have k30 : own_Go p e below (s₁.setTop (entryFrame m #[(.long q0), (.long q1), (.int p2)] maxLocals)) (T25.setTop (mkF m 91 #[.val (.long q0), .second, .val (.long q1), .second, .val (.int p2), .val (.int (m0_12_s0 p2)), .val (.int (m0_26_s0 p2)), .val (.ref b12), .val (.long (v0_48 q0 q1 p2)), .second] [(.int (0 : Int32))])) := by
          intro t k
          refine k27 t ?_
          show Steps p.tables e below (T25.setTop (mkF m 83 #[.val (.long q0), .second, .val (.long q1), .second, .val (.int p2), .val (.int (m0_12_s0 p2)), .val (.int (m0_26_s0 p2)), .val (.ref b12), .val (.long (v0_48 q0 q1 p2)), .second] [(.int (lcmpW (v0_48 q0 q1 p2) (f5 ((m0_12_s0 p2) &&& 1) q0 q1 ((m0_26_s0 p2) &&& 1))))])) t
          refine XS.ifYes X25.here hx rfl (pc0 := 83) (pc' := 90) rfl (hb hby at_83) rfl ((if0 _ _).trans (feq hc83_28).2) (by decide) (by decide) ?_
          show Steps p.tables e below (T25.setTop (mkF m 90 #[.val (.long q0), .second, .val (.long q1), .second, .val (.int p2), .val (.int (m0_12_s0 p2)), .val (.int (m0_26_s0 p2)), .val (.ref b12), .val (.long (v0_48 q0 q1 p2)), .second] [])) t
          refine XS.iconst X25.here hx rfl (hb hby at_90) ?_
          exact k
        obtain ⟨fs, hr, hrun, hended, hW, hsame⟩ := X25.leave (v := some (.int (0 : Int32))) (fun h => by rw [Bd.returns] at h; cases h)
        refine ⟨_, _, k30 _ ?_, hrun, hended, _, _, rfl, ?_, ⟨_, rfl⟩, hW, hsame.mono (by decide) (by decide)⟩
        · exact retN X25 hx (t := .boolean) Bd.returns (by simp) (hb hby at_91) hr
        · show Q0 Z q0 q1 p2 h0 n0 _ T25.heap _
          rw [eh25]
          exact ⟨congrArg (fun z => some (Value.int z)) (show f0 q0 q1 p2 = (0 : Int32) from (by unfold f0; rw [if_pos hc52_21, if_pos hc72_23, if_neg hc83_28])).symm, N25⟩
    · have k31 : own_Go p e below (s₁.setTop (entryFrame m #[(.long q0), (.long q1), (.int p2)] maxLocals)) (T18.setTop (mkF m 91 #[.val (.long q0), .second, .val (.long q1), .second, .val (.int p2), .val (.int (m0_12_s0 p2)), .val (.int (m0_26_s0 p2)), .val (.ref b12), .val (.long (v0_48 q0 q1 p2)), .second] [(.int (0 : Int32))])) := by
        intro t k
        refine k22 t ?_
        show Steps p.tables e below (T18.setTop (mkF m 72 #[.val (.long q0), .second, .val (.long q1), .second, .val (.int p2), .val (.int (m0_12_s0 p2)), .val (.int (m0_26_s0 p2)), .val (.ref b12), .val (.long (v0_48 q0 q1 p2)), .second] [(.int (lcmpW (v0_48 q0 q1 p2) q1))])) t
        refine XS.ifYes X18.here hx rfl (pc0 := 72) (pc' := 90) rfl (hb hby at_72) rfl ((if0 _ _).trans (feq hc72_23).2) (by decide) (by decide) ?_
        show Steps p.tables e below (T18.setTop (mkF m 90 #[.val (.long q0), .second, .val (.long q1), .second, .val (.int p2), .val (.int (m0_12_s0 p2)), .val (.int (m0_26_s0 p2)), .val (.ref b12), .val (.long (v0_48 q0 q1 p2)), .second] [])) t
        refine XS.iconst X18.here hx rfl (hb hby at_90) ?_
        exact k
      obtain ⟨fs, hr, hrun, hended, hW, hsame⟩ := X18.leave (v := some (.int (0 : Int32))) (fun h => by rw [Bd.returns] at h; cases h)
      refine ⟨_, _, k31 _ ?_, hrun, hended, _, _, rfl, ?_, ⟨_, rfl⟩, hW, hsame.mono (by decide) (by decide)⟩
      · exact retN X18 hx (t := .boolean) Bd.returns (by simp) (hb hby at_91) hr
      · show Q0 Z q0 q1 p2 h0 n0 _ T18.heap _
        rw [eh18]
        exact ⟨congrArg (fun z => some (Value.int z)) (show f0 q0 q1 p2 = (0 : Int32) from (by unfold f0; rw [if_pos hc52_21, if_neg hc72_23])).symm, N18⟩
  · have k32 : own_Go p e below (s₁.setTop (entryFrame m #[(.long q0), (.long q1), (.int p2)] maxLocals)) (T18.setTop (mkF m 59 #[.val (.long q0), .second, .val (.long q1), .second, .val (.int p2), .val (.int (m0_12_s0 p2)), .val (.int (m0_26_s0 p2)), .val (.ref b12), .val (.long (v0_48 q0 q1 p2)), .second] [(.int (lcmpW (v0_48 q0 q1 p2) (0 : Int64)))])) := by
      intro t k
      refine k20 t ?_
      show Steps p.tables e below (T18.setTop (mkF m 52 #[.val (.long q0), .second, .val (.long q1), .second, .val (.int p2), .val (.int (m0_12_s0 p2)), .val (.int (m0_26_s0 p2)), .val (.ref b12), .val (.long (v0_48 q0 q1 p2)), .second] [(.int (m0_12_s0 p2))])) t
      refine XS.ifNo X18.here hx rfl (hb hby at_52) rfl ((if0 _ _).trans (feq hc52_21).1) ?_
      show Steps p.tables e below (T18.setTop (mkF m 55 #[.val (.long q0), .second, .val (.long q1), .second, .val (.int p2), .val (.int (m0_12_s0 p2)), .val (.int (m0_26_s0 p2)), .val (.ref b12), .val (.long (v0_48 q0 q1 p2)), .second] [])) t
      refine XS.lload X18.here hx rfl (hb hby at_55) rfl ?_
      show Steps p.tables e below (T18.setTop (mkF m 57 #[.val (.long q0), .second, .val (.long q1), .second, .val (.int p2), .val (.int (m0_12_s0 p2)), .val (.int (m0_26_s0 p2)), .val (.ref b12), .val (.long (v0_48 q0 q1 p2)), .second] [(.long (v0_48 q0 q1 p2))])) t
      refine XS.lconst X18.here hx rfl (hb hby at_57) ?_
      show Steps p.tables e below (T18.setTop (mkF m 58 #[.val (.long q0), .second, .val (.long q1), .second, .val (.int p2), .val (.int (m0_12_s0 p2)), .val (.int (m0_26_s0 p2)), .val (.ref b12), .val (.long (v0_48 q0 q1 p2)), .second] [(.long (0 : Int64)), (.long (v0_48 q0 q1 p2))])) t
      refine XS.lcmp X18.here hx rfl (hb hby at_58) rfl ?_
      exact k
    by_cases hc59_33 : (lcmpW (v0_48 q0 q1 p2) (0 : Int64)) = (0 : Int32)
    · have k34 : own_Go p e below (s₁.setTop (entryFrame m #[(.long q0), (.long q1), (.int p2)] maxLocals)) (T18.setTop (mkF m 67 #[.val (.long q0), .second, .val (.long q1), .second, .val (.int p2), .val (.int (m0_12_s0 p2)), .val (.int (m0_26_s0 p2)), .val (.ref b12), .val (.long (v0_48 q0 q1 p2)), .second] [(.int (1 : Int32))])) := by
        intro t k
        refine k32 t ?_
        show Steps p.tables e below (T18.setTop (mkF m 59 #[.val (.long q0), .second, .val (.long q1), .second, .val (.int p2), .val (.int (m0_12_s0 p2)), .val (.int (m0_26_s0 p2)), .val (.ref b12), .val (.long (v0_48 q0 q1 p2)), .second] [(.int (lcmpW (v0_48 q0 q1 p2) (0 : Int64)))])) t
        refine XS.ifNo X18.here hx rfl (hb hby at_59) rfl ((if0 _ _).trans (teq hc59_33).2) ?_
        show Steps p.tables e below (T18.setTop (mkF m 62 #[.val (.long q0), .second, .val (.long q1), .second, .val (.int p2), .val (.int (m0_12_s0 p2)), .val (.int (m0_26_s0 p2)), .val (.ref b12), .val (.long (v0_48 q0 q1 p2)), .second] [])) t
        refine XS.iconst X18.here hx rfl (hb hby at_62) ?_
        show Steps p.tables e below (T18.setTop (mkF m 63 #[.val (.long q0), .second, .val (.long q1), .second, .val (.int p2), .val (.int (m0_12_s0 p2)), .val (.int (m0_26_s0 p2)), .val (.ref b12), .val (.long (v0_48 q0 q1 p2)), .second] [(.int (1 : Int32))])) t
        refine XS.goto X18.here hx rfl (pc0 := 63) (pc' := 67) rfl (hb hby at_63) (by decide) (by decide) ?_
        exact k
      obtain ⟨fs, hr, hrun, hended, hW, hsame⟩ := X18.leave (v := some (.int (1 : Int32))) (fun h => by rw [Bd.returns] at h; cases h)
      refine ⟨_, _, k34 _ ?_, hrun, hended, _, _, rfl, ?_, ⟨_, rfl⟩, hW, hsame.mono (by decide) (by decide)⟩
      · exact retN X18 hx (t := .boolean) Bd.returns (by simp) (hb hby at_67) hr
      · show Q0 Z q0 q1 p2 h0 n0 _ T18.heap _
        rw [eh18]
        exact ⟨congrArg (fun z => some (Value.int z)) (show f0 q0 q1 p2 = (1 : Int32) from (by unfold f0; rw [if_neg hc52_21, if_pos hc59_33])).symm, N18⟩
    · have k35 : own_Go p e below (s₁.setTop (entryFrame m #[(.long q0), (.long q1), (.int p2)] maxLocals)) (T18.setTop (mkF m 67 #[.val (.long q0), .second, .val (.long q1), .second, .val (.int p2), .val (.int (m0_12_s0 p2)), .val (.int (m0_26_s0 p2)), .val (.ref b12), .val (.long (v0_48 q0 q1 p2)), .second] [(.int (0 : Int32))])) := by
        intro t k
        refine k32 t ?_
        show Steps p.tables e below (T18.setTop (mkF m 59 #[.val (.long q0), .second, .val (.long q1), .second, .val (.int p2), .val (.int (m0_12_s0 p2)), .val (.int (m0_26_s0 p2)), .val (.ref b12), .val (.long (v0_48 q0 q1 p2)), .second] [(.int (lcmpW (v0_48 q0 q1 p2) (0 : Int64)))])) t
        refine XS.ifYes X18.here hx rfl (pc0 := 59) (pc' := 66) rfl (hb hby at_59) rfl ((if0 _ _).trans (feq hc59_33).2) (by decide) (by decide) ?_
        show Steps p.tables e below (T18.setTop (mkF m 66 #[.val (.long q0), .second, .val (.long q1), .second, .val (.int p2), .val (.int (m0_12_s0 p2)), .val (.int (m0_26_s0 p2)), .val (.ref b12), .val (.long (v0_48 q0 q1 p2)), .second] [])) t
        refine XS.iconst X18.here hx rfl (hb hby at_66) ?_
        exact k
      obtain ⟨fs, hr, hrun, hended, hW, hsame⟩ := X18.leave (v := some (.int (0 : Int32))) (fun h => by rw [Bd.returns] at h; cases h)
      refine ⟨_, _, k35 _ ?_, hrun, hended, _, _, rfl, ?_, ⟨_, rfl⟩, hW, hsame.mono (by decide) (by decide)⟩
      · exact retN X18 hx (t := .boolean) Bd.returns (by simp) (hb hby at_67) hr
      · show Q0 Z q0 q1 p2 h0 n0 _ T18.heap _
        rw [eh18]
        exact ⟨congrArg (fun z => some (Value.int z)) (show f0 q0 q1 p2 = (0 : Int32) from (by unfold f0; rw [if_neg hc52_21, if_neg hc59_33])).symm, N18⟩
theorem own_lc (x : Int64) : lcmpW x x = 0 := by
  unfold lcmpW
  rw [if_neg (fun h => Int64.lt_irrefl h), if_pos rfl]
theorem own_law (q0 q1 : Int64) (p2 : Int32) : f0 q0 q1 p2 = 1 := by
  by_cases h : p2 &&& 1 = 0
  · have e : m0_12_s0 p2 = 0 := by unfold m0_12_s0; rw [if_pos h]
    have e2 : v0_48 q0 q1 p2 = q1 := by unfold v0_48 f4; rw [e, if_pos (by decide)]
    unfold f0 f5
    rw [e2, if_pos e, own_lc, if_pos rfl, if_pos rfl]
  · have e : m0_12_s0 p2 = 1 := by unfold m0_12_s0; rw [if_neg h]
    have e2 : v0_48 q0 q1 p2 = 0 := by unfold v0_48 f4; rw [e, if_neg (by decide)]
    unfold f0
    rw [e2, e, if_neg (by decide), own_lc, if_pos rfl]

set_option maxRecDepth 65536 in
set_option maxHeartbeats 40000000 in
theorem comes_1 {Post : Tables → Env → Array Value → State → Outcome → State → Prop} (hpost : ∀ tb e args s v u, (limb_1_1.after args s (.returned v) u = true ∧ limb_1_2.after args s (.returned v) u = true ∧ True) → FrameEnd s (.returned v) u (Jvm.fieldLocs frame_1_writes args s ++ Jvm.arrayLocs frame_1_arrays args s ++ Jvm.staticLocs frame_1_statics s) 16 128 → Post tb e args s (.returned v) u) :
    ArmFor flags0 classFile x code maxLocals ret World_1 tables_1 room_1 Calls_1 rest_1 Pre_1 Post := by
  intro l hfl _ _ p e ha hc hk s m args below hf hA hF happ hP
  obtain ⟨hcalls, hrest, hpre⟩ := hP
  obtain ⟨-, -, -, hnamed, -, -, -, hat⟩ := (Spec.applies_iff hf).mp happ
  obtain ⟨hg, hn⟩ := and_e (Cond.before_iff.mp (show (Jvm.Cond.and given_1 narrow_1).before args s = true from hpre))
  obtain ⟨u1, u2⟩ := and_e hg
  obtain ⟨u3, u4⟩ := and_e u2
  obtain ⟨u5, u6⟩ := and_e u4
  obtain ⟨w0, w1, w2, rfl⟩ : ∃ w0 w1 w2 : Value, args = #[w0, w1, w2] := by
    have hs : args.size = 3 := by simpa [Cond.value, given_1] using u1
    obtain ⟨L⟩ := args
    match L, hs with
    | [w0, w1, w2], _ => exact ⟨w0, w1, w2, rfl⟩
  have hw := fun d (hd : d ∈ tables_1) => atoms_spec (ws := Jvm.Cond.code x code maxLocals ret :: tables_1) hat d (List.mem_cons_of_mem _ hd)
  have hfit : Fit s := fun {y c} hc i hi => by
    obtain ⟨ha, rfl⟩ := Array.getElem?_eq_some_iff.mp hc
    have q := List.all_eq_true.mp ((Array.all_eq_true_iff_forall_mem.mp hF) _ (Array.getElem_mem ha)) i (List.mem_range.mpr hi)
    simpa [Array.getElem?_eq_getElem hi] using q
  obtain ⟨i0, ei0⟩ := isL_v u3
  obtain rfl : w0 = (.long i0) := Option.some.inj ei0
  obtain ⟨i1, ei1⟩ := isL_v u5
  obtain rfl : w1 = (.long i1) := Option.some.inj ei1
  obtain ⟨i2, ei2⟩ := is_v u6
  obtain rfl : w2 = (.int i2) := Option.some.inj ei2
  obtain ⟨n, o, h1, h2, h3, v, L, rfl, ⟨hv, N⟩, hq⟩ := rm0 l s _ hw tables_1 i0 i1 i2  s.heap s.heap.size (Nat.le_refl _)  p e ha hc hk s m _ below hf ((Spec.applies_iff_loose hf).mp happ).1 ⟨rfl, State.Warmed39.refl s, rfl⟩ trivial
  rw [own_law i0 i1 i2] at hv
  subst hv
  refine ⟨n, _, h1, h2, h3, hpost _ _ _ _ _ _ ⟨Cond.after_iff.mpr rfl, Cond.after_iff.mpr (eq_i res_at (Term.int_eval (1)) rfl), trivial⟩ ⟨hq.1, hq.2.1, (hq.2.2.sift fun y hy => Or.inr (N y hy)).mono (by decide) (by decide)⟩⟩
theorem main_1_1 : Claimed_1_1 := comes_1 fun _ _ _ _ _ _ h hF => ⟨h.1, hF⟩
theorem main_1_2 : Claimed_1_2 := comes_1 fun _ _ _ _ _ _ h hF => ⟨h.2.1, hF⟩
end Jvm.Pilot.@@N@@
namespace Jvm.Pilot.@@N@@
open Jvm Jvm.ClassFile Sem Op Lib Jvm.Free Jvm.Stand Jvm.Pilot.@@N@@.Jvm.D
/-! MADE BY PROGRAM (witnessworld.py) out of the Statement's table words and the real class files: 10 classes; the members and pool entries that the words name. The judged class is class 1, her method 1. -/
namespace start1
open Jvm.ClassFile
def u (s : String) : CpInfo := .utf8 (stringToUtf16 s)
/-- a pool by its gaps: so many unusable entries, then the entry; so many at the end -/
def gap : Nat → List CpInfo → List CpInfo
  | 0, r => r
  | n + 1, r => .unusable :: gap n r
def poolList (es : List (Nat × CpInfo)) (last : Nat) : List CpInfo := es.foldr (fun e r => gap e.1 (e.2 :: r)) (gap last [])
def pool (es : List (Nat × CpInfo)) (last : Nat) : Array CpInfo := ⟨poolList es last⟩
def fileOf (pool : Array CpInfo) (this : Nat) (attrs : Array Attribute := #[]) (ms : Array MethodInfo := #[]) (fl : Nat := 33) (sup : Nat := 0) (ifs : Array Nat := #[]) (fds : Array FieldInfo := #[]) : ClassFile where
  minorVersion := 0
  majorVersion := 65
  constantPool := pool
  accessFlags := fl
  thisClass := this
  superClass := sup
  interfaces := ifs
  fields := fds
  methods := ms
  attributes := attrs
def plain (name : String) (sup : Option ClassId) : Class where
  name := name
  kind := .ordinary
  loader := none
  accessFlags := 33
  super := sup
  interfaces := #[]
  cf := none
  fields := #[]
  methods := #[]
  instanceTypes := #[]
  staticTypes := #[]
  resolved := #[]
  callSites := []
  init := .initialized
  statics := none
  mirror := none

def pool0 : Array CpInfo := pool [(5, u "<init>"), (0, u "()V"), (1, .class_ 10), (1, u "java/lang/Object")] 113

def k0c0 : Code := { maxStack := 0, maxLocals := 1, code := object_method_1_code, exceptionTable := #[], attributes := #[] }
def k0m0 : Method := { name := "<init>", desc := "()V", sig := { parameters := [], returnType := none }, accessFlags := 1, code := some k0c0 }
/-- java/lang/Object -/
def k0 : Class := { plain "java/lang/Object" none with
  accessFlags := 33
  interfaces := #[]
  cf := some (fileOf pool0 8 #[] #[{ accessFlags := 1, nameIndex := 5, descriptorIndex := 6, attributes := #[] }] 33 0 #[] #[])
  fields := #[]
  methods := #[k0m0]
  instanceTypes := #[]
  staticTypes := #[]
  resolved := Array.replicate 124 none
  statics := none }

def pool1 : Array CpInfo := pool [(2, .class_ 4), (1, u "java/lang/Object"), (0, u "<init>"), (0, u "()V"), (0, .class_ 8), (0, u "com/example/gate_per_key/gateperkey/model/Decision"), (0, .methodref 7 10), (0, .nameAndType 5 11), (0, u "(ZJJZ)V"), (0, .methodref 7 13), (0, .nameAndType 14 15), (0, u "waitMillis"), (0, u "()J"), (0, .methodref 7 17), (0, .nameAndType 18 15), (0, u "resetMillis"), (0, .class_ 20), (0, u "com/example/gate_per_key/gateperkey/model/DecisionWaitMillisPinLaw"), (2, u "law"), (0, u "(JJI)Z")] 3

def k1m0 : Method := { name := "<init>", desc := "()V", sig := { parameters := [], returnType := none }, accessFlags := 1, code := none }
def k1c1 : Code := { maxStack := 8, maxLocals := 10, code := code, exceptionTable := #[], attributes := #[] }
def k1m1 : Method := { name := "law", desc := "(JJI)Z", sig := { parameters := [.long, .long, .int], returnType := some .boolean }, accessFlags := 9, code := some k1c1 }
/-- com/example/gate_per_key/gateperkey/model/DecisionWaitMillisPinLaw -/
def k1 : Class := { plain "com/example/gate_per_key/gateperkey/model/DecisionWaitMillisPinLaw" (some 0) with
  accessFlags := 49
  interfaces := #[]
  cf := some (fileOf pool1 19 #[] #[{ accessFlags := 1, nameIndex := 5, descriptorIndex := 6, attributes := #[] }, { accessFlags := 9, nameIndex := 23, descriptorIndex := 24, attributes := #[] }] 49 2 #[] #[])
  fields := #[]
  methods := #[k1m0, k1m1]
  instanceTypes := #[]
  staticTypes := #[]
  resolved := Array.replicate 28 none
  statics := none }

def pool2 : Array CpInfo := pool [(1, .methodref 2 3), (0, .class_ 4), (0, .nameAndType 5 6), (0, u "java/lang/Object"), (0, u "<init>"), (0, u "()V"), (0, .class_ 8), (0, u "java/lang/Record")] 13

def k2c0 : Code := { maxStack := 1, maxLocals := 1, code := jdk_30_method_1_code, exceptionTable := #[], attributes := #[] }
def k2m0 : Method := { name := "<init>", desc := "()V", sig := { parameters := [], returnType := none }, accessFlags := 4, code := some k2c0 }
/-- java/lang/Record -/
def k2 : Class := { plain "java/lang/Record" (some 0) with
  accessFlags := 1057
  interfaces := #[]
  cf := some (fileOf pool2 7 #[] #[{ accessFlags := 4, nameIndex := 5, descriptorIndex := 6, attributes := #[] }] 1057 2 #[] #[])
  fields := #[]
  methods := #[k2m0]
  instanceTypes := #[]
  staticTypes := #[]
  resolved := Array.replicate 22 none
  statics := none }

def pool3 : Array CpInfo := pool [(1, .methodref 2 3), (0, .class_ 4), (0, .nameAndType 5 6), (0, u "java/lang/Record"), (0, u "<init>"), (0, u "()V"), (0, .fieldref 8 9), (0, .class_ 10), (0, .nameAndType 11 12), (0, u "com/example/gate_per_key/gateperkey/model/Decision"), (0, u "allowed"), (0, u "Z"), (0, .fieldref 8 14), (0, .nameAndType 15 16), (0, u "remaining"), (0, u "J"), (0, .fieldref 8 18), (0, .nameAndType 19 16), (0, u "resetMillis"), (0, .fieldref 8 21), (0, .nameAndType 22 12), (0, u "failedOpen"), (2, u "(ZJJZ)V"), (2, u "waitMillis"), (0, u "()J"), (29, u "FAILED_OPEN"), (0, u "Lcom/example/gate_per_key/gateperkey/model/Decision;"), (0, u "MILLIS_PER_SECOND")] 36

def k3c0 : Code := { maxStack := 3, maxLocals := 7, code := prog_14_method_2_code, exceptionTable := #[], attributes := #[] }
def k3m0 : Method := { name := "<init>", desc := "(ZJJZ)V", sig := { parameters := [.boolean, .long, .long, .boolean], returnType := none }, accessFlags := 1, code := some k3c0 }
def k3c1 : Code := { maxStack := 2, maxLocals := 1, code := prog_14_method_3_code, exceptionTable := #[], attributes := #[] }
def k3m1 : Method := { name := "waitMillis", desc := "()J", sig := { parameters := [], returnType := some .long }, accessFlags := 1, code := some k3c1 }
def k3c2 : Code := { maxStack := 2, maxLocals := 1, code := prog_14_method_13_code, exceptionTable := #[], attributes := #[] }
def k3m2 : Method := { name := "resetMillis", desc := "()J", sig := { parameters := [], returnType := some .long }, accessFlags := 1, code := some k3c2 }
/-- com/example/gate_per_key/gateperkey/model/Decision -/
def k3 : Class := { plain "com/example/gate_per_key/gateperkey/model/Decision" (some 2) with
  accessFlags := 49
  interfaces := #[]
  cf := some (fileOf pool3 8 #[] #[{ accessFlags := 1, nameIndex := 5, descriptorIndex := 25, attributes := #[] }, { accessFlags := 1, nameIndex := 28, descriptorIndex := 29, attributes := #[] }, { accessFlags := 1, nameIndex := 19, descriptorIndex := 29, attributes := #[] }] 49 2 #[] #[{ accessFlags := 18, nameIndex := 11, descriptorIndex := 12, attributes := #[] }, { accessFlags := 18, nameIndex := 15, descriptorIndex := 16, attributes := #[] }, { accessFlags := 18, nameIndex := 19, descriptorIndex := 16, attributes := #[] }, { accessFlags := 18, nameIndex := 22, descriptorIndex := 12, attributes := #[] }, { accessFlags := 25, nameIndex := 59, descriptorIndex := 60, attributes := #[] }, { accessFlags := 26, nameIndex := 61, descriptorIndex := 16, attributes := #[] }])
  fields := #[{ name := "allowed", type := .boolean, accessFlags := 18, slot := 0, constantValue := 0 }, { name := "remaining", type := .long, accessFlags := 18, slot := 1, constantValue := 0 }, { name := "resetMillis", type := .long, accessFlags := 18, slot := 2, constantValue := 0 }, { name := "failedOpen", type := .boolean, accessFlags := 18, slot := 3, constantValue := 0 }, { name := "FAILED_OPEN", type := (.object "com/example/gate_per_key/gateperkey/model/Decision"), accessFlags := 25, slot := 0, constantValue := 0 }, { name := "MILLIS_PER_SECOND", type := .long, accessFlags := 26, slot := 1, constantValue := 0 }]
  methods := #[k3m0, k3m1, k3m2]
  instanceTypes := #[.boolean, .long, .long, .boolean]
  staticTypes := #[(.object "com/example/gate_per_key/gateperkey/model/Decision"), .long]
  resolved := Array.replicate 98 none
  statics := none }

def pool4 : Array CpInfo := pool [(1, u "java/lang/Cloneable"), (0, .class_ 1), (0, u "java/lang/Object"), (0, .class_ 3)] 3

/-- java/lang/Cloneable -/
def k4 : Class := { plain "java/lang/Cloneable" (some 0) with
  accessFlags := 1537
  interfaces := #[]
  cf := some (fileOf pool4 2 #[] #[] 1537 4 #[] #[])
  fields := #[]
  methods := #[]
  instanceTypes := #[]
  staticTypes := #[]
  resolved := Array.replicate 8 none
  statics := none }

def pool5 : Array CpInfo := pool [(1, u "java/io/Serializable"), (0, .class_ 1), (0, u "java/lang/Object"), (0, .class_ 3)] 3

/-- java/io/Serializable -/
def k5 : Class := { plain "java/io/Serializable" (some 0) with
  accessFlags := 1537
  interfaces := #[]
  cf := some (fileOf pool5 2 #[] #[] 1537 4 #[] #[])
  fields := #[]
  methods := #[]
  instanceTypes := #[]
  staticTypes := #[]
  resolved := Array.replicate 8 none
  statics := none }

/-- the primitive byte -/
def k6 : Class := { plain "byte" none with kind := .primitive 'B', accessFlags := 0x411 }
/-- [B -/
def k7 : Class := { plain "[B" (some 0) with kind := .array 6 .byte, interfaces := #[4, 5], accessFlags := 1041 }

/-- the primitive int -/
def k8 : Class := { plain "int" none with kind := .primitive 'I', accessFlags := 0x411 }
/-- [I -/
def k9 : Class := { plain "[I" (some 0) with kind := .array 8 .int, interfaces := #[4, 5], accessFlags := 1041 }

def heap : Heap := #[]
def classes : Array Class := #[k0, k1, k2, k3, k4, k5, k6, k7, k8, k9]
def interned : List (Array UInt16 × Addr) := []
def slotsUsed : Nat := 0
def theMethod : MethodId := ⟨1, 1⟩
def args0 : Array Value := #[.long 5, .long 7, .int 1]
def aboutOver (below : List Frame) : State where
  vm := { classes := classes, interned := interned.toArray }
  heap := heap
  slotsUsed := slotsUsed
  threads := #[{ frames := .invoking theMethod args0 :: below }]
def below0 : List Frame := [.native { method := ⟨0, 0⟩, args := #[] }]
def about1 : State := aboutOver below0
def p0 : Program := .bare "" "" ""
def e0 : Env := launch0.env 0 0 0
theorem w_frames : about1.frames = Frame.invoking theMethod args0 :: below0 := rfl
set_option maxRecDepth 65536 in
theorem w_args : argsFit about1.vm theMethod args0 = true := by decide +kernel
set_option maxRecDepth 65536 in
theorem w_heap : heapFits about1 = true := by decide +kernel
set_option maxRecDepth 65536 in
theorem w_runnable : about1.curStatus? = some .runnable := by decide +kernel
set_option maxRecDepth 65536 in
theorem w_alone : about1.alone = true := by decide +kernel
set_option maxRecDepth 65536 in
theorem w_named : about1.methodNamed? x = some theMethod := by decide +kernel
set_option maxRecDepth 65536 in
theorem w_hears : about1.hears theMethod below0 = true := by decide +kernel
set_option maxRecDepth 65536 in
theorem w_ripe : about1.ripe theMethod args0 below0 = true := by decide +kernel
theorem w_running : about1.status = .running := rfl
set_option maxRecDepth 65536 in
theorem w_room : about1.hasRoom e0.platform room_1 = true :=
  launch0.hasRoom_least _ room_1 (by decide +kernel) (by decide +kernel) (by decide +kernel) (by decide +kernel) (by decide +kernel) (by decide +kernel)
theorem allAtoms_all (ts : List Jvm.Cond) (a : Array Jvm.Value) (st : Jvm.State) : (allAtoms ts).before a st = ts.all (fun c => c.before a st) := by
  induction ts with
  | nil => rfl
  | cons c t ih =>
    show (Jvm.Cond.and c (allAtoms t)).before a st = _
    rw [Jvm.Cond.before_and, ih, List.all_cons]
def words1 : List Jvm.Cond := Jvm.Cond.code x code maxLocals ret :: tables_1
/-- a 'code' word, met by the world's own term for the bytes: nothing is compared byte by byte -/
theorem code_word {y : MethodName} {bytes : ByteArray} {mx : Nat} {rt : Option FieldType} {a : Array Value} {s : State} {m : MethodId} {meth : Method} {c : Code} (h1 : s.methodNamed? y = some m) (h2 : s.vm.method? m = some meth) (h3 : meth.code = some c) (h4 : c.code = bytes)
    (h5 : (c.maxLocals == mx && c.exceptionTable.isEmpty && decide (c.maxStack ≤ mostOperands) && decide (meth.sig.returnType = rt) && !meth.locks && decide (parseMethodDescriptor y.desc = some meth.sig)) = true) : (Jvm.Cond.code y bytes mx rt).before a s = true := by
  simp only [Bool.and_eq_true, beq_iff_eq, Bool.not_eq_true', decide_eq_true_eq] at h5
  obtain ⟨⟨⟨⟨⟨g1, g2⟩, g3⟩, g4⟩, g5⟩, g6⟩ := h5
  simp [Cond.before, Cond.holds, Cond.value, h1, h2, h3, h4, g1, g2, g3, g4, g5, g6]
def isCode : Jvm.Cond → Bool
  | .code _ _ _ _ => true
  | _ => false
theorem all_split {L : List Jvm.Cond} {P : Jvm.Cond → Bool} (h1 : L.all (fun c => isCode c || P c) = true) (h2 : ∀ c ∈ L.filter isCode, P c = true) : L.all P = true := by
  refine List.all_eq_true.mpr fun c hc => ?_
  have h := List.all_eq_true.mp h1 c hc
  rcases Bool.eq_false_or_eq_true (isCode c) with hi | hi
  · exact h2 c (List.mem_filter.mpr ⟨hc, hi⟩)
  · simpa [hi] using h
set_option maxRecDepth 65536 in
theorem w_c0 : (Jvm.Cond.code x code maxLocals ret).before args0 about1 = true := code_word (m := ⟨1, 1⟩) (meth := k1m1) (c := k1c1) (by decide +kernel) rfl rfl rfl (by decide +kernel)
set_option maxRecDepth 65536 in
theorem w_c1 : (Jvm.Cond.code ({ cls := "com/example/gate_per_key/gateperkey/model/Decision", name := "<init>", desc := "(ZJJZ)V" } : Jvm.MethodName) prog_14_method_2_code (7 : Nat) (Option.none : Option Jvm.ClassFile.FieldType)).before args0 about1 = true := code_word (m := ⟨3, 0⟩) (meth := k3m0) (c := k3c0) (by decide +kernel) rfl rfl rfl (by decide +kernel)
set_option maxRecDepth 65536 in
theorem w_c2 : (Jvm.Cond.code ({ cls := "java/lang/Record", name := "<init>", desc := "()V" } : Jvm.MethodName) jdk_30_method_1_code (1 : Nat) (Option.none : Option Jvm.ClassFile.FieldType)).before args0 about1 = true := code_word (m := ⟨2, 0⟩) (meth := k2m0) (c := k2c0) (by decide +kernel) rfl rfl rfl (by decide +kernel)
set_option maxRecDepth 65536 in
theorem w_c3 : (Jvm.Cond.code ({ cls := "java/lang/Object", name := "<init>", desc := "()V" } : Jvm.MethodName) object_method_1_code (1 : Nat) (Option.none : Option Jvm.ClassFile.FieldType)).before args0 about1 = true := code_word (m := ⟨0, 0⟩) (meth := k0m0) (c := k0c0) (by decide +kernel) rfl rfl rfl (by decide +kernel)
set_option maxRecDepth 65536 in
theorem w_c4 : (Jvm.Cond.code ({ cls := "com/example/gate_per_key/gateperkey/model/Decision", name := "waitMillis", desc := "()J" } : Jvm.MethodName) prog_14_method_3_code (1 : Nat) (Option.some Jvm.ClassFile.FieldType.long)).before args0 about1 = true := code_word (m := ⟨3, 1⟩) (meth := k3m1) (c := k3c1) (by decide +kernel) rfl rfl rfl (by decide +kernel)
set_option maxRecDepth 65536 in
theorem w_c5 : (Jvm.Cond.code ({ cls := "com/example/gate_per_key/gateperkey/model/Decision", name := "resetMillis", desc := "()J" } : Jvm.MethodName) prog_14_method_13_code (1 : Nat) (Option.some Jvm.ClassFile.FieldType.long)).before args0 about1 = true := code_word (m := ⟨3, 2⟩) (meth := k3m2) (c := k3c2) (by decide +kernel) rfl rfl rfl (by decide +kernel)
def codes1 : List Jvm.Cond := [Jvm.Cond.code x code maxLocals ret, Jvm.Cond.code ({ cls := "com/example/gate_per_key/gateperkey/model/Decision", name := "<init>", desc := "(ZJJZ)V" } : Jvm.MethodName) prog_14_method_2_code (7 : Nat) (Option.none : Option Jvm.ClassFile.FieldType), Jvm.Cond.code ({ cls := "java/lang/Record", name := "<init>", desc := "()V" } : Jvm.MethodName) jdk_30_method_1_code (1 : Nat) (Option.none : Option Jvm.ClassFile.FieldType), Jvm.Cond.code ({ cls := "java/lang/Object", name := "<init>", desc := "()V" } : Jvm.MethodName) object_method_1_code (1 : Nat) (Option.none : Option Jvm.ClassFile.FieldType), Jvm.Cond.code ({ cls := "com/example/gate_per_key/gateperkey/model/Decision", name := "waitMillis", desc := "()J" } : Jvm.MethodName) prog_14_method_3_code (1 : Nat) (Option.some Jvm.ClassFile.FieldType.long), Jvm.Cond.code ({ cls := "com/example/gate_per_key/gateperkey/model/Decision", name := "resetMillis", desc := "()J" } : Jvm.MethodName) prog_14_method_13_code (1 : Nat) (Option.some Jvm.ClassFile.FieldType.long)]
set_option maxRecDepth 65536 in
theorem codes_eq : words1.filter isCode = codes1 := rfl
theorem w_codes : ∀ c ∈ words1.filter isCode, c.before args0 about1 = true := by
  rw [codes_eq]
  intro c hc
  simp only [codes1, List.mem_cons, List.not_mem_nil, or_false] at hc
  rcases hc with rfl | rfl | rfl | rfl | rfl | rfl
  · exact w_c0
  · exact w_c1
  · exact w_c2
  · exact w_c3
  · exact w_c4
  · exact w_c5
set_option maxRecDepth 65536 in
theorem w_t1 : (words1.take 24).all (fun c => isCode c || c.before args0 about1) = true := by decide +kernel
set_option maxRecDepth 65536 in
theorem w_t2 : (words1.drop 24).all (fun c => isCode c || c.before args0 about1) = true := by decide +kernel
theorem w_tables : (allAtoms (Jvm.Cond.code x code maxLocals ret :: tables_1)).before args0 about1 = true := by
  rw [allAtoms_all]
  show words1.all (fun c => c.before args0 about1) = true
  refine all_split ?_ w_codes
  rw [← List.take_append_drop 24 words1, List.all_append, w_t1, w_t2]
  rfl
set_option maxRecDepth 65536 in
theorem w_case : (Jvm.Cond.and given_1 narrow_1).before args0 about1 = true := by decide +kernel
theorem w_applies : (headSpec (Jvm.Cond.code x code maxLocals ret :: tables_1) room_1).applies x e0.platform about1 = true :=
  (Spec.applies_iff w_frames).mpr ⟨w_running, w_runnable, w_alone, w_named, w_hears, w_ripe, w_room, w_tables⟩
theorem atStart : AtStart classFile x code maxLocals ret World_1 tables_1 room_1 Calls_1 rest_1 Pre_1 launch0 p0 e0 about1 theMethod args0 below0 :=
  ⟨lists_1, trivial, launch0.admits_env _ _ _, launch0.least_env, fairChoices_fair.cas, fairChoices_fair.clock, w_frames, w_args, w_heap, w_applies, trivial, trivial, w_case⟩
end start1
theorem witness_1 : WitnessClaimed_1 := ⟨start1.p0, start1.e0, start1.about1, start1.theMethod, start1.args0, start1.below0, start1.atStart⟩
end Jvm.Pilot.@@N@@

import JvmDerived
import JvmDerived.Pilot.@@N@@Statement
import JvmDerived.Pilot.@@N@@Code
set_option linter.unusedVariables false
set_option linter.unusedSimpArgs false
namespace Jvm.RoadKit
open Sem ClassFile Op Lib Jvm.Stand Jvm.Free Jvm.LawKit
section New
variable {p : Program} {l : Launch} {e : Env} {R : Room} {s : State} {m : MethodId} {args : Array Value} {below : List Frame} {meth : Method} {c : Code} {T : State} {locs : List Loc} {cells slots : Nat}
theorem retI (X : Stand p l e R s m args below meth c T locs cells slots) (hx : p.tables.exec = Jvm.exec) {pc : Nat} {Ls : Array Slot} {z : Int32} {rest : List Value} (hret : meth.sig.returnType = some .int) (hd : decode c.code pc = .ok (.ireturn, 1)) {fs : List Frame}
    (hl : ∀ (f : JFrame) (acts : List Action), f.method = m → f.locked = none → f.entered = [] → (doReturn e (T.setTop f) acts (some (.int z))).1 = T.setFrames fs) : Steps p.tables e below (T.setTop (mkF m pc Ls (.int z :: rest))) (T.setFrames fs) := by
  have hm' : T.vm.method? m = some meth := X.method'
  have hn : narrow .int (.int z) = .int z := rfl
  show Steps p.tables e below (T.setTop { method := m, pc := pc, locals := Ls, stack := _ :: rest, locked := none }) _
  jvm_step X.here [X.here.top, hx, hd, hm', hret, hn]
  first | (intro acts; rw [hl _ acts rfl rfl rfl]) | rw [hl _ _ rfl rfl rfl]
  exact Steps.refl _
theorem retJ (X : Stand p l e R s m args below meth c T locs cells slots) (hx : p.tables.exec = Jvm.exec) {pc : Nat} {Ls : Array Slot} {z : Int64} {rest : List Value} (hret : meth.sig.returnType = some .long) (hd : decode c.code pc = .ok (.lreturn, 1)) {fs : List Frame}
    (hl : ∀ (f : JFrame) (acts : List Action), f.method = m → f.locked = none → f.entered = [] → (doReturn e (T.setTop f) acts (some (.long z))).1 = T.setFrames fs) : Steps p.tables e below (T.setTop (mkF m pc Ls (.long z :: rest))) (T.setFrames fs) := by
  have hm' : T.vm.method? m = some meth := X.method'
  have hn : narrow .long (.long z) = .long z := rfl
  show Steps p.tables e below (T.setTop { method := m, pc := pc, locals := Ls, stack := _ :: rest, locked := none }) _
  jvm_step X.here [X.here.top, hx, hd, hm', hret, hn]
  first | (intro acts; rw [hl _ acts rfl rfl rfl]) | rw [hl _ _ rfl rfl rfl]
  exact Steps.refl _
end New
end Jvm.RoadKit
namespace Jvm.Pilot.@@N@@
open Jvm Jvm.ClassFile Sem Op Lib Jvm.Free Jvm.Stand Jvm.LawKit Jvm.RoadKit Bundle Jvm.Pilot.@@N@@.Jvm.D
/-- the run comes from A to B -/
abbrev own_Go (p : Program) (e : Env) (below : List Frame) (A B : State) : Prop := ∀ t, Steps p.tables e below B t → Steps p.tables e below A t
theorem pn_0 : plainName "com/example/rillgraph/rillgraph/cli/SeededRandom" = true := by first | (simp [plainName, overriddenIn]; done) | decide +kernel
theorem d1_0 : decode prog_62_method_1_code 0 = .ok (.aload_n 0, 1) := by decide +kernel
theorem d1_1 : decode prog_62_method_1_code 1 = .ok (.invokespecial 1, 3) := by decide +kernel
theorem d1_4 : decode prog_62_method_1_code 4 = .ok (.aload_n 0, 1) := by decide +kernel
theorem d1_5 : decode prog_62_method_1_code 5 = .ok (.lload_n 1, 1) := by decide +kernel
theorem d1_6 : decode prog_62_method_1_code 6 = .ok (.putfield 7, 3) := by decide +kernel
theorem d1_9 : decode prog_62_method_1_code 9 = .ok (.return_, 1) := by decide +kernel
theorem ef_1 (m : MethodId) (r0 : Addr) (q1 : Int64) : entryFrame m #[(.ref r0), (.long q1)] 3 = mkF m 0 #[.val (.ref r0), .val (.long q1), .second] [] := by first | (simp [entryFrame, mkF, argsToLocals, Value.category]; done) | rfl
def Q1 (Z : State) (r0 : Addr) (q1 : Int64) (h0 : Heap) (n0 : Nat) (v : Option Value) (h : Heap) (L : List Loc) : Prop := v = none ∧ Fr n0 L ∧ Keep h0 h [r0] ∧ Exa Z h r0 "com/example/rillgraph/rillgraph/cli/SeededRandom" ∧ Fld Z h r0 "com/example/rillgraph/rillgraph/cli/SeededRandom" "state" "J" (.long q1)
set_option maxRecDepth 65536 in
set_option maxHeartbeats 40000000 in
theorem rm1 (l : Launch) (Z : State) (a0 : Array Value) (hw : ∀ d ∈ tables_1, d.before a0 Z = true) (ws : List Jvm.Cond) (r0 : Addr) (q1 : Int64) (h0 : Heap) (n0 : Nat) (Z0 : n0 ≤ h0.size) (g_r0 : n0 ≤ r0) (E_r0 : Exa Z h0 r0 "com/example/rillgraph/rillgraph/cli/SeededRandom") (F_state : Fld Z h0 r0 "com/example/rillgraph/rillgraph/cli/SeededRandom" "state" "J" (.long (0 : Int64))) :
    MetFree l (⟨"com/example/rillgraph/rillgraph/cli/SeededRandom", "<init>", "(J)V"⟩ : MethodName) (head1 (Jvm.Cond.code (⟨"com/example/rillgraph/rillgraph/cli/SeededRandom", "<init>", "(J)V"⟩ : MethodName) prog_62_method_1_code 3 none :: ws) ({ frames := 1, cells := 0, slots := 0, locals := 12 } : Room)) (fun a U => a = #[(.ref r0), (.long q1)] ∧ Z.Warmed39 U.vm ∧ U.heap = h0) (fun _ _ _ _ _ => True) (fun _ U o U' => ∃ v L, o = .returned v ∧ Q1 Z r0 q1 h0 n0 v U'.heap L ∧ FrameEnd U o U' L ({ frames := 1, cells := 0, slots := 0, locals := 12 } : Room).cells ({ frames := 1, cells := 0, slots := 0, locals := 12 } : Room).slots) := by
  refine MetFree.of_bodySF (plainFor_of_name pn_0) hisR ?_
  intro p e s m args below meth c s₁ Bd hml0 hP hK
  obtain ⟨rfl, hZ, hh⟩ := hP
  have hx := Bd.exec
  have hby := Bd.bytes
  have hml : c.maxLocals = 3 := hml0
  have hown : s.vm.findClass "com/example/rillgraph/rillgraph/cli/SeededRandom" = some m.cls := findClass_of_methodNamed Bd.named
  have hnm := (name_of_methodNamed Bd.named Bd.method).1
  have X0 : Stand p l e ({ frames := 1, cells := 0, slots := 0, locals := 12 } : Room) s m #[(.ref r0), (.long q1)] below meth c s₁ [] 0 0 := Stand.of_body Bd
  have e0 : s₁.heap = h0 := by rw [← hh, Bd.state]; rfl
  have N0 := Fr.nil n0
  have K0 : Keep h0 h0 [r0] := Keep.refl h0 _
  have pre0 : own_Go p e below (s₁.setTop (entryFrame m #[(.ref r0), (.long q1)] 3)) (s₁.setTop (mkF m 0 #[.val (.ref r0), .val (.long q1), .second] [])) := fun t k => castTop (ef_1 m r0 q1) k
  have k1 : own_Go p e below (s₁.setTop (entryFrame m #[(.ref r0), (.long q1)] 3)) (s₁.setTop (mkF m 1 #[.val (.ref r0), .val (.long q1), .second] [(.ref r0)])) := by
    intro t k
    refine pre0 t ?_
    show Steps p.tables e below (s₁.setTop (mkF m 0 #[.val (.ref r0), .val (.long q1), .second] [])) t
    refine XS.aloadN X0.here hx rfl (hb hby d1_0) rfl rfl ?_
    exact k
  obtain ⟨T2, X2, e2, st2⟩ := initO X0 hx hZ hown (hw _ (List.mem_of_getElem? (i := 7) rfl)) (hw _ (List.mem_of_getElem? (i := 8) rfl)) (hw _ (List.mem_of_getElem? (i := 9) rfl)) e0 (g := (mkF m 1 #[.val (.ref r0), .val (.long q1), .second] [(.ref r0)])) rfl (by rw [hml]; rfl) rfl (hb hby d1_1) (by decide) (W := 0) (by show 2 * 0 + _ ≤ _; exact Nat.le_of_eq rfl) (by decide)
  have k3 : own_Go p e below (s₁.setTop (entryFrame m #[(.ref r0), (.long q1)] 3)) (T2.setTop (mkF m 4 #[.val (.ref r0), .val (.long q1), .second] [])) := fun t k => k1 t (st2 t k)
  have k4 : own_Go p e below (s₁.setTop (entryFrame m #[(.ref r0), (.long q1)] 3)) (T2.setTop (mkF m 6 #[.val (.ref r0), .val (.long q1), .second] [(.long q1), (.ref r0)])) := by
    intro t k
    refine k3 t ?_
    show Steps p.tables e below (T2.setTop (mkF m 4 #[.val (.ref r0), .val (.long q1), .second] [])) t
    refine XS.aloadN X2.here hx rfl (hb hby d1_4) rfl rfl ?_
    show Steps p.tables e below (T2.setTop (mkF m 5 #[.val (.ref r0), .val (.long q1), .second] [(.ref r0)])) t
    refine XS.lloadN X2.here hx rfl (hb hby d1_5) rfl ?_
    exact k
  obtain ⟨T5, h5, X5, e5, W5, st5⟩ := putF X2 hx hZ hown (host := "") (Or.inl (hw _ (List.mem_of_getElem? (i := 10) rfl))) Via.refl e2 F_state E_r0 (Or.inl (hw _ (List.mem_of_getElem? (i := 11) rfl))) (hw _ (List.mem_of_getElem? (i := 2) rfl)) (ty := .long) (by decide) rfl rfl (g := (mkF m 6 #[.val (.ref r0), .val (.long q1), .second] [(.long q1), (.ref r0)])) rfl rfl (hb hby d1_6)
  have Fw5 := F_state.same W5
  have Kp5 : Keep h0 h5 [r0] := K0.wr W5 (Or.inl (List.mem_of_getElem? (i := 0) rfl))
  have N5 := Fr.snoc X5 N0 g_r0
  have k6 : own_Go p e below (s₁.setTop (entryFrame m #[(.ref r0), (.long q1)] 3)) (T5.setTop (mkF m 9 #[.val (.ref r0), .val (.long q1), .second] [])) := fun t k => k4 t (st5 t k)
  obtain ⟨fs, hr, hrun, hended, hW, hsame⟩ := X5.leave (v := none) (fun _ => rfl)
  refine ⟨_, _, k6 _ ?_, hrun, hended, _, _, rfl, ?_, ⟨_, rfl⟩, hW, hsame.mono (by decide) (by decide)⟩
  · exact X5.returnOut hx Bd.returns (hb hby d1_9) hr
  · show Q1 Z r0 q1 h0 n0 _ T5.heap _
    rw [e5]
    exact ⟨rfl, N5, Kp5, (E_r0.wr W5), Fw5⟩
theorem d3_0 : decode prog_62_method_2_code 0 = .ok (.aload_n 0, 1) := by decide +kernel
theorem d3_1 : decode prog_62_method_2_code 1 = .ok (.dup, 1) := by decide +kernel
theorem d3_2 : decode prog_62_method_2_code 2 = .ok (.getfield 7, 3) := by decide +kernel
theorem d3_5 : decode prog_62_method_2_code 5 = .ok (.ldc2_w 13, 3) := by decide +kernel
theorem d3_8 : decode prog_62_method_2_code 8 = .ok (.ladd, 1) := by decide +kernel
theorem d3_9 : decode prog_62_method_2_code 9 = .ok (.putfield 7, 3) := by decide +kernel
theorem d3_12 : decode prog_62_method_2_code 12 = .ok (.aload_n 0, 1) := by decide +kernel
theorem d3_13 : decode prog_62_method_2_code 13 = .ok (.getfield 7, 3) := by decide +kernel
theorem d3_16 : decode prog_62_method_2_code 16 = .ok (.aload_n 0, 1) := by decide +kernel
theorem d3_17 : decode prog_62_method_2_code 17 = .ok (.getfield 7, 3) := by decide +kernel
theorem d3_20 : decode prog_62_method_2_code 20 = .ok (.bipush 30, 2) := by decide +kernel
theorem d3_22 : decode prog_62_method_2_code 22 = .ok (.lushr, 1) := by decide +kernel
theorem d3_23 : decode prog_62_method_2_code 23 = .ok (.lxor, 1) := by decide +kernel
theorem d3_24 : decode prog_62_method_2_code 24 = .ok (.ldc2_w 15, 3) := by decide +kernel
theorem d3_27 : decode prog_62_method_2_code 27 = .ok (.lmul, 1) := by decide +kernel
theorem d3_28 : decode prog_62_method_2_code 28 = .ok (.lstore_n 1, 1) := by decide +kernel
theorem d3_29 : decode prog_62_method_2_code 29 = .ok (.lload_n 1, 1) := by decide +kernel
theorem d3_30 : decode prog_62_method_2_code 30 = .ok (.lload_n 1, 1) := by decide +kernel
theorem d3_31 : decode prog_62_method_2_code 31 = .ok (.bipush 27, 2) := by decide +kernel
theorem d3_33 : decode prog_62_method_2_code 33 = .ok (.lushr, 1) := by decide +kernel
theorem d3_34 : decode prog_62_method_2_code 34 = .ok (.lxor, 1) := by decide +kernel
theorem d3_35 : decode prog_62_method_2_code 35 = .ok (.ldc2_w 17, 3) := by decide +kernel
theorem d3_38 : decode prog_62_method_2_code 38 = .ok (.lmul, 1) := by decide +kernel
theorem d3_39 : decode prog_62_method_2_code 39 = .ok (.lstore_n 1, 1) := by decide +kernel
theorem d3_40 : decode prog_62_method_2_code 40 = .ok (.lload_n 1, 1) := by decide +kernel
theorem d3_41 : decode prog_62_method_2_code 41 = .ok (.lload_n 1, 1) := by decide +kernel
theorem d3_42 : decode prog_62_method_2_code 42 = .ok (.bipush 31, 2) := by decide +kernel
theorem d3_44 : decode prog_62_method_2_code 44 = .ok (.lushr, 1) := by decide +kernel
theorem d3_45 : decode prog_62_method_2_code 45 = .ok (.lxor, 1) := by decide +kernel
theorem d3_46 : decode prog_62_method_2_code 46 = .ok (.lreturn, 1) := by decide +kernel
theorem ef_3 (m : MethodId) (r0 : Addr) : entryFrame m #[(.ref r0)] 3 = mkF m 0 #[.val (.ref r0), .unset, .unset] [] := by first | (simp [entryFrame, mkF, argsToLocals, Value.category]; done) | rfl
def v3_28 (u_state : Int64) : Int64 := (((u_state + (-7046029254386353131 : Int64)) ^^^ (((u_state + (-7046029254386353131 : Int64)).toUInt64 >>> ((30 : Int32) &&& 0x3f).toInt64.toUInt64).toInt64)) * (-4658895280553007687 : Int64))
def v3_39 (u_state : Int64) : Int64 := (((v3_28 u_state) ^^^ (((v3_28 u_state).toUInt64 >>> ((27 : Int32) &&& 0x3f).toInt64.toUInt64).toInt64)) * (-7723592293110705685 : Int64))
def f3 (u_state : Int64) : Int64 := ((v3_39 u_state) ^^^ (((v3_39 u_state).toUInt64 >>> ((31 : Int32) &&& 0x3f).toInt64.toUInt64).toInt64))
def Q3 (Z : State) (r0 : Addr) (u_state : Int64) (h0 : Heap) (n0 : Nat) (v : Option Value) (h : Heap) (L : List Loc) : Prop := v = some (.long (f3 u_state)) ∧ Fr n0 L ∧ Keep h0 h [r0] ∧ Exa Z h r0 "com/example/rillgraph/rillgraph/cli/SeededRandom" ∧ Fld Z h r0 "com/example/rillgraph/rillgraph/cli/SeededRandom" "state" "J" (.long (u_state + (-7046029254386353131 : Int64)))
set_option maxRecDepth 65536 in
set_option maxHeartbeats 40000000 in
theorem rm3 (l : Launch) (Z : State) (a0 : Array Value) (hw : ∀ d ∈ tables_1, d.before a0 Z = true) (ws : List Jvm.Cond) (r0 : Addr) (u_state : Int64) (h0 : Heap) (n0 : Nat) (Z0 : n0 ≤ h0.size) (g_r0 : n0 ≤ r0) (E_r0 : Exa Z h0 r0 "com/example/rillgraph/rillgraph/cli/SeededRandom") (F_state : Fld Z h0 r0 "com/example/rillgraph/rillgraph/cli/SeededRandom" "state" "J" (.long u_state)) :
    MetFree l (⟨"com/example/rillgraph/rillgraph/cli/SeededRandom", "nextLong", "()J"⟩ : MethodName) (head1 (Jvm.Cond.code (⟨"com/example/rillgraph/rillgraph/cli/SeededRandom", "nextLong", "()J"⟩ : MethodName) prog_62_method_2_code 3 (some .long) :: ws) ({ frames := 0, cells := 0, slots := 0, locals := 0 } : Room)) (fun a U => a = #[(.ref r0)] ∧ Z.Warmed39 U.vm ∧ U.heap = h0) (fun _ _ _ _ _ => True) (fun _ U o U' => ∃ v L, o = .returned v ∧ Q3 Z r0 u_state h0 n0 v U'.heap L ∧ FrameEnd U o U' L ({ frames := 0, cells := 0, slots := 0, locals := 0 } : Room).cells ({ frames := 0, cells := 0, slots := 0, locals := 0 } : Room).slots) := by
  refine MetFree.of_bodySF (plainFor_of_name pn_0) hisR ?_
  intro p e s m args below meth c s₁ Bd hml0 hP hK
  obtain ⟨rfl, hZ, hh⟩ := hP
  have hx := Bd.exec
  have hby := Bd.bytes
  have hml : c.maxLocals = 3 := hml0
  have hown : s.vm.findClass "com/example/rillgraph/rillgraph/cli/SeededRandom" = some m.cls := findClass_of_methodNamed Bd.named
  have hnm := (name_of_methodNamed Bd.named Bd.method).1
  have X0 : Stand p l e ({ frames := 0, cells := 0, slots := 0, locals := 0 } : Room) s m #[(.ref r0)] below meth c s₁ [] 0 0 := Stand.of_body Bd
  have e0 : s₁.heap = h0 := by rw [← hh, Bd.state]; rfl
  have N0 := Fr.nil n0
  have K0 : Keep h0 h0 [r0] := Keep.refl h0 _
  have pre0 : own_Go p e below (s₁.setTop (entryFrame m #[(.ref r0)] 3)) (s₁.setTop (mkF m 0 #[.val (.ref r0), .unset, .unset] [])) := fun t k => castTop (ef_3 m r0) k
  have k1 : own_Go p e below (s₁.setTop (entryFrame m #[(.ref r0)] 3)) (s₁.setTop (mkF m 2 #[.val (.ref r0), .unset, .unset] [(.ref r0), (.ref r0)])) := by
    intro t k
    refine pre0 t ?_
    show Steps p.tables e below (s₁.setTop (mkF m 0 #[.val (.ref r0), .unset, .unset] [])) t
    refine XS.aloadN X0.here hx rfl (hb hby d3_0) rfl rfl ?_
    show Steps p.tables e below (s₁.setTop (mkF m 1 #[.val (.ref r0), .unset, .unset] [(.ref r0)])) t
    refine XS.dup X0.here hx rfl (hb hby d3_1) rfl rfl ?_
    exact k
  obtain ⟨T2, X2, e2, st2⟩ := getF X0 hx hZ hown (host := "") (Or.inl (hw _ (List.mem_of_getElem? (i := 10) rfl))) Via.refl e0 F_state (g := (mkF m 2 #[.val (.ref r0), .unset, .unset] [(.ref r0), (.ref r0)])) rfl rfl (hb hby d3_2)
  have k3 : own_Go p e below (s₁.setTop (entryFrame m #[(.ref r0)] 3)) (T2.setTop (mkF m 5 #[.val (.ref r0), .unset, .unset] [(.long u_state), (.ref r0)])) := fun t k => k1 t (st2 t k)
  have k4 : own_Go p e below (s₁.setTop (entryFrame m #[(.ref r0)] 3)) (T2.setTop (mkF m 9 #[.val (.ref r0), .unset, .unset] [(.long (u_state + (-7046029254386353131 : Int64))), (.ref r0)])) := by
    intro t k
    refine k3 t ?_
    show Steps p.tables e below (T2.setTop (mkF m 5 #[.val (.ref r0), .unset, .unset] [(.long u_state), (.ref r0)])) t
    refine X2.ldc2Long hx hown (mvT hZ (hw _ (List.mem_of_getElem? (i := 17) rfl))) (g := (mkF m 5 #[.val (.ref r0), .unset, .unset] [(.long u_state), (.ref r0)])) rfl (hb hby d3_5) _ ?_
    show Steps p.tables e below (T2.setTop (mkF m 8 #[.val (.ref r0), .unset, .unset] [(.long (-7046029254386353131 : Int64)), (.long u_state), (.ref r0)])) t
    refine XS.ladd X2.here hx rfl (hb hby d3_8) rfl ?_
    exact k
  obtain ⟨T5, h5, X5, e5, W5, st5⟩ := putF X2 hx hZ hown (host := "") (Or.inl (hw _ (List.mem_of_getElem? (i := 10) rfl))) Via.refl e2 F_state E_r0 (Or.inl (hw _ (List.mem_of_getElem? (i := 11) rfl))) (hw _ (List.mem_of_getElem? (i := 2) rfl)) (ty := .long) (by decide) rfl rfl (g := (mkF m 9 #[.val (.ref r0), .unset, .unset] [(.long (u_state + (-7046029254386353131 : Int64))), (.ref r0)])) rfl rfl (hb hby d3_9)
  have Fw5 := F_state.same W5
  have Kp5 : Keep h0 h5 [r0] := K0.wr W5 (Or.inl (List.mem_of_getElem? (i := 0) rfl))
  have N5 := Fr.snoc X5 N0 g_r0
  have k6 : own_Go p e below (s₁.setTop (entryFrame m #[(.ref r0)] 3)) (T5.setTop (mkF m 12 #[.val (.ref r0), .unset, .unset] [])) := fun t k => k4 t (st5 t k)
  have k7 : own_Go p e below (s₁.setTop (entryFrame m #[(.ref r0)] 3)) (T5.setTop (mkF m 13 #[.val (.ref r0), .unset, .unset] [(.ref r0)])) := by
    intro t k
    refine k6 t ?_
    show Steps p.tables e below (T5.setTop (mkF m 12 #[.val (.ref r0), .unset, .unset] [])) t
    refine XS.aloadN X5.here hx rfl (hb hby d3_12) rfl rfl ?_
    exact k
  obtain ⟨T8, X8, e8, st8⟩ := getF X5 hx hZ hown (host := "") (Or.inl (hw _ (List.mem_of_getElem? (i := 10) rfl))) Via.refl e5 Fw5 (g := (mkF m 13 #[.val (.ref r0), .unset, .unset] [(.ref r0)])) rfl rfl (hb hby d3_13)
  have k9 : own_Go p e below (s₁.setTop (entryFrame m #[(.ref r0)] 3)) (T8.setTop (mkF m 16 #[.val (.ref r0), .unset, .unset] [(.long (u_state + (-7046029254386353131 : Int64)))])) := fun t k => k7 t (st8 t k)
  have k10 : own_Go p e below (s₁.setTop (entryFrame m #[(.ref r0)] 3)) (T8.setTop (mkF m 17 #[.val (.ref r0), .unset, .unset] [(.ref r0), (.long (u_state + (-7046029254386353131 : Int64)))])) := by
    intro t k
    refine k9 t ?_
    show Steps p.tables e below (T8.setTop (mkF m 16 #[.val (.ref r0), .unset, .unset] [(.long (u_state + (-7046029254386353131 : Int64)))])) t
    refine XS.aloadN X8.here hx rfl (hb hby d3_16) rfl rfl ?_
    exact k
  obtain ⟨T11, X11, e11, st11⟩ := getF X8 hx hZ hown (host := "") (Or.inl (hw _ (List.mem_of_getElem? (i := 10) rfl))) Via.refl e8 Fw5 (g := (mkF m 17 #[.val (.ref r0), .unset, .unset] [(.ref r0), (.long (u_state + (-7046029254386353131 : Int64)))])) rfl rfl (hb hby d3_17)
  have k12 : own_Go p e below (s₁.setTop (entryFrame m #[(.ref r0)] 3)) (T11.setTop (mkF m 20 #[.val (.ref r0), .unset, .unset] [(.long (u_state + (-7046029254386353131 : Int64))), (.long (u_state + (-7046029254386353131 : Int64)))])) := fun t k => k10 t (st11 t k)
  have k13 : own_Go p e below (s₁.setTop (entryFrame m #[(.ref r0)] 3)) (T11.setTop (mkF m 46 #[.val (.ref r0), .val (.long (v3_39 u_state)), .second] [(.long ((v3_39 u_state) ^^^ (((v3_39 u_state).toUInt64 >>> ((31 : Int32) &&& 0x3f).toInt64.toUInt64).toInt64)))])) := by
    intro t k
    refine k12 t ?_
    show Steps p.tables e below (T11.setTop (mkF m 20 #[.val (.ref r0), .unset, .unset] [(.long (u_state + (-7046029254386353131 : Int64))), (.long (u_state + (-7046029254386353131 : Int64)))])) t
    refine XS.bipush X11.here hx rfl (hb hby d3_20) ?_
    show Steps p.tables e below (T11.setTop (mkF m 22 #[.val (.ref r0), .unset, .unset] [(.int (30 : Int32)), (.long (u_state + (-7046029254386353131 : Int64))), (.long (u_state + (-7046029254386353131 : Int64)))])) t
    refine XS.lushr X11.here hx rfl (hb hby d3_22) rfl ?_
    show Steps p.tables e below (T11.setTop (mkF m 23 #[.val (.ref r0), .unset, .unset] [(.long (((u_state + (-7046029254386353131 : Int64)).toUInt64 >>> ((30 : Int32) &&& 0x3f).toInt64.toUInt64).toInt64)), (.long (u_state + (-7046029254386353131 : Int64)))])) t
    refine XS.lxor X11.here hx rfl (hb hby d3_23) rfl ?_
    show Steps p.tables e below (T11.setTop (mkF m 24 #[.val (.ref r0), .unset, .unset] [(.long ((u_state + (-7046029254386353131 : Int64)) ^^^ (((u_state + (-7046029254386353131 : Int64)).toUInt64 >>> ((30 : Int32) &&& 0x3f).toInt64.toUInt64).toInt64)))])) t
    refine X11.ldc2Long hx hown (mvT hZ (hw _ (List.mem_of_getElem? (i := 18) rfl))) (g := (mkF m 24 #[.val (.ref r0), .unset, .unset] [(.long ((u_state + (-7046029254386353131 : Int64)) ^^^ (((u_state + (-7046029254386353131 : Int64)).toUInt64 >>> ((30 : Int32) &&& 0x3f).toInt64.toUInt64).toInt64)))])) rfl (hb hby d3_24) _ ?_
    show Steps p.tables e below (T11.setTop (mkF m 27 #[.val (.ref r0), .unset, .unset] [(.long (-4658895280553007687 : Int64)), (.long ((u_state + (-7046029254386353131 : Int64)) ^^^ (((u_state + (-7046029254386353131 : Int64)).toUInt64 >>> ((30 : Int32) &&& 0x3f).toInt64.toUInt64).toInt64)))])) t
    refine XS.lmul X11.here hx rfl (hb hby d3_27) rfl ?_
    show Steps p.tables e below (T11.setTop (mkF m 28 #[.val (.ref r0), .unset, .unset] [(.long (((u_state + (-7046029254386353131 : Int64)) ^^^ (((u_state + (-7046029254386353131 : Int64)).toUInt64 >>> ((30 : Int32) &&& 0x3f).toInt64.toUInt64).toInt64)) * (-4658895280553007687 : Int64)))])) t
    refine XS.lstoreN X11.here hx rfl (hb hby d3_28) rfl (l' := #[.val (.ref r0), .val (.long (v3_28 u_state)), .second]) rfl ?_
    show Steps p.tables e below (T11.setTop (mkF m 29 #[.val (.ref r0), .val (.long (v3_28 u_state)), .second] [])) t
    refine XS.lloadN X11.here hx rfl (hb hby d3_29) rfl ?_
    show Steps p.tables e below (T11.setTop (mkF m 30 #[.val (.ref r0), .val (.long (v3_28 u_state)), .second] [(.long (v3_28 u_state))])) t
    refine XS.lloadN X11.here hx rfl (hb hby d3_30) rfl ?_
    show Steps p.tables e below (T11.setTop (mkF m 31 #[.val (.ref r0), .val (.long (v3_28 u_state)), .second] [(.long (v3_28 u_state)), (.long (v3_28 u_state))])) t
    refine XS.bipush X11.here hx rfl (hb hby d3_31) ?_
    show Steps p.tables e below (T11.setTop (mkF m 33 #[.val (.ref r0), .val (.long (v3_28 u_state)), .second] [(.int (27 : Int32)), (.long (v3_28 u_state)), (.long (v3_28 u_state))])) t
    refine XS.lushr X11.here hx rfl (hb hby d3_33) rfl ?_
    show Steps p.tables e below (T11.setTop (mkF m 34 #[.val (.ref r0), .val (.long (v3_28 u_state)), .second] [(.long (((v3_28 u_state).toUInt64 >>> ((27 : Int32) &&& 0x3f).toInt64.toUInt64).toInt64)), (.long (v3_28 u_state))])) t
    refine XS.lxor X11.here hx rfl (hb hby d3_34) rfl ?_
    show Steps p.tables e below (T11.setTop (mkF m 35 #[.val (.ref r0), .val (.long (v3_28 u_state)), .second] [(.long ((v3_28 u_state) ^^^ (((v3_28 u_state).toUInt64 >>> ((27 : Int32) &&& 0x3f).toInt64.toUInt64).toInt64)))])) t
    refine X11.ldc2Long hx hown (mvT hZ (hw _ (List.mem_of_getElem? (i := 19) rfl))) (g := (mkF m 35 #[.val (.ref r0), .val (.long (v3_28 u_state)), .second] [(.long ((v3_28 u_state) ^^^ (((v3_28 u_state).toUInt64 >>> ((27 : Int32) &&& 0x3f).toInt64.toUInt64).toInt64)))])) rfl (hb hby d3_35) _ ?_
    show Steps p.tables e below (T11.setTop (mkF m 38 #[.val (.ref r0), .val (.long (v3_28 u_state)), .second] [(.long (-7723592293110705685 : Int64)), (.long ((v3_28 u_state) ^^^ (((v3_28 u_state).toUInt64 >>> ((27 : Int32) &&& 0x3f).toInt64.toUInt64).toInt64)))])) t
    refine XS.lmul X11.here hx rfl (hb hby d3_38) rfl ?_
    show Steps p.tables e below (T11.setTop (mkF m 39 #[.val (.ref r0), .val (.long (v3_28 u_state)), .second] [(.long (((v3_28 u_state) ^^^ (((v3_28 u_state).toUInt64 >>> ((27 : Int32) &&& 0x3f).toInt64.toUInt64).toInt64)) * (-7723592293110705685 : Int64)))])) t
    refine XS.lstoreN X11.here hx rfl (hb hby d3_39) rfl (l' := #[.val (.ref r0), .val (.long (v3_39 u_state)), .second]) rfl ?_
    show Steps p.tables e below (T11.setTop (mkF m 40 #[.val (.ref r0), .val (.long (v3_39 u_state)), .second] [])) t
    refine XS.lloadN X11.here hx rfl (hb hby d3_40) rfl ?_
    show Steps p.tables e below (T11.setTop (mkF m 41 #[.val (.ref r0), .val (.long (v3_39 u_state)), .second] [(.long (v3_39 u_state))])) t
    refine XS.lloadN X11.here hx rfl (hb hby d3_41) rfl ?_
    show Steps p.tables e below (T11.setTop (mkF m 42 #[.val (.ref r0), .val (.long (v3_39 u_state)), .second] [(.long (v3_39 u_state)), (.long (v3_39 u_state))])) t
    refine XS.bipush X11.here hx rfl (hb hby d3_42) ?_
    show Steps p.tables e below (T11.setTop (mkF m 44 #[.val (.ref r0), .val (.long (v3_39 u_state)), .second] [(.int (31 : Int32)), (.long (v3_39 u_state)), (.long (v3_39 u_state))])) t
    refine XS.lushr X11.here hx rfl (hb hby d3_44) rfl ?_
    show Steps p.tables e below (T11.setTop (mkF m 45 #[.val (.ref r0), .val (.long (v3_39 u_state)), .second] [(.long (((v3_39 u_state).toUInt64 >>> ((31 : Int32) &&& 0x3f).toInt64.toUInt64).toInt64)), (.long (v3_39 u_state))])) t
    refine XS.lxor X11.here hx rfl (hb hby d3_45) rfl ?_
    exact k
  obtain ⟨fs, hr, hrun, hended, hW, hsame⟩ := X11.leave (v := some (.long ((v3_39 u_state) ^^^ (((v3_39 u_state).toUInt64 >>> ((31 : Int32) &&& 0x3f).toInt64.toUInt64).toInt64)))) (fun h => by rw [Bd.returns] at h; cases h)
  refine ⟨_, _, k13 _ ?_, hrun, hended, _, _, rfl, ?_, ⟨_, rfl⟩, hW, hsame.mono (by decide) (by decide)⟩
  · exact retJ X11 hx Bd.returns (hb hby d3_46) hr
  · show Q3 Z r0 u_state h0 n0 _ T11.heap _
    rw [e11]
    exact ⟨congrArg (fun z => some (Value.long z)) (show f3 u_state = ((v3_39 u_state) ^^^ (((v3_39 u_state).toUInt64 >>> ((31 : Int32) &&& 0x3f).toInt64.toUInt64).toInt64)) from (by unfold f3; rfl)).symm, N5, Kp5, (E_r0.wr W5), Fw5⟩
theorem pn_1 : plainName "com/example/rillgraph/rillgraph/cli/SeededRandomNextLongPinLaw" = true := by first | (simp [plainName, overriddenIn]; done) | decide +kernel
theorem pd_0 : parseMethodDescriptor "(J)V" = some ⟨[.long], none⟩ := by decide +kernel
theorem pd_1 : parseMethodDescriptor "()J" = some ⟨[], some .long⟩ := by decide +kernel
theorem ef_0 (m : MethodId) (q0 : Int64) (q1 : Int64) : entryFrame m #[(.long q0), (.long q1)] maxLocals = mkF m 0 #[.val (.long q0), .second, .val (.long q1), .second, .unset, .unset, .unset, .unset, .unset, .unset, .unset, .unset, .unset, .unset, .unset, .unset, .unset, .unset, .unset, .unset, .unset, .unset, .unset] [] := by first | (simp [entryFrame, mkF, argsToLocals, Value.category, maxLocals]; done) | rfl
def v0_27 (q0 : Int64) : Int64 := (f3 (q0 + (-7046029254386353131 : Int64)))
def v0_47 (q0 : Int64) : Int64 := (f3 (q0 + (-7046029254386353131 : Int64)))
def m0_96_s0 (q0 : Int64) : Int32 := (if (lcmpW (v0_27 q0) (v0_47 q0)) = (0 : Int32) then (1 : Int32) else (0 : Int32))
def m0_109_s0 (q0 : Int64) (q1 : Int64) : Int32 := (if (lcmpW q0 q1) = (0 : Int32) then (1 : Int32) else (0 : Int32))
def m0_122_s0 (q0 : Int64) (q1 : Int64) : Int32 := (if (lcmpW (f3 q0) (f3 q1)) = (0 : Int32) then (1 : Int32) else (0 : Int32))
def m0_130_s0 (q0 : Int64) (q1 : Int64) : Int32 := (if (m0_109_s0 q0 q1) = (m0_122_s0 q0 q1) then (1 : Int32) else (0 : Int32))
def m0_146_s0  : Int32 := (if (lcmpW (f3 (0 : Int64)) (-2152535657050944081 : Int64)) = (0 : Int32) then (1 : Int32) else (0 : Int32))
def f0 (q0 : Int64) (q1 : Int64) : Int32 := (if (m0_96_s0 q0) = (0 : Int32) then (0 : Int32) else (if (m0_130_s0 q0 q1) = (0 : Int32) then (0 : Int32) else (if m0_146_s0 = (0 : Int32) then (0 : Int32) else (1 : Int32))))
def Q0 (Z : State) (q0 : Int64) (q1 : Int64) (h0 : Heap) (n0 : Nat) (v : Option Value) (h : Heap) (L : List Loc) : Prop := v = some (.int (f0 q0 q1)) ∧ Fr n0 L
set_option maxRecDepth 65536 in
set_option maxHeartbeats 40000000 in
theorem rm0 (l : Launch) (Z : State) (a0 : Array Value) (hw : ∀ d ∈ tables_1, d.before a0 Z = true) (ws : List Jvm.Cond) (q0 : Int64) (q1 : Int64) (h0 : Heap) (n0 : Nat) (Z0 : n0 ≤ h0.size) :
    MetFree l x (head1 (Jvm.Cond.code x code maxLocals ret :: ws) room_1) (fun a U => a = #[(.long q0), (.long q1)] ∧ Z.Warmed39 U.vm ∧ U.heap = h0) (fun _ _ _ _ _ => True) (fun _ U o U' => ∃ v L, o = .returned v ∧ Q0 Z q0 q1 h0 n0 v U'.heap L ∧ FrameEnd U o U' L room_1.cells room_1.slots) := by
  refine MetFree.of_bodySF (plainFor_of_name pn_1) hisR ?_
  intro p e s m args below meth c s₁ Bd hml0 hP hK
  obtain ⟨rfl, hZ, hh⟩ := hP
  have hx := Bd.exec
  have hby := Bd.bytes
  have hml : c.maxLocals = 23 := hml0
  have hown : s.vm.findClass "com/example/rillgraph/rillgraph/cli/SeededRandomNextLongPinLaw" = some m.cls := findClass_of_methodNamed Bd.named
  have hnm := (name_of_methodNamed Bd.named Bd.method).1
  have X0 : Stand p l e room_1 s m #[(.long q0), (.long q1)] below meth c s₁ [] 0 0 := Stand.of_body Bd
  have e0 : s₁.heap = h0 := by rw [← hh, Bd.state]; rfl
  have N0 := Fr.nil n0
  have pre0 : own_Go p e below (s₁.setTop (entryFrame m #[(.long q0), (.long q1)] maxLocals)) (s₁.setTop (mkF m 0 #[.val (.long q0), .second, .val (.long q1), .second, .unset, .unset, .unset, .unset, .unset, .unset, .unset, .unset, .unset, .unset, .unset, .unset, .unset, .unset, .unset, .unset, .unset, .unset, .unset] [])) := fun t k => castTop (ef_0 m q0 q1) k
  have k1 : own_Go p e below (s₁.setTop (entryFrame m #[(.long q0), (.long q1)] maxLocals)) (s₁.setTop (mkF m 5 #[.val (.long q0), .second, .val (.long q1), .second, .val (.long (-7046029254386353131 : Int64)), .second, .unset, .unset, .unset, .unset, .unset, .unset, .unset, .unset, .unset, .unset, .unset, .unset, .unset, .unset, .unset, .unset, .unset] [])) := by
    intro t k
    refine pre0 t ?_
    show Steps p.tables e below (s₁.setTop (mkF m 0 #[.val (.long q0), .second, .val (.long q1), .second, .unset, .unset, .unset, .unset, .unset, .unset, .unset, .unset, .unset, .unset, .unset, .unset, .unset, .unset, .unset, .unset, .unset, .unset, .unset] [])) t
    refine X0.ldc2Long hx hown (mvT hZ (hw _ (List.mem_of_getElem? (i := 0) rfl))) (g := (mkF m 0 #[.val (.long q0), .second, .val (.long q1), .second, .unset, .unset, .unset, .unset, .unset, .unset, .unset, .unset, .unset, .unset, .unset, .unset, .unset, .unset, .unset, .unset, .unset, .unset, .unset] [])) rfl (hb hby at_0) _ ?_
    show Steps p.tables e below (s₁.setTop (mkF m 3 #[.val (.long q0), .second, .val (.long q1), .second, .unset, .unset, .unset, .unset, .unset, .unset, .unset, .unset, .unset, .unset, .unset, .unset, .unset, .unset, .unset, .unset, .unset, .unset, .unset] [(.long (-7046029254386353131 : Int64))])) t
    refine XS.lstore X0.here hx rfl (hb hby at_3) rfl (l' := #[.val (.long q0), .second, .val (.long q1), .second, .val (.long (-7046029254386353131 : Int64)), .second, .unset, .unset, .unset, .unset, .unset, .unset, .unset, .unset, .unset, .unset, .unset, .unset, .unset, .unset, .unset, .unset, .unset]) rfl ?_
    exact k
  obtain ⟨T2, h2, X2, e2, E2, A2, D2, -, st2⟩ := newO X0 hx hZ hown (hw _ (List.mem_of_getElem? (i := 1) rfl)) (hw _ (List.mem_of_getElem? (i := 2) rfl)) (hw _ (List.mem_of_getElem? (i := 3) rfl)) e0 (g := (mkF m 5 #[.val (.long q0), .second, .val (.long q1), .second, .val (.long (-7046029254386353131 : Int64)), .second, .unset, .unset, .unset, .unset, .unset, .unset, .unset, .unset, .unset, .unset, .unset, .unset, .unset, .unset, .unset, .unset, .unset] [])) rfl (hb hby at_5) (by decide) (by decide)
  obtain ⟨b2, g2⟩ : ∃ z, z = h0.size := ⟨_, rfl⟩
  rw [← g2] at A2 D2 st2
  have F_state_b2 : Fld Z h2 b2 "com/example/rillgraph/rillgraph/cli/SeededRandom" "state" "J" (.long (0 : Int64)) := D2 (Or.inl (hw _ (List.mem_of_getElem? (i := 11) rfl))) (ty := .long) (by decide)
  have g_b2 : n0 ≤ b2 := Nat.le_trans Z0 (Nat.le_of_eq g2.symm)
  have k3 : own_Go p e below (s₁.setTop (entryFrame m #[(.long q0), (.long q1)] maxLocals)) (T2.setTop (mkF m 8 #[.val (.long q0), .second, .val (.long q1), .second, .val (.long (-7046029254386353131 : Int64)), .second, .unset, .unset, .unset, .unset, .unset, .unset, .unset, .unset, .unset, .unset, .unset, .unset, .unset, .unset, .unset, .unset, .unset] [(.ref b2)])) := fun t k => k1 t (st2 t k)
  have k4 : own_Go p e below (s₁.setTop (entryFrame m #[(.long q0), (.long q1)] maxLocals)) (T2.setTop (mkF m 10 #[.val (.long q0), .second, .val (.long q1), .second, .val (.long (-7046029254386353131 : Int64)), .second, .unset, .unset, .unset, .unset, .unset, .unset, .unset, .unset, .unset, .unset, .unset, .unset, .unset, .unset, .unset, .unset, .unset] [(.long q0), (.ref b2), (.ref b2)])) := by
    intro t k
    refine k3 t ?_
    show Steps p.tables e below (T2.setTop (mkF m 8 #[.val (.long q0), .second, .val (.long q1), .second, .val (.long (-7046029254386353131 : Int64)), .second, .unset, .unset, .unset, .unset, .unset, .unset, .unset, .unset, .unset, .unset, .unset, .unset, .unset, .unset, .unset, .unset, .unset] [(.ref b2)])) t
    refine XS.dup X2.here hx rfl (hb hby at_8) rfl rfl ?_
    show Steps p.tables e below (T2.setTop (mkF m 9 #[.val (.long q0), .second, .val (.long q1), .second, .val (.long (-7046029254386353131 : Int64)), .second, .unset, .unset, .unset, .unset, .unset, .unset, .unset, .unset, .unset, .unset, .unset, .unset, .unset, .unset, .unset, .unset, .unset] [(.ref b2), (.ref b2)])) t
    refine XS.lloadN X2.here hx rfl (hb hby at_9) rfl ?_
    exact k
  obtain ⟨_, _, ⟨T5, L5, kk5, n5⟩, -, X5, ⟨Lc5, hQ5, l5, y5, z5⟩, st5⟩ := X2.specialBack hx (y := (⟨"com/example/rillgraph/rillgraph/cli/SeededRandom", "<init>", "(J)V"⟩ : MethodName)) rfl hown (mvT hZ (hw _ (List.mem_of_getElem? (i := 4) rfl))) (mvT hZ (hw _ (List.mem_of_getElem? (i := 5) rfl))) (mvT hZ (hw _ (List.mem_of_getElem? (i := 6) rfl))) (by decide) (backOf (W := 1) (rm1 l Z a0 hw [] b2 q0  h2 n0 (Nat.le_trans Z0 E2.1) g_b2 A2 F_state_b2) hZ (hw _ (List.mem_of_getElem? (i := 6) rfl)) (hw _ (List.mem_of_getElem? (i := 3) rfl)) (by decide) (by decide)) (g := (mkF m 10 #[.val (.long q0), .second, .val (.long q1), .second, .val (.long (-7046029254386353131 : Int64)), .second, .unset, .unset, .unset, .unset, .unset, .unset, .unset, .unset, .unset, .unset, .unset, .unset, .unset, .unset, .unset, .unset, .unset] [(.long q0), (.ref b2), (.ref b2)])) rfl (by rw [hml]; rfl) (Steps.refl _) (a := b2) (argsL := [(.long q0)]) (rest := [(.ref b2)]) (lenOf pd_0 rfl) rfl (by show 2 * 0 + _ ≤ _; exact Nat.le_of_eq rfl) (hb hby at_10) (fun _ _ => ⟨rfl, e2, (by decide : 1 + 0 ≤ _), (by decide : 1 + 0 ≤ _)⟩)
  dsimp only [Pt.U, Pt.locs, Pt.cells, Pt.slots] at X5 l5 y5 z5 st5 hQ5
  subst l5 y5 z5
  obtain ⟨rfl, N5q, Kq5, gE5, gF_state5⟩ := hQ5
  have N5 := Fr.app N0 N5q
  have k6 : own_Go p e below (s₁.setTop (entryFrame m #[(.long q0), (.long q1)] maxLocals)) (T5.setTop (mkF m 13 #[.val (.long q0), .second, .val (.long q1), .second, .val (.long (-7046029254386353131 : Int64)), .second, .unset, .unset, .unset, .unset, .unset, .unset, .unset, .unset, .unset, .unset, .unset, .unset, .unset, .unset, .unset, .unset, .unset] [(.ref b2)])) := fun t k => k4 t (st5.trans k)
  have k7 : own_Go p e below (s₁.setTop (entryFrame m #[(.long q0), (.long q1)] maxLocals)) (T5.setTop (mkF m 17 #[.val (.long q0), .second, .val (.long q1), .second, .val (.long (-7046029254386353131 : Int64)), .second, .val (.ref b2), .unset, .unset, .unset, .unset, .unset, .unset, .unset, .unset, .unset, .unset, .unset, .unset, .unset, .unset, .unset, .unset] [(.ref b2)])) := by
    intro t k
    refine k6 t ?_
    show Steps p.tables e below (T5.setTop (mkF m 13 #[.val (.long q0), .second, .val (.long q1), .second, .val (.long (-7046029254386353131 : Int64)), .second, .unset, .unset, .unset, .unset, .unset, .unset, .unset, .unset, .unset, .unset, .unset, .unset, .unset, .unset, .unset, .unset, .unset] [(.ref b2)])) t
    refine XS.astore X5.here hx rfl (hb hby at_13) rfl rfl (l' := #[.val (.long q0), .second, .val (.long q1), .second, .val (.long (-7046029254386353131 : Int64)), .second, .val (.ref b2), .unset, .unset, .unset, .unset, .unset, .unset, .unset, .unset, .unset, .unset, .unset, .unset, .unset, .unset, .unset, .unset]) rfl ?_
    show Steps p.tables e below (T5.setTop (mkF m 15 #[.val (.long q0), .second, .val (.long q1), .second, .val (.long (-7046029254386353131 : Int64)), .second, .val (.ref b2), .unset, .unset, .unset, .unset, .unset, .unset, .unset, .unset, .unset, .unset, .unset, .unset, .unset, .unset, .unset, .unset] [])) t
    refine XS.aload X5.here hx rfl (hb hby at_15) rfl rfl ?_
    exact k
  obtain ⟨cq8, kq8, q8a, q8b, q8c⟩ := isOf hZ rfl gE5
  obtain ⟨_, _, ⟨T8, L8, kk8, n8⟩, -, X8, ⟨Lc8, hQ8, l8, y8, z8⟩, st8⟩ := X5.virtualBack hx (y := (⟨"com/example/rillgraph/rillgraph/cli/SeededRandom", "nextLong", "()J"⟩ : MethodName)) (z := (⟨"com/example/rillgraph/rillgraph/cli/SeededRandom", "nextLong", "()J"⟩ : MethodName)) hown (mvT hZ (hw _ (List.mem_of_getElem? (i := 12) rfl))) (mvT hZ (hw _ (List.mem_of_getElem? (i := 13) rfl))) (notFace_of_selects (args := #[]) (mvT hZ (hw _ (List.mem_of_getElem? (i := 15) rfl)))) (mvT hZ (hw _ (List.mem_of_getElem? (i := 15) rfl))) (mvT hZ (hw _ (List.mem_of_getElem? (i := 14) rfl))) (by decide) (backOf (W := 0) (rm3 l Z a0 hw [] b2 q0 T5.heap n0 (Nat.le_trans (Nat.le_trans Z0 E2.1) Kq5.1) g_b2 gE5 gF_state5) hZ (hw _ (List.mem_of_getElem? (i := 16) rfl)) (hw _ (List.mem_of_getElem? (i := 3) rfl)) (by decide) (by decide)) q8a q8c (g := (mkF m 17 #[.val (.long q0), .second, .val (.long q1), .second, .val (.long (-7046029254386353131 : Int64)), .second, .val (.ref b2), .unset, .unset, .unset, .unset, .unset, .unset, .unset, .unset, .unset, .unset, .unset, .unset, .unset, .unset, .unset, .unset] [(.ref b2)])) rfl (by rw [hml]; rfl) (Steps.refl _) (argsL := []) (rest := []) (lenOf pd_1 rfl) rfl (by show 2 * 0 + _ ≤ _; exact Nat.le_of_eq rfl) (hb hby at_17) (fun _ _ => ⟨rfl, rfl, (by decide : 1 + 0 ≤ _), (by decide : 1 + 0 ≤ _)⟩)
  dsimp only [Pt.U, Pt.locs, Pt.cells, Pt.slots] at X8 l8 y8 z8 st8 hQ8
  subst l8 y8 z8
  obtain ⟨rfl, N8q, Kq8, gE8, gF_state8⟩ := hQ8
  have N8 := Fr.app N5 N8q
  have k9 : own_Go p e below (s₁.setTop (entryFrame m #[(.long q0), (.long q1)] maxLocals)) (T8.setTop (mkF m 20 #[.val (.long q0), .second, .val (.long q1), .second, .val (.long (-7046029254386353131 : Int64)), .second, .val (.ref b2), .unset, .unset, .unset, .unset, .unset, .unset, .unset, .unset, .unset, .unset, .unset, .unset, .unset, .unset, .unset, .unset] [(.long (f3 q0))])) := fun t k => k7 t (st8.trans k)
  have k10 : own_Go p e below (s₁.setTop (entryFrame m #[(.long q0), (.long q1)] maxLocals)) (T8.setTop (mkF m 24 #[.val (.long q0), .second, .val (.long q1), .second, .val (.long (-7046029254386353131 : Int64)), .second, .val (.ref b2), .val (.long (f3 q0)), .second, .unset, .unset, .unset, .unset, .unset, .unset, .unset, .unset, .unset, .unset, .unset, .unset, .unset, .unset] [(.ref b2)])) := by
    intro t k
    refine k9 t ?_
    show Steps p.tables e below (T8.setTop (mkF m 20 #[.val (.long q0), .second, .val (.long q1), .second, .val (.long (-7046029254386353131 : Int64)), .second, .val (.ref b2), .unset, .unset, .unset, .unset, .unset, .unset, .unset, .unset, .unset, .unset, .unset, .unset, .unset, .unset, .unset, .unset] [(.long (f3 q0))])) t
    refine XS.lstore X8.here hx rfl (hb hby at_20) rfl (l' := #[.val (.long q0), .second, .val (.long q1), .second, .val (.long (-7046029254386353131 : Int64)), .second, .val (.ref b2), .val (.long (f3 q0)), .second, .unset, .unset, .unset, .unset, .unset, .unset, .unset, .unset, .unset, .unset, .unset, .unset, .unset, .unset]) rfl ?_
    show Steps p.tables e below (T8.setTop (mkF m 22 #[.val (.long q0), .second, .val (.long q1), .second, .val (.long (-7046029254386353131 : Int64)), .second, .val (.ref b2), .val (.long (f3 q0)), .second, .unset, .unset, .unset, .unset, .unset, .unset, .unset, .unset, .unset, .unset, .unset, .unset, .unset, .unset] [])) t
    refine XS.aload X8.here hx rfl (hb hby at_22) rfl rfl ?_
    exact k
  obtain ⟨cq11, kq11, q11a, q11b, q11c⟩ := isOf hZ rfl gE8
  obtain ⟨_, _, ⟨T11, L11, kk11, n11⟩, -, X11, ⟨Lc11, hQ11, l11, y11, z11⟩, st11⟩ := X8.virtualBack hx (y := (⟨"com/example/rillgraph/rillgraph/cli/SeededRandom", "nextLong", "()J"⟩ : MethodName)) (z := (⟨"com/example/rillgraph/rillgraph/cli/SeededRandom", "nextLong", "()J"⟩ : MethodName)) hown (mvT hZ (hw _ (List.mem_of_getElem? (i := 12) rfl))) (mvT hZ (hw _ (List.mem_of_getElem? (i := 13) rfl))) (notFace_of_selects (args := #[]) (mvT hZ (hw _ (List.mem_of_getElem? (i := 15) rfl)))) (mvT hZ (hw _ (List.mem_of_getElem? (i := 15) rfl))) (mvT hZ (hw _ (List.mem_of_getElem? (i := 14) rfl))) (by decide) (backOf (W := 0) (rm3 l Z a0 hw [] b2 (q0 + (-7046029254386353131 : Int64)) T8.heap n0 (Nat.le_trans (Nat.le_trans (Nat.le_trans Z0 E2.1) Kq5.1) Kq8.1) g_b2 gE8 gF_state8) hZ (hw _ (List.mem_of_getElem? (i := 16) rfl)) (hw _ (List.mem_of_getElem? (i := 3) rfl)) (by decide) (by decide)) q11a q11c (g := (mkF m 24 #[.val (.long q0), .second, .val (.long q1), .second, .val (.long (-7046029254386353131 : Int64)), .second, .val (.ref b2), .val (.long (f3 q0)), .second, .unset, .unset, .unset, .unset, .unset, .unset, .unset, .unset, .unset, .unset, .unset, .unset, .unset, .unset] [(.ref b2)])) rfl (by rw [hml]; rfl) (Steps.refl _) (argsL := []) (rest := []) (lenOf pd_1 rfl) rfl (by show 2 * 0 + _ ≤ _; exact Nat.le_of_eq rfl) (hb hby at_24) (fun _ _ => ⟨rfl, rfl, (by decide : 1 + 0 ≤ _), (by decide : 1 + 0 ≤ _)⟩)
  dsimp only [Pt.U, Pt.locs, Pt.cells, Pt.slots] at X11 l11 y11 z11 st11 hQ11
  subst l11 y11 z11
  obtain ⟨rfl, N11q, Kq11, gE11, gF_state11⟩ := hQ11
  have N11 := Fr.app N8 N11q
  have k12 : own_Go p e below (s₁.setTop (entryFrame m #[(.long q0), (.long q1)] maxLocals)) (T11.setTop (mkF m 27 #[.val (.long q0), .second, .val (.long q1), .second, .val (.long (-7046029254386353131 : Int64)), .second, .val (.ref b2), .val (.long (f3 q0)), .second, .unset, .unset, .unset, .unset, .unset, .unset, .unset, .unset, .unset, .unset, .unset, .unset, .unset, .unset] [(.long (f3 (q0 + (-7046029254386353131 : Int64))))])) := fun t k => k10 t (st11.trans k)
  have k13 : own_Go p e below (s₁.setTop (entryFrame m #[(.long q0), (.long q1)] maxLocals)) (T11.setTop (mkF m 29 #[.val (.long q0), .second, .val (.long q1), .second, .val (.long (-7046029254386353131 : Int64)), .second, .val (.ref b2), .val (.long (f3 q0)), .second, .val (.long (v0_27 q0)), .second, .unset, .unset, .unset, .unset, .unset, .unset, .unset, .unset, .unset, .unset, .unset, .unset] [])) := by
    intro t k
    refine k12 t ?_
    show Steps p.tables e below (T11.setTop (mkF m 27 #[.val (.long q0), .second, .val (.long q1), .second, .val (.long (-7046029254386353131 : Int64)), .second, .val (.ref b2), .val (.long (f3 q0)), .second, .unset, .unset, .unset, .unset, .unset, .unset, .unset, .unset, .unset, .unset, .unset, .unset, .unset, .unset] [(.long (f3 (q0 + (-7046029254386353131 : Int64))))])) t
    refine XS.lstore X11.here hx rfl (hb hby at_27) rfl (l' := #[.val (.long q0), .second, .val (.long q1), .second, .val (.long (-7046029254386353131 : Int64)), .second, .val (.ref b2), .val (.long (f3 q0)), .second, .val (.long (v0_27 q0)), .second, .unset, .unset, .unset, .unset, .unset, .unset, .unset, .unset, .unset, .unset, .unset, .unset]) rfl ?_
    exact k
  obtain ⟨T14, h14, X14, e14, E14, A14, D14, -, st14⟩ := newO X11 hx hZ hown (hw _ (List.mem_of_getElem? (i := 1) rfl)) (hw _ (List.mem_of_getElem? (i := 2) rfl)) (hw _ (List.mem_of_getElem? (i := 3) rfl)) rfl (g := (mkF m 29 #[.val (.long q0), .second, .val (.long q1), .second, .val (.long (-7046029254386353131 : Int64)), .second, .val (.ref b2), .val (.long (f3 q0)), .second, .val (.long (v0_27 q0)), .second, .unset, .unset, .unset, .unset, .unset, .unset, .unset, .unset, .unset, .unset, .unset, .unset] [])) rfl (hb hby at_29) (by decide) (by decide)
  obtain ⟨b14, g14⟩ : ∃ z, z = T11.heap.size := ⟨_, rfl⟩
  rw [← g14] at A14 D14 st14
  have F_state_b14 : Fld Z h14 b14 "com/example/rillgraph/rillgraph/cli/SeededRandom" "state" "J" (.long (0 : Int64)) := D14 (Or.inl (hw _ (List.mem_of_getElem? (i := 11) rfl))) (ty := .long) (by decide)
  have g_b14 : n0 ≤ b14 := Nat.le_trans (Nat.le_trans (Nat.le_trans (Nat.le_trans (Nat.le_trans Z0 E2.1) Kq5.1) Kq8.1) Kq11.1) (Nat.le_of_eq g14.symm)
  have k15 : own_Go p e below (s₁.setTop (entryFrame m #[(.long q0), (.long q1)] maxLocals)) (T14.setTop (mkF m 32 #[.val (.long q0), .second, .val (.long q1), .second, .val (.long (-7046029254386353131 : Int64)), .second, .val (.ref b2), .val (.long (f3 q0)), .second, .val (.long (v0_27 q0)), .second, .unset, .unset, .unset, .unset, .unset, .unset, .unset, .unset, .unset, .unset, .unset, .unset] [(.ref b14)])) := fun t k => k13 t (st14 t k)
  have k16 : own_Go p e below (s₁.setTop (entryFrame m #[(.long q0), (.long q1)] maxLocals)) (T14.setTop (mkF m 37 #[.val (.long q0), .second, .val (.long q1), .second, .val (.long (-7046029254386353131 : Int64)), .second, .val (.ref b2), .val (.long (f3 q0)), .second, .val (.long (v0_27 q0)), .second, .unset, .unset, .unset, .unset, .unset, .unset, .unset, .unset, .unset, .unset, .unset, .unset] [(.long (q0 + (-7046029254386353131 : Int64))), (.ref b14), (.ref b14)])) := by
    intro t k
    refine k15 t ?_
    show Steps p.tables e below (T14.setTop (mkF m 32 #[.val (.long q0), .second, .val (.long q1), .second, .val (.long (-7046029254386353131 : Int64)), .second, .val (.ref b2), .val (.long (f3 q0)), .second, .val (.long (v0_27 q0)), .second, .unset, .unset, .unset, .unset, .unset, .unset, .unset, .unset, .unset, .unset, .unset, .unset] [(.ref b14)])) t
    refine XS.dup X14.here hx rfl (hb hby at_32) rfl rfl ?_
    show Steps p.tables e below (T14.setTop (mkF m 33 #[.val (.long q0), .second, .val (.long q1), .second, .val (.long (-7046029254386353131 : Int64)), .second, .val (.ref b2), .val (.long (f3 q0)), .second, .val (.long (v0_27 q0)), .second, .unset, .unset, .unset, .unset, .unset, .unset, .unset, .unset, .unset, .unset, .unset, .unset] [(.ref b14), (.ref b14)])) t
    refine XS.lloadN X14.here hx rfl (hb hby at_33) rfl ?_
    show Steps p.tables e below (T14.setTop (mkF m 34 #[.val (.long q0), .second, .val (.long q1), .second, .val (.long (-7046029254386353131 : Int64)), .second, .val (.ref b2), .val (.long (f3 q0)), .second, .val (.long (v0_27 q0)), .second, .unset, .unset, .unset, .unset, .unset, .unset, .unset, .unset, .unset, .unset, .unset, .unset] [(.long q0), (.ref b14), (.ref b14)])) t
    refine XS.lload X14.here hx rfl (hb hby at_34) rfl ?_
    show Steps p.tables e below (T14.setTop (mkF m 36 #[.val (.long q0), .second, .val (.long q1), .second, .val (.long (-7046029254386353131 : Int64)), .second, .val (.ref b2), .val (.long (f3 q0)), .second, .val (.long (v0_27 q0)), .second, .unset, .unset, .unset, .unset, .unset, .unset, .unset, .unset, .unset, .unset, .unset, .unset] [(.long (-7046029254386353131 : Int64)), (.long q0), (.ref b14), (.ref b14)])) t
    refine XS.ladd X14.here hx rfl (hb hby at_36) rfl ?_
    exact k
  obtain ⟨_, _, ⟨T17, L17, kk17, n17⟩, -, X17, ⟨Lc17, hQ17, l17, y17, z17⟩, st17⟩ := X14.specialBack hx (y := (⟨"com/example/rillgraph/rillgraph/cli/SeededRandom", "<init>", "(J)V"⟩ : MethodName)) rfl hown (mvT hZ (hw _ (List.mem_of_getElem? (i := 4) rfl))) (mvT hZ (hw _ (List.mem_of_getElem? (i := 5) rfl))) (mvT hZ (hw _ (List.mem_of_getElem? (i := 6) rfl))) (by decide) (backOf (W := 1) (rm1 l Z a0 hw [] b14 (q0 + (-7046029254386353131 : Int64))  h14 n0 (Nat.le_trans (Nat.le_trans (Nat.le_trans (Nat.le_trans (Nat.le_trans Z0 E2.1) Kq5.1) Kq8.1) Kq11.1) E14.1) g_b14 A14 F_state_b14) hZ (hw _ (List.mem_of_getElem? (i := 6) rfl)) (hw _ (List.mem_of_getElem? (i := 3) rfl)) (by decide) (by decide)) (g := (mkF m 37 #[.val (.long q0), .second, .val (.long q1), .second, .val (.long (-7046029254386353131 : Int64)), .second, .val (.ref b2), .val (.long (f3 q0)), .second, .val (.long (v0_27 q0)), .second, .unset, .unset, .unset, .unset, .unset, .unset, .unset, .unset, .unset, .unset, .unset, .unset] [(.long (q0 + (-7046029254386353131 : Int64))), (.ref b14), (.ref b14)])) rfl (by rw [hml]; rfl) (Steps.refl _) (a := b14) (argsL := [(.long (q0 + (-7046029254386353131 : Int64)))]) (rest := [(.ref b14)]) (lenOf pd_0 rfl) rfl (by show 2 * 0 + _ ≤ _; exact Nat.le_of_eq rfl) (hb hby at_37) (fun _ _ => ⟨rfl, e14, (by decide : 2 + 0 ≤ _), (by decide : 2 + 0 ≤ _)⟩)
  dsimp only [Pt.U, Pt.locs, Pt.cells, Pt.slots] at X17 l17 y17 z17 st17 hQ17
  subst l17 y17 z17
  obtain ⟨rfl, N17q, Kq17, gE17, gF_state17⟩ := hQ17
  have N17 := Fr.app N11 N17q
  have k18 : own_Go p e below (s₁.setTop (entryFrame m #[(.long q0), (.long q1)] maxLocals)) (T17.setTop (mkF m 40 #[.val (.long q0), .second, .val (.long q1), .second, .val (.long (-7046029254386353131 : Int64)), .second, .val (.ref b2), .val (.long (f3 q0)), .second, .val (.long (v0_27 q0)), .second, .unset, .unset, .unset, .unset, .unset, .unset, .unset, .unset, .unset, .unset, .unset, .unset] [(.ref b14)])) := fun t k => k16 t (st17.trans k)
  have k19 : own_Go p e below (s₁.setTop (entryFrame m #[(.long q0), (.long q1)] maxLocals)) (T17.setTop (mkF m 44 #[.val (.long q0), .second, .val (.long q1), .second, .val (.long (-7046029254386353131 : Int64)), .second, .val (.ref b2), .val (.long (f3 q0)), .second, .val (.long (v0_27 q0)), .second, .val (.ref b14), .unset, .unset, .unset, .unset, .unset, .unset, .unset, .unset, .unset, .unset, .unset] [(.ref b14)])) := by
    intro t k
    refine k18 t ?_
    show Steps p.tables e below (T17.setTop (mkF m 40 #[.val (.long q0), .second, .val (.long q1), .second, .val (.long (-7046029254386353131 : Int64)), .second, .val (.ref b2), .val (.long (f3 q0)), .second, .val (.long (v0_27 q0)), .second, .unset, .unset, .unset, .unset, .unset, .unset, .unset, .unset, .unset, .unset, .unset, .unset] [(.ref b14)])) t
    refine XS.astore X17.here hx rfl (hb hby at_40) rfl rfl (l' := #[.val (.long q0), .second, .val (.long q1), .second, .val (.long (-7046029254386353131 : Int64)), .second, .val (.ref b2), .val (.long (f3 q0)), .second, .val (.long (v0_27 q0)), .second, .val (.ref b14), .unset, .unset, .unset, .unset, .unset, .unset, .unset, .unset, .unset, .unset, .unset]) rfl ?_
    show Steps p.tables e below (T17.setTop (mkF m 42 #[.val (.long q0), .second, .val (.long q1), .second, .val (.long (-7046029254386353131 : Int64)), .second, .val (.ref b2), .val (.long (f3 q0)), .second, .val (.long (v0_27 q0)), .second, .val (.ref b14), .unset, .unset, .unset, .unset, .unset, .unset, .unset, .unset, .unset, .unset, .unset] [])) t
    refine XS.aload X17.here hx rfl (hb hby at_42) rfl rfl ?_
    exact k
  obtain ⟨cq20, kq20, q20a, q20b, q20c⟩ := isOf hZ rfl gE17
  obtain ⟨_, _, ⟨T20, L20, kk20, n20⟩, -, X20, ⟨Lc20, hQ20, l20, y20, z20⟩, st20⟩ := X17.virtualBack hx (y := (⟨"com/example/rillgraph/rillgraph/cli/SeededRandom", "nextLong", "()J"⟩ : MethodName)) (z := (⟨"com/example/rillgraph/rillgraph/cli/SeededRandom", "nextLong", "()J"⟩ : MethodName)) hown (mvT hZ (hw _ (List.mem_of_getElem? (i := 12) rfl))) (mvT hZ (hw _ (List.mem_of_getElem? (i := 13) rfl))) (notFace_of_selects (args := #[]) (mvT hZ (hw _ (List.mem_of_getElem? (i := 15) rfl)))) (mvT hZ (hw _ (List.mem_of_getElem? (i := 15) rfl))) (mvT hZ (hw _ (List.mem_of_getElem? (i := 14) rfl))) (by decide) (backOf (W := 0) (rm3 l Z a0 hw [] b14 (q0 + (-7046029254386353131 : Int64)) T17.heap n0 (Nat.le_trans (Nat.le_trans (Nat.le_trans (Nat.le_trans (Nat.le_trans (Nat.le_trans Z0 E2.1) Kq5.1) Kq8.1) Kq11.1) E14.1) Kq17.1) g_b14 gE17 gF_state17) hZ (hw _ (List.mem_of_getElem? (i := 16) rfl)) (hw _ (List.mem_of_getElem? (i := 3) rfl)) (by decide) (by decide)) q20a q20c (g := (mkF m 44 #[.val (.long q0), .second, .val (.long q1), .second, .val (.long (-7046029254386353131 : Int64)), .second, .val (.ref b2), .val (.long (f3 q0)), .second, .val (.long (v0_27 q0)), .second, .val (.ref b14), .unset, .unset, .unset, .unset, .unset, .unset, .unset, .unset, .unset, .unset, .unset] [(.ref b14)])) rfl (by rw [hml]; rfl) (Steps.refl _) (argsL := []) (rest := []) (lenOf pd_1 rfl) rfl (by show 2 * 0 + _ ≤ _; exact Nat.le_of_eq rfl) (hb hby at_44) (fun _ _ => ⟨rfl, rfl, (by decide : 2 + 0 ≤ _), (by decide : 2 + 0 ≤ _)⟩)
  dsimp only [Pt.U, Pt.locs, Pt.cells, Pt.slots] at X20 l20 y20 z20 st20 hQ20
  subst l20 y20 z20
  obtain ⟨rfl, N20q, Kq20, gE20, gF_state20⟩ := hQ20
  have N20 := Fr.app N17 N20q
  have k21 : own_Go p e below (s₁.setTop (entryFrame m #[(.long q0), (.long q1)] maxLocals)) (T20.setTop (mkF m 47 #[.val (.long q0), .second, .val (.long q1), .second, .val (.long (-7046029254386353131 : Int64)), .second, .val (.ref b2), .val (.long (f3 q0)), .second, .val (.long (v0_27 q0)), .second, .val (.ref b14), .unset, .unset, .unset, .unset, .unset, .unset, .unset, .unset, .unset, .unset, .unset] [(.long (f3 (q0 + (-7046029254386353131 : Int64))))])) := fun t k => k19 t (st20.trans k)
  have k22 : own_Go p e below (s₁.setTop (entryFrame m #[(.long q0), (.long q1)] maxLocals)) (T20.setTop (mkF m 49 #[.val (.long q0), .second, .val (.long q1), .second, .val (.long (-7046029254386353131 : Int64)), .second, .val (.ref b2), .val (.long (f3 q0)), .second, .val (.long (v0_27 q0)), .second, .val (.ref b14), .val (.long (v0_47 q0)), .second, .unset, .unset, .unset, .unset, .unset, .unset, .unset, .unset, .unset] [])) := by
    intro t k
    refine k21 t ?_
    show Steps p.tables e below (T20.setTop (mkF m 47 #[.val (.long q0), .second, .val (.long q1), .second, .val (.long (-7046029254386353131 : Int64)), .second, .val (.ref b2), .val (.long (f3 q0)), .second, .val (.long (v0_27 q0)), .second, .val (.ref b14), .unset, .unset, .unset, .unset, .unset, .unset, .unset, .unset, .unset, .unset, .unset] [(.long (f3 (q0 + (-7046029254386353131 : Int64))))])) t
    refine XS.lstore X20.here hx rfl (hb hby at_47) rfl (l' := #[.val (.long q0), .second, .val (.long q1), .second, .val (.long (-7046029254386353131 : Int64)), .second, .val (.ref b2), .val (.long (f3 q0)), .second, .val (.long (v0_27 q0)), .second, .val (.ref b14), .val (.long (v0_47 q0)), .second, .unset, .unset, .unset, .unset, .unset, .unset, .unset, .unset, .unset]) rfl ?_
    exact k
  obtain ⟨T23, h23, X23, e23, E23, A23, D23, -, st23⟩ := newO X20 hx hZ hown (hw _ (List.mem_of_getElem? (i := 1) rfl)) (hw _ (List.mem_of_getElem? (i := 2) rfl)) (hw _ (List.mem_of_getElem? (i := 3) rfl)) rfl (g := (mkF m 49 #[.val (.long q0), .second, .val (.long q1), .second, .val (.long (-7046029254386353131 : Int64)), .second, .val (.ref b2), .val (.long (f3 q0)), .second, .val (.long (v0_27 q0)), .second, .val (.ref b14), .val (.long (v0_47 q0)), .second, .unset, .unset, .unset, .unset, .unset, .unset, .unset, .unset, .unset] [])) rfl (hb hby at_49) (by decide) (by decide)
  obtain ⟨b23, g23⟩ : ∃ z, z = T20.heap.size := ⟨_, rfl⟩
  rw [← g23] at A23 D23 st23
  have F_state_b23 : Fld Z h23 b23 "com/example/rillgraph/rillgraph/cli/SeededRandom" "state" "J" (.long (0 : Int64)) := D23 (Or.inl (hw _ (List.mem_of_getElem? (i := 11) rfl))) (ty := .long) (by decide)
  have g_b23 : n0 ≤ b23 := Nat.le_trans (Nat.le_trans (Nat.le_trans (Nat.le_trans (Nat.le_trans (Nat.le_trans (Nat.le_trans (Nat.le_trans Z0 E2.1) Kq5.1) Kq8.1) Kq11.1) E14.1) Kq17.1) Kq20.1) (Nat.le_of_eq g23.symm)
  have k24 : own_Go p e below (s₁.setTop (entryFrame m #[(.long q0), (.long q1)] maxLocals)) (T23.setTop (mkF m 52 #[.val (.long q0), .second, .val (.long q1), .second, .val (.long (-7046029254386353131 : Int64)), .second, .val (.ref b2), .val (.long (f3 q0)), .second, .val (.long (v0_27 q0)), .second, .val (.ref b14), .val (.long (v0_47 q0)), .second, .unset, .unset, .unset, .unset, .unset, .unset, .unset, .unset, .unset] [(.ref b23)])) := fun t k => k22 t (st23 t k)
  have k25 : own_Go p e below (s₁.setTop (entryFrame m #[(.long q0), (.long q1)] maxLocals)) (T23.setTop (mkF m 54 #[.val (.long q0), .second, .val (.long q1), .second, .val (.long (-7046029254386353131 : Int64)), .second, .val (.ref b2), .val (.long (f3 q0)), .second, .val (.long (v0_27 q0)), .second, .val (.ref b14), .val (.long (v0_47 q0)), .second, .unset, .unset, .unset, .unset, .unset, .unset, .unset, .unset, .unset] [(.long q1), (.ref b23), (.ref b23)])) := by
    intro t k
    refine k24 t ?_
    show Steps p.tables e below (T23.setTop (mkF m 52 #[.val (.long q0), .second, .val (.long q1), .second, .val (.long (-7046029254386353131 : Int64)), .second, .val (.ref b2), .val (.long (f3 q0)), .second, .val (.long (v0_27 q0)), .second, .val (.ref b14), .val (.long (v0_47 q0)), .second, .unset, .unset, .unset, .unset, .unset, .unset, .unset, .unset, .unset] [(.ref b23)])) t
    refine XS.dup X23.here hx rfl (hb hby at_52) rfl rfl ?_
    show Steps p.tables e below (T23.setTop (mkF m 53 #[.val (.long q0), .second, .val (.long q1), .second, .val (.long (-7046029254386353131 : Int64)), .second, .val (.ref b2), .val (.long (f3 q0)), .second, .val (.long (v0_27 q0)), .second, .val (.ref b14), .val (.long (v0_47 q0)), .second, .unset, .unset, .unset, .unset, .unset, .unset, .unset, .unset, .unset] [(.ref b23), (.ref b23)])) t
    refine XS.lloadN X23.here hx rfl (hb hby at_53) rfl ?_
    exact k
  obtain ⟨_, _, ⟨T26, L26, kk26, n26⟩, -, X26, ⟨Lc26, hQ26, l26, y26, z26⟩, st26⟩ := X23.specialBack hx (y := (⟨"com/example/rillgraph/rillgraph/cli/SeededRandom", "<init>", "(J)V"⟩ : MethodName)) rfl hown (mvT hZ (hw _ (List.mem_of_getElem? (i := 4) rfl))) (mvT hZ (hw _ (List.mem_of_getElem? (i := 5) rfl))) (mvT hZ (hw _ (List.mem_of_getElem? (i := 6) rfl))) (by decide) (backOf (W := 1) (rm1 l Z a0 hw [] b23 q1  h23 n0 (Nat.le_trans (Nat.le_trans (Nat.le_trans (Nat.le_trans (Nat.le_trans (Nat.le_trans (Nat.le_trans (Nat.le_trans Z0 E2.1) Kq5.1) Kq8.1) Kq11.1) E14.1) Kq17.1) Kq20.1) E23.1) g_b23 A23 F_state_b23) hZ (hw _ (List.mem_of_getElem? (i := 6) rfl)) (hw _ (List.mem_of_getElem? (i := 3) rfl)) (by decide) (by decide)) (g := (mkF m 54 #[.val (.long q0), .second, .val (.long q1), .second, .val (.long (-7046029254386353131 : Int64)), .second, .val (.ref b2), .val (.long (f3 q0)), .second, .val (.long (v0_27 q0)), .second, .val (.ref b14), .val (.long (v0_47 q0)), .second, .unset, .unset, .unset, .unset, .unset, .unset, .unset, .unset, .unset] [(.long q1), (.ref b23), (.ref b23)])) rfl (by rw [hml]; rfl) (Steps.refl _) (a := b23) (argsL := [(.long q1)]) (rest := [(.ref b23)]) (lenOf pd_0 rfl) rfl (by show 2 * 0 + _ ≤ _; exact Nat.le_of_eq rfl) (hb hby at_54) (fun _ _ => ⟨rfl, e23, (by decide : 3 + 0 ≤ _), (by decide : 3 + 0 ≤ _)⟩)
  dsimp only [Pt.U, Pt.locs, Pt.cells, Pt.slots] at X26 l26 y26 z26 st26 hQ26
  subst l26 y26 z26
  obtain ⟨rfl, N26q, Kq26, gE26, gF_state26⟩ := hQ26
  have N26 := Fr.app N20 N26q
  have k27 : own_Go p e below (s₁.setTop (entryFrame m #[(.long q0), (.long q1)] maxLocals)) (T26.setTop (mkF m 57 #[.val (.long q0), .second, .val (.long q1), .second, .val (.long (-7046029254386353131 : Int64)), .second, .val (.ref b2), .val (.long (f3 q0)), .second, .val (.long (v0_27 q0)), .second, .val (.ref b14), .val (.long (v0_47 q0)), .second, .unset, .unset, .unset, .unset, .unset, .unset, .unset, .unset, .unset] [(.ref b23)])) := fun t k => k25 t (st26.trans k)
  have k28 : own_Go p e below (s₁.setTop (entryFrame m #[(.long q0), (.long q1)] maxLocals)) (T26.setTop (mkF m 61 #[.val (.long q0), .second, .val (.long q1), .second, .val (.long (-7046029254386353131 : Int64)), .second, .val (.ref b2), .val (.long (f3 q0)), .second, .val (.long (v0_27 q0)), .second, .val (.ref b14), .val (.long (v0_47 q0)), .second, .val (.ref b23), .unset, .unset, .unset, .unset, .unset, .unset, .unset, .unset] [(.ref b23)])) := by
    intro t k
    refine k27 t ?_
    show Steps p.tables e below (T26.setTop (mkF m 57 #[.val (.long q0), .second, .val (.long q1), .second, .val (.long (-7046029254386353131 : Int64)), .second, .val (.ref b2), .val (.long (f3 q0)), .second, .val (.long (v0_27 q0)), .second, .val (.ref b14), .val (.long (v0_47 q0)), .second, .unset, .unset, .unset, .unset, .unset, .unset, .unset, .unset, .unset] [(.ref b23)])) t
    refine XS.astore X26.here hx rfl (hb hby at_57) rfl rfl (l' := #[.val (.long q0), .second, .val (.long q1), .second, .val (.long (-7046029254386353131 : Int64)), .second, .val (.ref b2), .val (.long (f3 q0)), .second, .val (.long (v0_27 q0)), .second, .val (.ref b14), .val (.long (v0_47 q0)), .second, .val (.ref b23), .unset, .unset, .unset, .unset, .unset, .unset, .unset, .unset]) rfl ?_
    show Steps p.tables e below (T26.setTop (mkF m 59 #[.val (.long q0), .second, .val (.long q1), .second, .val (.long (-7046029254386353131 : Int64)), .second, .val (.ref b2), .val (.long (f3 q0)), .second, .val (.long (v0_27 q0)), .second, .val (.ref b14), .val (.long (v0_47 q0)), .second, .val (.ref b23), .unset, .unset, .unset, .unset, .unset, .unset, .unset, .unset] [])) t
    refine XS.aload X26.here hx rfl (hb hby at_59) rfl rfl ?_
    exact k
  obtain ⟨cq29, kq29, q29a, q29b, q29c⟩ := isOf hZ rfl gE26
  obtain ⟨_, _, ⟨T29, L29, kk29, n29⟩, -, X29, ⟨Lc29, hQ29, l29, y29, z29⟩, st29⟩ := X26.virtualBack hx (y := (⟨"com/example/rillgraph/rillgraph/cli/SeededRandom", "nextLong", "()J"⟩ : MethodName)) (z := (⟨"com/example/rillgraph/rillgraph/cli/SeededRandom", "nextLong", "()J"⟩ : MethodName)) hown (mvT hZ (hw _ (List.mem_of_getElem? (i := 12) rfl))) (mvT hZ (hw _ (List.mem_of_getElem? (i := 13) rfl))) (notFace_of_selects (args := #[]) (mvT hZ (hw _ (List.mem_of_getElem? (i := 15) rfl)))) (mvT hZ (hw _ (List.mem_of_getElem? (i := 15) rfl))) (mvT hZ (hw _ (List.mem_of_getElem? (i := 14) rfl))) (by decide) (backOf (W := 0) (rm3 l Z a0 hw [] b23 q1 T26.heap n0 (Nat.le_trans (Nat.le_trans (Nat.le_trans (Nat.le_trans (Nat.le_trans (Nat.le_trans (Nat.le_trans (Nat.le_trans (Nat.le_trans Z0 E2.1) Kq5.1) Kq8.1) Kq11.1) E14.1) Kq17.1) Kq20.1) E23.1) Kq26.1) g_b23 gE26 gF_state26) hZ (hw _ (List.mem_of_getElem? (i := 16) rfl)) (hw _ (List.mem_of_getElem? (i := 3) rfl)) (by decide) (by decide)) q29a q29c (g := (mkF m 61 #[.val (.long q0), .second, .val (.long q1), .second, .val (.long (-7046029254386353131 : Int64)), .second, .val (.ref b2), .val (.long (f3 q0)), .second, .val (.long (v0_27 q0)), .second, .val (.ref b14), .val (.long (v0_47 q0)), .second, .val (.ref b23), .unset, .unset, .unset, .unset, .unset, .unset, .unset, .unset] [(.ref b23)])) rfl (by rw [hml]; rfl) (Steps.refl _) (argsL := []) (rest := []) (lenOf pd_1 rfl) rfl (by show 2 * 0 + _ ≤ _; exact Nat.le_of_eq rfl) (hb hby at_61) (fun _ _ => ⟨rfl, rfl, (by decide : 3 + 0 ≤ _), (by decide : 3 + 0 ≤ _)⟩)
  dsimp only [Pt.U, Pt.locs, Pt.cells, Pt.slots] at X29 l29 y29 z29 st29 hQ29
  subst l29 y29 z29
  obtain ⟨rfl, N29q, Kq29, gE29, gF_state29⟩ := hQ29
  have N29 := Fr.app N26 N29q
  have k30 : own_Go p e below (s₁.setTop (entryFrame m #[(.long q0), (.long q1)] maxLocals)) (T29.setTop (mkF m 64 #[.val (.long q0), .second, .val (.long q1), .second, .val (.long (-7046029254386353131 : Int64)), .second, .val (.ref b2), .val (.long (f3 q0)), .second, .val (.long (v0_27 q0)), .second, .val (.ref b14), .val (.long (v0_47 q0)), .second, .val (.ref b23), .unset, .unset, .unset, .unset, .unset, .unset, .unset, .unset] [(.long (f3 q1))])) := fun t k => k28 t (st29.trans k)
  have k31 : own_Go p e below (s₁.setTop (entryFrame m #[(.long q0), (.long q1)] maxLocals)) (T29.setTop (mkF m 66 #[.val (.long q0), .second, .val (.long q1), .second, .val (.long (-7046029254386353131 : Int64)), .second, .val (.ref b2), .val (.long (f3 q0)), .second, .val (.long (v0_27 q0)), .second, .val (.ref b14), .val (.long (v0_47 q0)), .second, .val (.ref b23), .val (.long (f3 q1)), .second, .unset, .unset, .unset, .unset, .unset, .unset] [])) := by
    intro t k
    refine k30 t ?_
    show Steps p.tables e below (T29.setTop (mkF m 64 #[.val (.long q0), .second, .val (.long q1), .second, .val (.long (-7046029254386353131 : Int64)), .second, .val (.ref b2), .val (.long (f3 q0)), .second, .val (.long (v0_27 q0)), .second, .val (.ref b14), .val (.long (v0_47 q0)), .second, .val (.ref b23), .unset, .unset, .unset, .unset, .unset, .unset, .unset, .unset] [(.long (f3 q1))])) t
    refine XS.lstore X29.here hx rfl (hb hby at_64) rfl (l' := #[.val (.long q0), .second, .val (.long q1), .second, .val (.long (-7046029254386353131 : Int64)), .second, .val (.ref b2), .val (.long (f3 q0)), .second, .val (.long (v0_27 q0)), .second, .val (.ref b14), .val (.long (v0_47 q0)), .second, .val (.ref b23), .val (.long (f3 q1)), .second, .unset, .unset, .unset, .unset, .unset, .unset]) rfl ?_
    exact k
  obtain ⟨T32, h32, X32, e32, E32, A32, D32, -, st32⟩ := newO X29 hx hZ hown (hw _ (List.mem_of_getElem? (i := 1) rfl)) (hw _ (List.mem_of_getElem? (i := 2) rfl)) (hw _ (List.mem_of_getElem? (i := 3) rfl)) rfl (g := (mkF m 66 #[.val (.long q0), .second, .val (.long q1), .second, .val (.long (-7046029254386353131 : Int64)), .second, .val (.ref b2), .val (.long (f3 q0)), .second, .val (.long (v0_27 q0)), .second, .val (.ref b14), .val (.long (v0_47 q0)), .second, .val (.ref b23), .val (.long (f3 q1)), .second, .unset, .unset, .unset, .unset, .unset, .unset] [])) rfl (hb hby at_66) (by decide) (by decide)
  obtain ⟨b32, g32⟩ : ∃ z, z = T29.heap.size := ⟨_, rfl⟩
  rw [← g32] at A32 D32 st32
  have F_state_b32 : Fld Z h32 b32 "com/example/rillgraph/rillgraph/cli/SeededRandom" "state" "J" (.long (0 : Int64)) := D32 (Or.inl (hw _ (List.mem_of_getElem? (i := 11) rfl))) (ty := .long) (by decide)
  have g_b32 : n0 ≤ b32 := Nat.le_trans (Nat.le_trans (Nat.le_trans (Nat.le_trans (Nat.le_trans (Nat.le_trans (Nat.le_trans (Nat.le_trans (Nat.le_trans (Nat.le_trans (Nat.le_trans Z0 E2.1) Kq5.1) Kq8.1) Kq11.1) E14.1) Kq17.1) Kq20.1) E23.1) Kq26.1) Kq29.1) (Nat.le_of_eq g32.symm)
  have k33 : own_Go p e below (s₁.setTop (entryFrame m #[(.long q0), (.long q1)] maxLocals)) (T32.setTop (mkF m 69 #[.val (.long q0), .second, .val (.long q1), .second, .val (.long (-7046029254386353131 : Int64)), .second, .val (.ref b2), .val (.long (f3 q0)), .second, .val (.long (v0_27 q0)), .second, .val (.ref b14), .val (.long (v0_47 q0)), .second, .val (.ref b23), .val (.long (f3 q1)), .second, .unset, .unset, .unset, .unset, .unset, .unset] [(.ref b32)])) := fun t k => k31 t (st32 t k)
  have k34 : own_Go p e below (s₁.setTop (entryFrame m #[(.long q0), (.long q1)] maxLocals)) (T32.setTop (mkF m 71 #[.val (.long q0), .second, .val (.long q1), .second, .val (.long (-7046029254386353131 : Int64)), .second, .val (.ref b2), .val (.long (f3 q0)), .second, .val (.long (v0_27 q0)), .second, .val (.ref b14), .val (.long (v0_47 q0)), .second, .val (.ref b23), .val (.long (f3 q1)), .second, .unset, .unset, .unset, .unset, .unset, .unset] [(.long (0 : Int64)), (.ref b32), (.ref b32)])) := by
    intro t k
    refine k33 t ?_
    show Steps p.tables e below (T32.setTop (mkF m 69 #[.val (.long q0), .second, .val (.long q1), .second, .val (.long (-7046029254386353131 : Int64)), .second, .val (.ref b2), .val (.long (f3 q0)), .second, .val (.long (v0_27 q0)), .second, .val (.ref b14), .val (.long (v0_47 q0)), .second, .val (.ref b23), .val (.long (f3 q1)), .second, .unset, .unset, .unset, .unset, .unset, .unset] [(.ref b32)])) t
    refine XS.dup X32.here hx rfl (hb hby at_69) rfl rfl ?_
    show Steps p.tables e below (T32.setTop (mkF m 70 #[.val (.long q0), .second, .val (.long q1), .second, .val (.long (-7046029254386353131 : Int64)), .second, .val (.ref b2), .val (.long (f3 q0)), .second, .val (.long (v0_27 q0)), .second, .val (.ref b14), .val (.long (v0_47 q0)), .second, .val (.ref b23), .val (.long (f3 q1)), .second, .unset, .unset, .unset, .unset, .unset, .unset] [(.ref b32), (.ref b32)])) t
    refine XS.lconst X32.here hx rfl (hb hby at_70) ?_
    exact k
  obtain ⟨_, _, ⟨T35, L35, kk35, n35⟩, -, X35, ⟨Lc35, hQ35, l35, y35, z35⟩, st35⟩ := X32.specialBack hx (y := (⟨"com/example/rillgraph/rillgraph/cli/SeededRandom", "<init>", "(J)V"⟩ : MethodName)) rfl hown (mvT hZ (hw _ (List.mem_of_getElem? (i := 4) rfl))) (mvT hZ (hw _ (List.mem_of_getElem? (i := 5) rfl))) (mvT hZ (hw _ (List.mem_of_getElem? (i := 6) rfl))) (by decide) (backOf (W := 1) (rm1 l Z a0 hw [] b32 (0 : Int64)  h32 n0 (Nat.le_trans (Nat.le_trans (Nat.le_trans (Nat.le_trans (Nat.le_trans (Nat.le_trans (Nat.le_trans (Nat.le_trans (Nat.le_trans (Nat.le_trans (Nat.le_trans Z0 E2.1) Kq5.1) Kq8.1) Kq11.1) E14.1) Kq17.1) Kq20.1) E23.1) Kq26.1) Kq29.1) E32.1) g_b32 A32 F_state_b32) hZ (hw _ (List.mem_of_getElem? (i := 6) rfl)) (hw _ (List.mem_of_getElem? (i := 3) rfl)) (by decide) (by decide)) (g := (mkF m 71 #[.val (.long q0), .second, .val (.long q1), .second, .val (.long (-7046029254386353131 : Int64)), .second, .val (.ref b2), .val (.long (f3 q0)), .second, .val (.long (v0_27 q0)), .second, .val (.ref b14), .val (.long (v0_47 q0)), .second, .val (.ref b23), .val (.long (f3 q1)), .second, .unset, .unset, .unset, .unset, .unset, .unset] [(.long (0 : Int64)), (.ref b32), (.ref b32)])) rfl (by rw [hml]; rfl) (Steps.refl _) (a := b32) (argsL := [(.long (0 : Int64))]) (rest := [(.ref b32)]) (lenOf pd_0 rfl) rfl (by show 2 * 0 + _ ≤ _; exact Nat.le_of_eq rfl) (hb hby at_71) (fun _ _ => ⟨rfl, e32, (by decide : 4 + 0 ≤ _), (by decide : 4 + 0 ≤ _)⟩)
  dsimp only [Pt.U, Pt.locs, Pt.cells, Pt.slots] at X35 l35 y35 z35 st35 hQ35
  subst l35 y35 z35
  obtain ⟨rfl, N35q, Kq35, gE35, gF_state35⟩ := hQ35
  have N35 := Fr.app N29 N35q
  have k36 : own_Go p e below (s₁.setTop (entryFrame m #[(.long q0), (.long q1)] maxLocals)) (T35.setTop (mkF m 74 #[.val (.long q0), .second, .val (.long q1), .second, .val (.long (-7046029254386353131 : Int64)), .second, .val (.ref b2), .val (.long (f3 q0)), .second, .val (.long (v0_27 q0)), .second, .val (.ref b14), .val (.long (v0_47 q0)), .second, .val (.ref b23), .val (.long (f3 q1)), .second, .unset, .unset, .unset, .unset, .unset, .unset] [(.ref b32)])) := fun t k => k34 t (st35.trans k)
  have k37 : own_Go p e below (s₁.setTop (entryFrame m #[(.long q0), (.long q1)] maxLocals)) (T35.setTop (mkF m 78 #[.val (.long q0), .second, .val (.long q1), .second, .val (.long (-7046029254386353131 : Int64)), .second, .val (.ref b2), .val (.long (f3 q0)), .second, .val (.long (v0_27 q0)), .second, .val (.ref b14), .val (.long (v0_47 q0)), .second, .val (.ref b23), .val (.long (f3 q1)), .second, .val (.ref b32), .unset, .unset, .unset, .unset, .unset] [(.ref b32)])) := by
    intro t k
    refine k36 t ?_
    show Steps p.tables e below (T35.setTop (mkF m 74 #[.val (.long q0), .second, .val (.long q1), .second, .val (.long (-7046029254386353131 : Int64)), .second, .val (.ref b2), .val (.long (f3 q0)), .second, .val (.long (v0_27 q0)), .second, .val (.ref b14), .val (.long (v0_47 q0)), .second, .val (.ref b23), .val (.long (f3 q1)), .second, .unset, .unset, .unset, .unset, .unset, .unset] [(.ref b32)])) t
    refine XS.astore X35.here hx rfl (hb hby at_74) rfl rfl (l' := #[.val (.long q0), .second, .val (.long q1), .second, .val (.long (-7046029254386353131 : Int64)), .second, .val (.ref b2), .val (.long (f3 q0)), .second, .val (.long (v0_27 q0)), .second, .val (.ref b14), .val (.long (v0_47 q0)), .second, .val (.ref b23), .val (.long (f3 q1)), .second, .val (.ref b32), .unset, .unset, .unset, .unset, .unset]) rfl ?_
    show Steps p.tables e below (T35.setTop (mkF m 76 #[.val (.long q0), .second, .val (.long q1), .second, .val (.long (-7046029254386353131 : Int64)), .second, .val (.ref b2), .val (.long (f3 q0)), .second, .val (.long (v0_27 q0)), .second, .val (.ref b14), .val (.long (v0_47 q0)), .second, .val (.ref b23), .val (.long (f3 q1)), .second, .val (.ref b32), .unset, .unset, .unset, .unset, .unset] [])) t
    refine XS.aload X35.here hx rfl (hb hby at_76) rfl rfl ?_
    exact k
  obtain ⟨cq38, kq38, q38a, q38b, q38c⟩ := isOf hZ rfl gE35
  obtain ⟨_, _, ⟨T38, L38, kk38, n38⟩, -, X38, ⟨Lc38, hQ38, l38, y38, z38⟩, st38⟩ := X35.virtualBack hx (y := (⟨"com/example/rillgraph/rillgraph/cli/SeededRandom", "nextLong", "()J"⟩ : MethodName)) (z := (⟨"com/example/rillgraph/rillgraph/cli/SeededRandom", "nextLong", "()J"⟩ : MethodName)) hown (mvT hZ (hw _ (List.mem_of_getElem? (i := 12) rfl))) (mvT hZ (hw _ (List.mem_of_getElem? (i := 13) rfl))) (notFace_of_selects (args := #[]) (mvT hZ (hw _ (List.mem_of_getElem? (i := 15) rfl)))) (mvT hZ (hw _ (List.mem_of_getElem? (i := 15) rfl))) (mvT hZ (hw _ (List.mem_of_getElem? (i := 14) rfl))) (by decide) (backOf (W := 0) (rm3 l Z a0 hw [] b32 (0 : Int64) T35.heap n0 (Nat.le_trans (Nat.le_trans (Nat.le_trans (Nat.le_trans (Nat.le_trans (Nat.le_trans (Nat.le_trans (Nat.le_trans (Nat.le_trans (Nat.le_trans (Nat.le_trans (Nat.le_trans Z0 E2.1) Kq5.1) Kq8.1) Kq11.1) E14.1) Kq17.1) Kq20.1) E23.1) Kq26.1) Kq29.1) E32.1) Kq35.1) g_b32 gE35 gF_state35) hZ (hw _ (List.mem_of_getElem? (i := 16) rfl)) (hw _ (List.mem_of_getElem? (i := 3) rfl)) (by decide) (by decide)) q38a q38c (g := (mkF m 78 #[.val (.long q0), .second, .val (.long q1), .second, .val (.long (-7046029254386353131 : Int64)), .second, .val (.ref b2), .val (.long (f3 q0)), .second, .val (.long (v0_27 q0)), .second, .val (.ref b14), .val (.long (v0_47 q0)), .second, .val (.ref b23), .val (.long (f3 q1)), .second, .val (.ref b32), .unset, .unset, .unset, .unset, .unset] [(.ref b32)])) rfl (by rw [hml]; rfl) (Steps.refl _) (argsL := []) (rest := []) (lenOf pd_1 rfl) rfl (by show 2 * 0 + _ ≤ _; exact Nat.le_of_eq rfl) (hb hby at_78) (fun _ _ => ⟨rfl, rfl, (by decide : 4 + 0 ≤ _), (by decide : 4 + 0 ≤ _)⟩)
  dsimp only [Pt.U, Pt.locs, Pt.cells, Pt.slots] at X38 l38 y38 z38 st38 hQ38
  subst l38 y38 z38
  obtain ⟨rfl, N38q, Kq38, gE38, gF_state38⟩ := hQ38
  have N38 := Fr.app N35 N38q
  have k39 : own_Go p e below (s₁.setTop (entryFrame m #[(.long q0), (.long q1)] maxLocals)) (T38.setTop (mkF m 81 #[.val (.long q0), .second, .val (.long q1), .second, .val (.long (-7046029254386353131 : Int64)), .second, .val (.ref b2), .val (.long (f3 q0)), .second, .val (.long (v0_27 q0)), .second, .val (.ref b14), .val (.long (v0_47 q0)), .second, .val (.ref b23), .val (.long (f3 q1)), .second, .val (.ref b32), .unset, .unset, .unset, .unset, .unset] [(.long (f3 (0 : Int64)))])) := fun t k => k37 t (st38.trans k)
  have k40 : own_Go p e below (s₁.setTop (entryFrame m #[(.long q0), (.long q1)] maxLocals)) (T38.setTop (mkF m 88 #[.val (.long q0), .second, .val (.long q1), .second, .val (.long (-7046029254386353131 : Int64)), .second, .val (.ref b2), .val (.long (f3 q0)), .second, .val (.long (v0_27 q0)), .second, .val (.ref b14), .val (.long (v0_47 q0)), .second, .val (.ref b23), .val (.long (f3 q1)), .second, .val (.ref b32), .val (.long (f3 (0 : Int64))), .second, .unset, .unset, .unset] [(.int (lcmpW (v0_27 q0) (v0_47 q0)))])) := by
    intro t k
    refine k39 t ?_
    show Steps p.tables e below (T38.setTop (mkF m 81 #[.val (.long q0), .second, .val (.long q1), .second, .val (.long (-7046029254386353131 : Int64)), .second, .val (.ref b2), .val (.long (f3 q0)), .second, .val (.long (v0_27 q0)), .second, .val (.ref b14), .val (.long (v0_47 q0)), .second, .val (.ref b23), .val (.long (f3 q1)), .second, .val (.ref b32), .unset, .unset, .unset, .unset, .unset] [(.long (f3 (0 : Int64)))])) t
    refine XS.lstore X38.here hx rfl (hb hby at_81) rfl (l' := #[.val (.long q0), .second, .val (.long q1), .second, .val (.long (-7046029254386353131 : Int64)), .second, .val (.ref b2), .val (.long (f3 q0)), .second, .val (.long (v0_27 q0)), .second, .val (.ref b14), .val (.long (v0_47 q0)), .second, .val (.ref b23), .val (.long (f3 q1)), .second, .val (.ref b32), .val (.long (f3 (0 : Int64))), .second, .unset, .unset, .unset]) rfl ?_
    show Steps p.tables e below (T38.setTop (mkF m 83 #[.val (.long q0), .second, .val (.long q1), .second, .val (.long (-7046029254386353131 : Int64)), .second, .val (.ref b2), .val (.long (f3 q0)), .second, .val (.long (v0_27 q0)), .second, .val (.ref b14), .val (.long (v0_47 q0)), .second, .val (.ref b23), .val (.long (f3 q1)), .second, .val (.ref b32), .val (.long (f3 (0 : Int64))), .second, .unset, .unset, .unset] [])) t
    refine XS.lload X38.here hx rfl (hb hby at_83) rfl ?_
    show Steps p.tables e below (T38.setTop (mkF m 85 #[.val (.long q0), .second, .val (.long q1), .second, .val (.long (-7046029254386353131 : Int64)), .second, .val (.ref b2), .val (.long (f3 q0)), .second, .val (.long (v0_27 q0)), .second, .val (.ref b14), .val (.long (v0_47 q0)), .second, .val (.ref b23), .val (.long (f3 q1)), .second, .val (.ref b32), .val (.long (f3 (0 : Int64))), .second, .unset, .unset, .unset] [(.long (v0_27 q0))])) t
    refine XS.lload X38.here hx rfl (hb hby at_85) rfl ?_
    show Steps p.tables e below (T38.setTop (mkF m 87 #[.val (.long q0), .second, .val (.long q1), .second, .val (.long (-7046029254386353131 : Int64)), .second, .val (.ref b2), .val (.long (f3 q0)), .second, .val (.long (v0_27 q0)), .second, .val (.ref b14), .val (.long (v0_47 q0)), .second, .val (.ref b23), .val (.long (f3 q1)), .second, .val (.ref b32), .val (.long (f3 (0 : Int64))), .second, .unset, .unset, .unset] [(.long (v0_47 q0)), (.long (v0_27 q0))])) t
    refine XS.lcmp X38.here hx rfl (hb hby at_87) rfl ?_
    exact k
  have k41 : own_Go p e below (s₁.setTop (entryFrame m #[(.long q0), (.long q1)] maxLocals)) (T38.setTop (mkF m 96 #[.val (.long q0), .second, .val (.long q1), .second, .val (.long (-7046029254386353131 : Int64)), .second, .val (.ref b2), .val (.long (f3 q0)), .second, .val (.long (v0_27 q0)), .second, .val (.ref b14), .val (.long (v0_47 q0)), .second, .val (.ref b23), .val (.long (f3 q1)), .second, .val (.ref b32), .val (.long (f3 (0 : Int64))), .second, .unset, .unset, .unset] [(.int (m0_96_s0 q0))])) := by
    by_cases hc88_42 : (lcmpW (v0_27 q0) (v0_47 q0)) = (0 : Int32)
    · have k43 : own_Go p e below (s₁.setTop (entryFrame m #[(.long q0), (.long q1)] maxLocals)) (T38.setTop (mkF m 96 #[.val (.long q0), .second, .val (.long q1), .second, .val (.long (-7046029254386353131 : Int64)), .second, .val (.ref b2), .val (.long (f3 q0)), .second, .val (.long (v0_27 q0)), .second, .val (.ref b14), .val (.long (v0_47 q0)), .second, .val (.ref b23), .val (.long (f3 q1)), .second, .val (.ref b32), .val (.long (f3 (0 : Int64))), .second, .unset, .unset, .unset] [(.int (1 : Int32))])) := by
        intro t k
        refine k40 t ?_
        show Steps p.tables e below (T38.setTop (mkF m 88 #[.val (.long q0), .second, .val (.long q1), .second, .val (.long (-7046029254386353131 : Int64)), .second, .val (.ref b2), .val (.long (f3 q0)), .second, .val (.long (v0_27 q0)), .second, .val (.ref b14), .val (.long (v0_47 q0)), .second, .val (.ref b23), .val (.long (f3 q1)), .second, .val (.ref b32), .val (.long (f3 (0 : Int64))), .second, .unset, .unset, .unset] [(.int (lcmpW (v0_27 q0) (v0_47 q0)))])) t
        refine XS.ifNo X38.here hx rfl (hb hby at_88) rfl ((if0 _ _).trans (teq hc88_42).2) ?_
        show Steps p.tables e below (T38.setTop (mkF m 91 #[.val (.long q0), .second, .val (.long q1), .second, .val (.long (-7046029254386353131 : Int64)), .second, .val (.ref b2), .val (.long (f3 q0)), .second, .val (.long (v0_27 q0)), .second, .val (.ref b14), .val (.long (v0_47 q0)), .second, .val (.ref b23), .val (.long (f3 q1)), .second, .val (.ref b32), .val (.long (f3 (0 : Int64))), .second, .unset, .unset, .unset] [])) t
        refine XS.iconst X38.here hx rfl (hb hby at_91) ?_
        show Steps p.tables e below (T38.setTop (mkF m 92 #[.val (.long q0), .second, .val (.long q1), .second, .val (.long (-7046029254386353131 : Int64)), .second, .val (.ref b2), .val (.long (f3 q0)), .second, .val (.long (v0_27 q0)), .second, .val (.ref b14), .val (.long (v0_47 q0)), .second, .val (.ref b23), .val (.long (f3 q1)), .second, .val (.ref b32), .val (.long (f3 (0 : Int64))), .second, .unset, .unset, .unset] [(.int (1 : Int32))])) t
        refine XS.goto X38.here hx rfl (pc0 := 92) (pc' := 96) rfl (hb hby at_92) (by decide) (by decide) ?_
        exact k
      exact (by rw [show (m0_96_s0 q0) = (1 : Int32) from (by unfold m0_96_s0; rw [if_pos hc88_42])]; exact k43)
    · have k44 : own_Go p e below (s₁.setTop (entryFrame m #[(.long q0), (.long q1)] maxLocals)) (T38.setTop (mkF m 96 #[.val (.long q0), .second, .val (.long q1), .second, .val (.long (-7046029254386353131 : Int64)), .second, .val (.ref b2), .val (.long (f3 q0)), .second, .val (.long (v0_27 q0)), .second, .val (.ref b14), .val (.long (v0_47 q0)), .second, .val (.ref b23), .val (.long (f3 q1)), .second, .val (.ref b32), .val (.long (f3 (0 : Int64))), .second, .unset, .unset, .unset] [(.int (0 : Int32))])) := by
        intro t k
        refine k40 t ?_
        show Steps p.tables e below (T38.setTop (mkF m 88 #[.val (.long q0), .second, .val (.long q1), .second, .val (.long (-7046029254386353131 : Int64)), .second, .val (.ref b2), .val (.long (f3 q0)), .second, .val (.long (v0_27 q0)), .second, .val (.ref b14), .val (.long (v0_47 q0)), .second, .val (.ref b23), .val (.long (f3 q1)), .second, .val (.ref b32), .val (.long (f3 (0 : Int64))), .second, .unset, .unset, .unset] [(.int (lcmpW (v0_27 q0) (v0_47 q0)))])) t
        refine XS.ifYes X38.here hx rfl (pc0 := 88) (pc' := 95) rfl (hb hby at_88) rfl ((if0 _ _).trans (feq hc88_42).2) (by decide) (by decide) ?_
        show Steps p.tables e below (T38.setTop (mkF m 95 #[.val (.long q0), .second, .val (.long q1), .second, .val (.long (-7046029254386353131 : Int64)), .second, .val (.ref b2), .val (.long (f3 q0)), .second, .val (.long (v0_27 q0)), .second, .val (.ref b14), .val (.long (v0_47 q0)), .second, .val (.ref b23), .val (.long (f3 q1)), .second, .val (.ref b32), .val (.long (f3 (0 : Int64))), .second, .unset, .unset, .unset] [])) t
        refine XS.iconst X38.here hx rfl (hb hby at_95) ?_
        exact k
      exact (by rw [show (m0_96_s0 q0) = (0 : Int32) from (by unfold m0_96_s0; rw [if_neg hc88_42])]; exact k44)
  have k45 : own_Go p e below (s₁.setTop (entryFrame m #[(.long q0), (.long q1)] maxLocals)) (T38.setTop (mkF m 101 #[.val (.long q0), .second, .val (.long q1), .second, .val (.long (-7046029254386353131 : Int64)), .second, .val (.ref b2), .val (.long (f3 q0)), .second, .val (.long (v0_27 q0)), .second, .val (.ref b14), .val (.long (v0_47 q0)), .second, .val (.ref b23), .val (.long (f3 q1)), .second, .val (.ref b32), .val (.long (f3 (0 : Int64))), .second, .val (.int (m0_96_s0 q0)), .unset, .unset] [(.int (lcmpW q0 q1))])) := by
    intro t k
    refine k41 t ?_
    show Steps p.tables e below (T38.setTop (mkF m 96 #[.val (.long q0), .second, .val (.long q1), .second, .val (.long (-7046029254386353131 : Int64)), .second, .val (.ref b2), .val (.long (f3 q0)), .second, .val (.long (v0_27 q0)), .second, .val (.ref b14), .val (.long (v0_47 q0)), .second, .val (.ref b23), .val (.long (f3 q1)), .second, .val (.ref b32), .val (.long (f3 (0 : Int64))), .second, .unset, .unset, .unset] [(.int (m0_96_s0 q0))])) t
    refine XS.istore X38.here hx rfl (hb hby at_96) rfl (l' := #[.val (.long q0), .second, .val (.long q1), .second, .val (.long (-7046029254386353131 : Int64)), .second, .val (.ref b2), .val (.long (f3 q0)), .second, .val (.long (v0_27 q0)), .second, .val (.ref b14), .val (.long (v0_47 q0)), .second, .val (.ref b23), .val (.long (f3 q1)), .second, .val (.ref b32), .val (.long (f3 (0 : Int64))), .second, .val (.int (m0_96_s0 q0)), .unset, .unset]) rfl ?_
    show Steps p.tables e below (T38.setTop (mkF m 98 #[.val (.long q0), .second, .val (.long q1), .second, .val (.long (-7046029254386353131 : Int64)), .second, .val (.ref b2), .val (.long (f3 q0)), .second, .val (.long (v0_27 q0)), .second, .val (.ref b14), .val (.long (v0_47 q0)), .second, .val (.ref b23), .val (.long (f3 q1)), .second, .val (.ref b32), .val (.long (f3 (0 : Int64))), .second, .val (.int (m0_96_s0 q0)), .unset, .unset] [])) t
    refine XS.lloadN X38.here hx rfl (hb hby at_98) rfl ?_
    show Steps p.tables e below (T38.setTop (mkF m 99 #[.val (.long q0), .second, .val (.long q1), .second, .val (.long (-7046029254386353131 : Int64)), .second, .val (.ref b2), .val (.long (f3 q0)), .second, .val (.long (v0_27 q0)), .second, .val (.ref b14), .val (.long (v0_47 q0)), .second, .val (.ref b23), .val (.long (f3 q1)), .second, .val (.ref b32), .val (.long (f3 (0 : Int64))), .second, .val (.int (m0_96_s0 q0)), .unset, .unset] [(.long q0)])) t
    refine XS.lloadN X38.here hx rfl (hb hby at_99) rfl ?_
    show Steps p.tables e below (T38.setTop (mkF m 100 #[.val (.long q0), .second, .val (.long q1), .second, .val (.long (-7046029254386353131 : Int64)), .second, .val (.ref b2), .val (.long (f3 q0)), .second, .val (.long (v0_27 q0)), .second, .val (.ref b14), .val (.long (v0_47 q0)), .second, .val (.ref b23), .val (.long (f3 q1)), .second, .val (.ref b32), .val (.long (f3 (0 : Int64))), .second, .val (.int (m0_96_s0 q0)), .unset, .unset] [(.long q1), (.long q0)])) t
    refine XS.lcmp X38.here hx rfl (hb hby at_100) rfl ?_
    exact k
  have k46 : own_Go p e below (s₁.setTop (entryFrame m #[(.long q0), (.long q1)] maxLocals)) (T38.setTop (mkF m 109 #[.val (.long q0), .second, .val (.long q1), .second, .val (.long (-7046029254386353131 : Int64)), .second, .val (.ref b2), .val (.long (f3 q0)), .second, .val (.long (v0_27 q0)), .second, .val (.ref b14), .val (.long (v0_47 q0)), .second, .val (.ref b23), .val (.long (f3 q1)), .second, .val (.ref b32), .val (.long (f3 (0 : Int64))), .second, .val (.int (m0_96_s0 q0)), .unset, .unset] [(.int (m0_109_s0 q0 q1))])) := by
    by_cases hc101_47 : (lcmpW q0 q1) = (0 : Int32)
    · have k48 : own_Go p e below (s₁.setTop (entryFrame m #[(.long q0), (.long q1)] maxLocals)) (T38.setTop (mkF m 109 #[.val (.long q0), .second, .val (.long q1), .second, .val (.long (-7046029254386353131 : Int64)), .second, .val (.ref b2), .val (.long (f3 q0)), .second, .val (.long (v0_27 q0)), .second, .val (.ref b14), .val (.long (v0_47 q0)), .second, .val (.ref b23), .val (.long (f3 q1)), .second, .val (.ref b32), .val (.long (f3 (0 : Int64))), .second, .val (.int (m0_96_s0 q0)), .unset, .unset] [(.int (1 : Int32))])) := by
        intro t k
        refine k45 t ?_
        show Steps p.tables e below (T38.setTop (mkF m 101 #[.val (.long q0), .second, .val (.long q1), .second, .val (.long (-7046029254386353131 : Int64)), .second, .val (.ref b2), .val (.long (f3 q0)), .second, .val (.long (v0_27 q0)), .second, .val (.ref b14), .val (.long (v0_47 q0)), .second, .val (.ref b23), .val (.long (f3 q1)), .second, .val (.ref b32), .val (.long (f3 (0 : Int64))), .second, .val (.int (m0_96_s0 q0)), .unset, .unset] [(.int (lcmpW q0 q1))])) t
        refine XS.ifNo X38.here hx rfl (hb hby at_101) rfl ((if0 _ _).trans (teq hc101_47).2) ?_
        show Steps p.tables e below (T38.setTop (mkF m 104 #[.val (.long q0), .second, .val (.long q1), .second, .val (.long (-7046029254386353131 : Int64)), .second, .val (.ref b2), .val (.long (f3 q0)), .second, .val (.long (v0_27 q0)), .second, .val (.ref b14), .val (.long (v0_47 q0)), .second, .val (.ref b23), .val (.long (f3 q1)), .second, .val (.ref b32), .val (.long (f3 (0 : Int64))), .second, .val (.int (m0_96_s0 q0)), .unset, .unset] [])) t
        refine XS.iconst X38.here hx rfl (hb hby at_104) ?_
        show Steps p.tables e below (T38.setTop (mkF m 105 #[.val (.long q0), .second, .val (.long q1), .second, .val (.long (-7046029254386353131 : Int64)), .second, .val (.ref b2), .val (.long (f3 q0)), .second, .val (.long (v0_27 q0)), .second, .val (.ref b14), .val (.long (v0_47 q0)), .second, .val (.ref b23), .val (.long (f3 q1)), .second, .val (.ref b32), .val (.long (f3 (0 : Int64))), .second, .val (.int (m0_96_s0 q0)), .unset, .unset] [(.int (1 : Int32))])) t
        refine XS.goto X38.here hx rfl (pc0 := 105) (pc' := 109) rfl (hb hby at_105) (by decide) (by decide) ?_
        exact k
      exact (by rw [show (m0_109_s0 q0 q1) = (1 : Int32) from (by unfold m0_109_s0; rw [if_pos hc101_47])]; exact k48)
    · have k49 : own_Go p e below (s₁.setTop (entryFrame m #[(.long q0), (.long q1)] maxLocals)) (T38.setTop (mkF m 109 #[.val (.long q0), .second, .val (.long q1), .second, .val (.long (-7046029254386353131 : Int64)), .second, .val (.ref b2), .val (.long (f3 q0)), .second, .val (.long (v0_27 q0)), .second, .val (.ref b14), .val (.long (v0_47 q0)), .second, .val (.ref b23), .val (.long (f3 q1)), .second, .val (.ref b32), .val (.long (f3 (0 : Int64))), .second, .val (.int (m0_96_s0 q0)), .unset, .unset] [(.int (0 : Int32))])) := by
        intro t k
        refine k45 t ?_
        show Steps p.tables e below (T38.setTop (mkF m 101 #[.val (.long q0), .second, .val (.long q1), .second, .val (.long (-7046029254386353131 : Int64)), .second, .val (.ref b2), .val (.long (f3 q0)), .second, .val (.long (v0_27 q0)), .second, .val (.ref b14), .val (.long (v0_47 q0)), .second, .val (.ref b23), .val (.long (f3 q1)), .second, .val (.ref b32), .val (.long (f3 (0 : Int64))), .second, .val (.int (m0_96_s0 q0)), .unset, .unset] [(.int (lcmpW q0 q1))])) t
        refine XS.ifYes X38.here hx rfl (pc0 := 101) (pc' := 108) rfl (hb hby at_101) rfl ((if0 _ _).trans (feq hc101_47).2) (by decide) (by decide) ?_
        show Steps p.tables e below (T38.setTop (mkF m 108 #[.val (.long q0), .second, .val (.long q1), .second, .val (.long (-7046029254386353131 : Int64)), .second, .val (.ref b2), .val (.long (f3 q0)), .second, .val (.long (v0_27 q0)), .second, .val (.ref b14), .val (.long (v0_47 q0)), .second, .val (.ref b23), .val (.long (f3 q1)), .second, .val (.ref b32), .val (.long (f3 (0 : Int64))), .second, .val (.int (m0_96_s0 q0)), .unset, .unset] [])) t
        refine XS.iconst X38.here hx rfl (hb hby at_108) ?_
        exact k
      exact (by rw [show (m0_109_s0 q0 q1) = (0 : Int32) from (by unfold m0_109_s0; rw [if_neg hc101_47])]; exact k49)
  have k50 : own_Go p e below (s₁.setTop (entryFrame m #[(.long q0), (.long q1)] maxLocals)) (T38.setTop (mkF m 114 #[.val (.long q0), .second, .val (.long q1), .second, .val (.long (-7046029254386353131 : Int64)), .second, .val (.ref b2), .val (.long (f3 q0)), .second, .val (.long (v0_27 q0)), .second, .val (.ref b14), .val (.long (v0_47 q0)), .second, .val (.ref b23), .val (.long (f3 q1)), .second, .val (.ref b32), .val (.long (f3 (0 : Int64))), .second, .val (.int (m0_96_s0 q0)), .unset, .unset] [(.int (lcmpW (f3 q0) (f3 q1))), (.int (m0_109_s0 q0 q1))])) := by
    intro t k
    refine k46 t ?_
    show Steps p.tables e below (T38.setTop (mkF m 109 #[.val (.long q0), .second, .val (.long q1), .second, .val (.long (-7046029254386353131 : Int64)), .second, .val (.ref b2), .val (.long (f3 q0)), .second, .val (.long (v0_27 q0)), .second, .val (.ref b14), .val (.long (v0_47 q0)), .second, .val (.ref b23), .val (.long (f3 q1)), .second, .val (.ref b32), .val (.long (f3 (0 : Int64))), .second, .val (.int (m0_96_s0 q0)), .unset, .unset] [(.int (m0_109_s0 q0 q1))])) t
    refine XS.lload X38.here hx rfl (hb hby at_109) rfl ?_
    show Steps p.tables e below (T38.setTop (mkF m 111 #[.val (.long q0), .second, .val (.long q1), .second, .val (.long (-7046029254386353131 : Int64)), .second, .val (.ref b2), .val (.long (f3 q0)), .second, .val (.long (v0_27 q0)), .second, .val (.ref b14), .val (.long (v0_47 q0)), .second, .val (.ref b23), .val (.long (f3 q1)), .second, .val (.ref b32), .val (.long (f3 (0 : Int64))), .second, .val (.int (m0_96_s0 q0)), .unset, .unset] [(.long (f3 q0)), (.int (m0_109_s0 q0 q1))])) t
    refine XS.lload X38.here hx rfl (hb hby at_111) rfl ?_
    show Steps p.tables e below (T38.setTop (mkF m 113 #[.val (.long q0), .second, .val (.long q1), .second, .val (.long (-7046029254386353131 : Int64)), .second, .val (.ref b2), .val (.long (f3 q0)), .second, .val (.long (v0_27 q0)), .second, .val (.ref b14), .val (.long (v0_47 q0)), .second, .val (.ref b23), .val (.long (f3 q1)), .second, .val (.ref b32), .val (.long (f3 (0 : Int64))), .second, .val (.int (m0_96_s0 q0)), .unset, .unset] [(.long (f3 q1)), (.long (f3 q0)), (.int (m0_109_s0 q0 q1))])) t
    refine XS.lcmp X38.here hx rfl (hb hby at_113) rfl ?_
    exact k
  have k51 : own_Go p e below (s₁.setTop (entryFrame m #[(.long q0), (.long q1)] maxLocals)) (T38.setTop (mkF m 122 #[.val (.long q0), .second, .val (.long q1), .second, .val (.long (-7046029254386353131 : Int64)), .second, .val (.ref b2), .val (.long (f3 q0)), .second, .val (.long (v0_27 q0)), .second, .val (.ref b14), .val (.long (v0_47 q0)), .second, .val (.ref b23), .val (.long (f3 q1)), .second, .val (.ref b32), .val (.long (f3 (0 : Int64))), .second, .val (.int (m0_96_s0 q0)), .unset, .unset] [(.int (m0_122_s0 q0 q1)), (.int (m0_109_s0 q0 q1))])) := by
    by_cases hc114_52 : (lcmpW (f3 q0) (f3 q1)) = (0 : Int32)
    · have k53 : own_Go p e below (s₁.setTop (entryFrame m #[(.long q0), (.long q1)] maxLocals)) (T38.setTop (mkF m 122 #[.val (.long q0), .second, .val (.long q1), .second, .val (.long (-7046029254386353131 : Int64)), .second, .val (.ref b2), .val (.long (f3 q0)), .second, .val (.long (v0_27 q0)), .second, .val (.ref b14), .val (.long (v0_47 q0)), .second, .val (.ref b23), .val (.long (f3 q1)), .second, .val (.ref b32), .val (.long (f3 (0 : Int64))), .second, .val (.int (m0_96_s0 q0)), .unset, .unset] [(.int (1 : Int32)), (.int (m0_109_s0 q0 q1))])) := by
        intro t k
        refine k50 t ?_
        show Steps p.tables e below (T38.setTop (mkF m 114 #[.val (.long q0), .second, .val (.long q1), .second, .val (.long (-7046029254386353131 : Int64)), .second, .val (.ref b2), .val (.long (f3 q0)), .second, .val (.long (v0_27 q0)), .second, .val (.ref b14), .val (.long (v0_47 q0)), .second, .val (.ref b23), .val (.long (f3 q1)), .second, .val (.ref b32), .val (.long (f3 (0 : Int64))), .second, .val (.int (m0_96_s0 q0)), .unset, .unset] [(.int (lcmpW (f3 q0) (f3 q1))), (.int (m0_109_s0 q0 q1))])) t
        refine XS.ifNo X38.here hx rfl (hb hby at_114) rfl ((if0 _ _).trans (teq hc114_52).2) ?_
        show Steps p.tables e below (T38.setTop (mkF m 117 #[.val (.long q0), .second, .val (.long q1), .second, .val (.long (-7046029254386353131 : Int64)), .second, .val (.ref b2), .val (.long (f3 q0)), .second, .val (.long (v0_27 q0)), .second, .val (.ref b14), .val (.long (v0_47 q0)), .second, .val (.ref b23), .val (.long (f3 q1)), .second, .val (.ref b32), .val (.long (f3 (0 : Int64))), .second, .val (.int (m0_96_s0 q0)), .unset, .unset] [(.int (m0_109_s0 q0 q1))])) t
        refine XS.iconst X38.here hx rfl (hb hby at_117) ?_
        show Steps p.tables e below (T38.setTop (mkF m 118 #[.val (.long q0), .second, .val (.long q1), .second, .val (.long (-7046029254386353131 : Int64)), .second, .val (.ref b2), .val (.long (f3 q0)), .second, .val (.long (v0_27 q0)), .second, .val (.ref b14), .val (.long (v0_47 q0)), .second, .val (.ref b23), .val (.long (f3 q1)), .second, .val (.ref b32), .val (.long (f3 (0 : Int64))), .second, .val (.int (m0_96_s0 q0)), .unset, .unset] [(.int (1 : Int32)), (.int (m0_109_s0 q0 q1))])) t
        refine XS.goto X38.here hx rfl (pc0 := 118) (pc' := 122) rfl (hb hby at_118) (by decide) (by decide) ?_
        exact k
      exact (by rw [show (m0_122_s0 q0 q1) = (1 : Int32) from (by unfold m0_122_s0; rw [if_pos hc114_52])]; exact k53)
    · have k54 : own_Go p e below (s₁.setTop (entryFrame m #[(.long q0), (.long q1)] maxLocals)) (T38.setTop (mkF m 122 #[.val (.long q0), .second, .val (.long q1), .second, .val (.long (-7046029254386353131 : Int64)), .second, .val (.ref b2), .val (.long (f3 q0)), .second, .val (.long (v0_27 q0)), .second, .val (.ref b14), .val (.long (v0_47 q0)), .second, .val (.ref b23), .val (.long (f3 q1)), .second, .val (.ref b32), .val (.long (f3 (0 : Int64))), .second, .val (.int (m0_96_s0 q0)), .unset, .unset] [(.int (0 : Int32)), (.int (m0_109_s0 q0 q1))])) := by
        intro t k
        refine k50 t ?_
        show Steps p.tables e below (T38.setTop (mkF m 114 #[.val (.long q0), .second, .val (.long q1), .second, .val (.long (-7046029254386353131 : Int64)), .second, .val (.ref b2), .val (.long (f3 q0)), .second, .val (.long (v0_27 q0)), .second, .val (.ref b14), .val (.long (v0_47 q0)), .second, .val (.ref b23), .val (.long (f3 q1)), .second, .val (.ref b32), .val (.long (f3 (0 : Int64))), .second, .val (.int (m0_96_s0 q0)), .unset, .unset] [(.int (lcmpW (f3 q0) (f3 q1))), (.int (m0_109_s0 q0 q1))])) t
        refine XS.ifYes X38.here hx rfl (pc0 := 114) (pc' := 121) rfl (hb hby at_114) rfl ((if0 _ _).trans (feq hc114_52).2) (by decide) (by decide) ?_
        show Steps p.tables e below (T38.setTop (mkF m 121 #[.val (.long q0), .second, .val (.long q1), .second, .val (.long (-7046029254386353131 : Int64)), .second, .val (.ref b2), .val (.long (f3 q0)), .second, .val (.long (v0_27 q0)), .second, .val (.ref b14), .val (.long (v0_47 q0)), .second, .val (.ref b23), .val (.long (f3 q1)), .second, .val (.ref b32), .val (.long (f3 (0 : Int64))), .second, .val (.int (m0_96_s0 q0)), .unset, .unset] [(.int (m0_109_s0 q0 q1))])) t
        refine XS.iconst X38.here hx rfl (hb hby at_121) ?_
        exact k
      exact (by rw [show (m0_122_s0 q0 q1) = (0 : Int32) from (by unfold m0_122_s0; rw [if_neg hc114_52])]; exact k54)
  have k55 : own_Go p e below (s₁.setTop (entryFrame m #[(.long q0), (.long q1)] maxLocals)) (T38.setTop (mkF m 130 #[.val (.long q0), .second, .val (.long q1), .second, .val (.long (-7046029254386353131 : Int64)), .second, .val (.ref b2), .val (.long (f3 q0)), .second, .val (.long (v0_27 q0)), .second, .val (.ref b14), .val (.long (v0_47 q0)), .second, .val (.ref b23), .val (.long (f3 q1)), .second, .val (.ref b32), .val (.long (f3 (0 : Int64))), .second, .val (.int (m0_96_s0 q0)), .unset, .unset] [(.int (m0_130_s0 q0 q1))])) := by
    by_cases hc122_56 : (m0_109_s0 q0 q1) = (m0_122_s0 q0 q1)
    · have k57 : own_Go p e below (s₁.setTop (entryFrame m #[(.long q0), (.long q1)] maxLocals)) (T38.setTop (mkF m 130 #[.val (.long q0), .second, .val (.long q1), .second, .val (.long (-7046029254386353131 : Int64)), .second, .val (.ref b2), .val (.long (f3 q0)), .second, .val (.long (v0_27 q0)), .second, .val (.ref b14), .val (.long (v0_47 q0)), .second, .val (.ref b23), .val (.long (f3 q1)), .second, .val (.ref b32), .val (.long (f3 (0 : Int64))), .second, .val (.int (m0_96_s0 q0)), .unset, .unset] [(.int (1 : Int32))])) := by
        intro t k
        refine k51 t ?_
        show Steps p.tables e below (T38.setTop (mkF m 122 #[.val (.long q0), .second, .val (.long q1), .second, .val (.long (-7046029254386353131 : Int64)), .second, .val (.ref b2), .val (.long (f3 q0)), .second, .val (.long (v0_27 q0)), .second, .val (.ref b14), .val (.long (v0_47 q0)), .second, .val (.ref b23), .val (.long (f3 q1)), .second, .val (.ref b32), .val (.long (f3 (0 : Int64))), .second, .val (.int (m0_96_s0 q0)), .unset, .unset] [(.int (m0_122_s0 q0 q1)), (.int (m0_109_s0 q0 q1))])) t
        refine XS.icmpNo X38.here hx rfl (hb hby at_122) rfl (teq hc122_56).2 ?_
        show Steps p.tables e below (T38.setTop (mkF m 125 #[.val (.long q0), .second, .val (.long q1), .second, .val (.long (-7046029254386353131 : Int64)), .second, .val (.ref b2), .val (.long (f3 q0)), .second, .val (.long (v0_27 q0)), .second, .val (.ref b14), .val (.long (v0_47 q0)), .second, .val (.ref b23), .val (.long (f3 q1)), .second, .val (.ref b32), .val (.long (f3 (0 : Int64))), .second, .val (.int (m0_96_s0 q0)), .unset, .unset] [])) t
        refine XS.iconst X38.here hx rfl (hb hby at_125) ?_
        show Steps p.tables e below (T38.setTop (mkF m 126 #[.val (.long q0), .second, .val (.long q1), .second, .val (.long (-7046029254386353131 : Int64)), .second, .val (.ref b2), .val (.long (f3 q0)), .second, .val (.long (v0_27 q0)), .second, .val (.ref b14), .val (.long (v0_47 q0)), .second, .val (.ref b23), .val (.long (f3 q1)), .second, .val (.ref b32), .val (.long (f3 (0 : Int64))), .second, .val (.int (m0_96_s0 q0)), .unset, .unset] [(.int (1 : Int32))])) t
        refine XS.goto X38.here hx rfl (pc0 := 126) (pc' := 130) rfl (hb hby at_126) (by decide) (by decide) ?_
        exact k
      exact (by rw [show (m0_130_s0 q0 q1) = (1 : Int32) from (by unfold m0_130_s0; rw [if_pos hc122_56])]; exact k57)
    · have k58 : own_Go p e below (s₁.setTop (entryFrame m #[(.long q0), (.long q1)] maxLocals)) (T38.setTop (mkF m 130 #[.val (.long q0), .second, .val (.long q1), .second, .val (.long (-7046029254386353131 : Int64)), .second, .val (.ref b2), .val (.long (f3 q0)), .second, .val (.long (v0_27 q0)), .second, .val (.ref b14), .val (.long (v0_47 q0)), .second, .val (.ref b23), .val (.long (f3 q1)), .second, .val (.ref b32), .val (.long (f3 (0 : Int64))), .second, .val (.int (m0_96_s0 q0)), .unset, .unset] [(.int (0 : Int32))])) := by
        intro t k
        refine k51 t ?_
        show Steps p.tables e below (T38.setTop (mkF m 122 #[.val (.long q0), .second, .val (.long q1), .second, .val (.long (-7046029254386353131 : Int64)), .second, .val (.ref b2), .val (.long (f3 q0)), .second, .val (.long (v0_27 q0)), .second, .val (.ref b14), .val (.long (v0_47 q0)), .second, .val (.ref b23), .val (.long (f3 q1)), .second, .val (.ref b32), .val (.long (f3 (0 : Int64))), .second, .val (.int (m0_96_s0 q0)), .unset, .unset] [(.int (m0_122_s0 q0 q1)), (.int (m0_109_s0 q0 q1))])) t
        refine XS.icmpYes X38.here hx rfl (pc0 := 122) (pc' := 129) rfl (hb hby at_122) rfl (feq hc122_56).2 (by decide) (by decide) ?_
        show Steps p.tables e below (T38.setTop (mkF m 129 #[.val (.long q0), .second, .val (.long q1), .second, .val (.long (-7046029254386353131 : Int64)), .second, .val (.ref b2), .val (.long (f3 q0)), .second, .val (.long (v0_27 q0)), .second, .val (.ref b14), .val (.long (v0_47 q0)), .second, .val (.ref b23), .val (.long (f3 q1)), .second, .val (.ref b32), .val (.long (f3 (0 : Int64))), .second, .val (.int (m0_96_s0 q0)), .unset, .unset] [])) t
        refine XS.iconst X38.here hx rfl (hb hby at_129) ?_
        exact k
      exact (by rw [show (m0_130_s0 q0 q1) = (0 : Int32) from (by unfold m0_130_s0; rw [if_neg hc122_56])]; exact k58)
  have k59 : own_Go p e below (s₁.setTop (entryFrame m #[(.long q0), (.long q1)] maxLocals)) (T38.setTop (mkF m 138 #[.val (.long q0), .second, .val (.long q1), .second, .val (.long (-7046029254386353131 : Int64)), .second, .val (.ref b2), .val (.long (f3 q0)), .second, .val (.long (v0_27 q0)), .second, .val (.ref b14), .val (.long (v0_47 q0)), .second, .val (.ref b23), .val (.long (f3 q1)), .second, .val (.ref b32), .val (.long (f3 (0 : Int64))), .second, .val (.int (m0_96_s0 q0)), .val (.int (m0_130_s0 q0 q1)), .unset] [(.int (lcmpW (f3 (0 : Int64)) (-2152535657050944081 : Int64)))])) := by
    intro t k
    refine k55 t ?_
    show Steps p.tables e below (T38.setTop (mkF m 130 #[.val (.long q0), .second, .val (.long q1), .second, .val (.long (-7046029254386353131 : Int64)), .second, .val (.ref b2), .val (.long (f3 q0)), .second, .val (.long (v0_27 q0)), .second, .val (.ref b14), .val (.long (v0_47 q0)), .second, .val (.ref b23), .val (.long (f3 q1)), .second, .val (.ref b32), .val (.long (f3 (0 : Int64))), .second, .val (.int (m0_96_s0 q0)), .unset, .unset] [(.int (m0_130_s0 q0 q1))])) t
    refine XS.istore X38.here hx rfl (hb hby at_130) rfl (l' := #[.val (.long q0), .second, .val (.long q1), .second, .val (.long (-7046029254386353131 : Int64)), .second, .val (.ref b2), .val (.long (f3 q0)), .second, .val (.long (v0_27 q0)), .second, .val (.ref b14), .val (.long (v0_47 q0)), .second, .val (.ref b23), .val (.long (f3 q1)), .second, .val (.ref b32), .val (.long (f3 (0 : Int64))), .second, .val (.int (m0_96_s0 q0)), .val (.int (m0_130_s0 q0 q1)), .unset]) rfl ?_
    show Steps p.tables e below (T38.setTop (mkF m 132 #[.val (.long q0), .second, .val (.long q1), .second, .val (.long (-7046029254386353131 : Int64)), .second, .val (.ref b2), .val (.long (f3 q0)), .second, .val (.long (v0_27 q0)), .second, .val (.ref b14), .val (.long (v0_47 q0)), .second, .val (.ref b23), .val (.long (f3 q1)), .second, .val (.ref b32), .val (.long (f3 (0 : Int64))), .second, .val (.int (m0_96_s0 q0)), .val (.int (m0_130_s0 q0 q1)), .unset] [])) t
    refine XS.lload X38.here hx rfl (hb hby at_132) rfl ?_
    show Steps p.tables e below (T38.setTop (mkF m 134 #[.val (.long q0), .second, .val (.long q1), .second, .val (.long (-7046029254386353131 : Int64)), .second, .val (.ref b2), .val (.long (f3 q0)), .second, .val (.long (v0_27 q0)), .second, .val (.ref b14), .val (.long (v0_47 q0)), .second, .val (.ref b23), .val (.long (f3 q1)), .second, .val (.ref b32), .val (.long (f3 (0 : Int64))), .second, .val (.int (m0_96_s0 q0)), .val (.int (m0_130_s0 q0 q1)), .unset] [(.long (f3 (0 : Int64)))])) t
    refine X38.ldc2Long hx hown (mvT hZ (hw _ (List.mem_of_getElem? (i := 20) rfl))) (g := (mkF m 134 #[.val (.long q0), .second, .val (.long q1), .second, .val (.long (-7046029254386353131 : Int64)), .second, .val (.ref b2), .val (.long (f3 q0)), .second, .val (.long (v0_27 q0)), .second, .val (.ref b14), .val (.long (v0_47 q0)), .second, .val (.ref b23), .val (.long (f3 q1)), .second, .val (.ref b32), .val (.long (f3 (0 : Int64))), .second, .val (.int (m0_96_s0 q0)), .val (.int (m0_130_s0 q0 q1)), .unset] [(.long (f3 (0 : Int64)))])) rfl (hb hby at_134) _ ?_
    show Steps p.tables e below (T38.setTop (mkF m 137 #[.val (.long q0), .second, .val (.long q1), .second, .val (.long (-7046029254386353131 : Int64)), .second, .val (.ref b2), .val (.long (f3 q0)), .second, .val (.long (v0_27 q0)), .second, .val (.ref b14), .val (.long (v0_47 q0)), .second, .val (.ref b23), .val (.long (f3 q1)), .second, .val (.ref b32), .val (.long (f3 (0 : Int64))), .second, .val (.int (m0_96_s0 q0)), .val (.int (m0_130_s0 q0 q1)), .unset] [(.long (-2152535657050944081 : Int64)), (.long (f3 (0 : Int64)))])) t
    refine XS.lcmp X38.here hx rfl (hb hby at_137) rfl ?_
    exact k
  have k60 : own_Go p e below (s₁.setTop (entryFrame m #[(.long q0), (.long q1)] maxLocals)) (T38.setTop (mkF m 146 #[.val (.long q0), .second, .val (.long q1), .second, .val (.long (-7046029254386353131 : Int64)), .second, .val (.ref b2), .val (.long (f3 q0)), .second, .val (.long (v0_27 q0)), .second, .val (.ref b14), .val (.long (v0_47 q0)), .second, .val (.ref b23), .val (.long (f3 q1)), .second, .val (.ref b32), .val (.long (f3 (0 : Int64))), .second, .val (.int (m0_96_s0 q0)), .val (.int (m0_130_s0 q0 q1)), .unset] [(.int m0_146_s0)])) := by
    by_cases hc138_61 : (lcmpW (f3 (0 : Int64)) (-2152535657050944081 : Int64)) = (0 : Int32)
    · have k62 : own_Go p e below (s₁.setTop (entryFrame m #[(.long q0), (.long q1)] maxLocals)) (T38.setTop (mkF m 146 #[.val (.long q0), .second, .val (.long q1), .second, .val (.long (-7046029254386353131 : Int64)), .second, .val (.ref b2), .val (.long (f3 q0)), .second, .val (.long (v0_27 q0)), .second, .val (.ref b14), .val (.long (v0_47 q0)), .second, .val (.ref b23), .val (.long (f3 q1)), .second, .val (.ref b32), .val (.long (f3 (0 : Int64))), .second, .val (.int (m0_96_s0 q0)), .val (.int (m0_130_s0 q0 q1)), .unset] [(.int (1 : Int32))])) := by
        intro t k
        refine k59 t ?_
        show Steps p.tables e below (T38.setTop (mkF m 138 #[.val (.long q0), .second, .val (.long q1), .second, .val (.long (-7046029254386353131 : Int64)), .second, .val (.ref b2), .val (.long (f3 q0)), .second, .val (.long (v0_27 q0)), .second, .val (.ref b14), .val (.long (v0_47 q0)), .second, .val (.ref b23), .val (.long (f3 q1)), .second, .val (.ref b32), .val (.long (f3 (0 : Int64))), .second, .val (.int (m0_96_s0 q0)), .val (.int (m0_130_s0 q0 q1)), .unset] [(.int (lcmpW (f3 (0 : Int64)) (-2152535657050944081 : Int64)))])) t
        refine XS.ifNo X38.here hx rfl (hb hby at_138) rfl ((if0 _ _).trans (teq hc138_61).2) ?_
        show Steps p.tables e below (T38.setTop (mkF m 141 #[.val (.long q0), .second, .val (.long q1), .second, .val (.long (-7046029254386353131 : Int64)), .second, .val (.ref b2), .val (.long (f3 q0)), .second, .val (.long (v0_27 q0)), .second, .val (.ref b14), .val (.long (v0_47 q0)), .second, .val (.ref b23), .val (.long (f3 q1)), .second, .val (.ref b32), .val (.long (f3 (0 : Int64))), .second, .val (.int (m0_96_s0 q0)), .val (.int (m0_130_s0 q0 q1)), .unset] [])) t
        refine XS.iconst X38.here hx rfl (hb hby at_141) ?_
        show Steps p.tables e below (T38.setTop (mkF m 142 #[.val (.long q0), .second, .val (.long q1), .second, .val (.long (-7046029254386353131 : Int64)), .second, .val (.ref b2), .val (.long (f3 q0)), .second, .val (.long (v0_27 q0)), .second, .val (.ref b14), .val (.long (v0_47 q0)), .second, .val (.ref b23), .val (.long (f3 q1)), .second, .val (.ref b32), .val (.long (f3 (0 : Int64))), .second, .val (.int (m0_96_s0 q0)), .val (.int (m0_130_s0 q0 q1)), .unset] [(.int (1 : Int32))])) t
        refine XS.goto X38.here hx rfl (pc0 := 142) (pc' := 146) rfl (hb hby at_142) (by decide) (by decide) ?_
        exact k
      exact (by rw [show m0_146_s0 = (1 : Int32) from (by unfold m0_146_s0; rw [if_pos hc138_61])]; exact k62)
    · have k63 : own_Go p e below (s₁.setTop (entryFrame m #[(.long q0), (.long q1)] maxLocals)) (T38.setTop (mkF m 146 #[.val (.long q0), .second, .val (.long q1), .second, .val (.long (-7046029254386353131 : Int64)), .second, .val (.ref b2), .val (.long (f3 q0)), .second, .val (.long (v0_27 q0)), .second, .val (.ref b14), .val (.long (v0_47 q0)), .second, .val (.ref b23), .val (.long (f3 q1)), .second, .val (.ref b32), .val (.long (f3 (0 : Int64))), .second, .val (.int (m0_96_s0 q0)), .val (.int (m0_130_s0 q0 q1)), .unset] [(.int (0 : Int32))])) := by
        intro t k
        refine k59 t ?_
        show Steps p.tables e below (T38.setTop (mkF m 138 #[.val (.long q0), .second, .val (.long q1), .second, .val (.long (-7046029254386353131 : Int64)), .second, .val (.ref b2), .val (.long (f3 q0)), .second, .val (.long (v0_27 q0)), .second, .val (.ref b14), .val (.long (v0_47 q0)), .second, .val (.ref b23), .val (.long (f3 q1)), .second, .val (.ref b32), .val (.long (f3 (0 : Int64))), .second, .val (.int (m0_96_s0 q0)), .val (.int (m0_130_s0 q0 q1)), .unset] [(.int (lcmpW (f3 (0 : Int64)) (-2152535657050944081 : Int64)))])) t
        refine XS.ifYes X38.here hx rfl (pc0 := 138) (pc' := 145) rfl (hb hby at_138) rfl ((if0 _ _).trans (feq hc138_61).2) (by decide) (by decide) ?_
        show Steps p.tables e below (T38.setTop (mkF m 145 #[.val (.long q0), .second, .val (.long q1), .second, .val (.long (-7046029254386353131 : Int64)), .second, .val (.ref b2), .val (.long (f3 q0)), .second, .val (.long (v0_27 q0)), .second, .val (.ref b14), .val (.long (v0_47 q0)), .second, .val (.ref b23), .val (.long (f3 q1)), .second, .val (.ref b32), .val (.long (f3 (0 : Int64))), .second, .val (.int (m0_96_s0 q0)), .val (.int (m0_130_s0 q0 q1)), .unset] [])) t
        refine XS.iconst X38.here hx rfl (hb hby at_145) ?_
        exact k
      exact (by rw [show m0_146_s0 = (0 : Int32) from (by unfold m0_146_s0; rw [if_neg hc138_61])]; exact k63)
  have k64 : own_Go p e below (s₁.setTop (entryFrame m #[(.long q0), (.long q1)] maxLocals)) (T38.setTop (mkF m 150 #[.val (.long q0), .second, .val (.long q1), .second, .val (.long (-7046029254386353131 : Int64)), .second, .val (.ref b2), .val (.long (f3 q0)), .second, .val (.long (v0_27 q0)), .second, .val (.ref b14), .val (.long (v0_47 q0)), .second, .val (.ref b23), .val (.long (f3 q1)), .second, .val (.ref b32), .val (.long (f3 (0 : Int64))), .second, .val (.int (m0_96_s0 q0)), .val (.int (m0_130_s0 q0 q1)), .val (.int m0_146_s0)] [(.int (m0_96_s0 q0))])) := by
    intro t k
    refine k60 t ?_
    show Steps p.tables e below (T38.setTop (mkF m 146 #[.val (.long q0), .second, .val (.long q1), .second, .val (.long (-7046029254386353131 : Int64)), .second, .val (.ref b2), .val (.long (f3 q0)), .second, .val (.long (v0_27 q0)), .second, .val (.ref b14), .val (.long (v0_47 q0)), .second, .val (.ref b23), .val (.long (f3 q1)), .second, .val (.ref b32), .val (.long (f3 (0 : Int64))), .second, .val (.int (m0_96_s0 q0)), .val (.int (m0_130_s0 q0 q1)), .unset] [(.int m0_146_s0)])) t
    refine XS.istore X38.here hx rfl (hb hby at_146) rfl (l' := #[.val (.long q0), .second, .val (.long q1), .second, .val (.long (-7046029254386353131 : Int64)), .second, .val (.ref b2), .val (.long (f3 q0)), .second, .val (.long (v0_27 q0)), .second, .val (.ref b14), .val (.long (v0_47 q0)), .second, .val (.ref b23), .val (.long (f3 q1)), .second, .val (.ref b32), .val (.long (f3 (0 : Int64))), .second, .val (.int (m0_96_s0 q0)), .val (.int (m0_130_s0 q0 q1)), .val (.int m0_146_s0)]) rfl ?_
    show Steps p.tables e below (T38.setTop (mkF m 148 #[.val (.long q0), .second, .val (.long q1), .second, .val (.long (-7046029254386353131 : Int64)), .second, .val (.ref b2), .val (.long (f3 q0)), .second, .val (.long (v0_27 q0)), .second, .val (.ref b14), .val (.long (v0_47 q0)), .second, .val (.ref b23), .val (.long (f3 q1)), .second, .val (.ref b32), .val (.long (f3 (0 : Int64))), .second, .val (.int (m0_96_s0 q0)), .val (.int (m0_130_s0 q0 q1)), .val (.int m0_146_s0)] [])) t
    refine XS.iload X38.here hx rfl (hb hby at_148) rfl ?_
    exact k
  by_cases hc150_65 : (m0_96_s0 q0) = (0 : Int32)
  · have k66 : own_Go p e below (s₁.setTop (entryFrame m #[(.long q0), (.long q1)] maxLocals)) (T38.setTop (mkF m 168 #[.val (.long q0), .second, .val (.long q1), .second, .val (.long (-7046029254386353131 : Int64)), .second, .val (.ref b2), .val (.long (f3 q0)), .second, .val (.long (v0_27 q0)), .second, .val (.ref b14), .val (.long (v0_47 q0)), .second, .val (.ref b23), .val (.long (f3 q1)), .second, .val (.ref b32), .val (.long (f3 (0 : Int64))), .second, .val (.int (m0_96_s0 q0)), .val (.int (m0_130_s0 q0 q1)), .val (.int m0_146_s0)] [(.int (0 : Int32))])) := by
      intro t k
      refine k64 t ?_
      show Steps p.tables e below (T38.setTop (mkF m 150 #[.val (.long q0), .second, .val (.long q1), .second, .val (.long (-7046029254386353131 : Int64)), .second, .val (.ref b2), .val (.long (f3 q0)), .second, .val (.long (v0_27 q0)), .second, .val (.ref b14), .val (.long (v0_47 q0)), .second, .val (.ref b23), .val (.long (f3 q1)), .second, .val (.ref b32), .val (.long (f3 (0 : Int64))), .second, .val (.int (m0_96_s0 q0)), .val (.int (m0_130_s0 q0 q1)), .val (.int m0_146_s0)] [(.int (m0_96_s0 q0))])) t
      refine XS.ifYes X38.here hx rfl (pc0 := 150) (pc' := 167) rfl (hb hby at_150) rfl ((if0 _ _).trans (teq hc150_65).1) (by decide) (by decide) ?_
      show Steps p.tables e below (T38.setTop (mkF m 167 #[.val (.long q0), .second, .val (.long q1), .second, .val (.long (-7046029254386353131 : Int64)), .second, .val (.ref b2), .val (.long (f3 q0)), .second, .val (.long (v0_27 q0)), .second, .val (.ref b14), .val (.long (v0_47 q0)), .second, .val (.ref b23), .val (.long (f3 q1)), .second, .val (.ref b32), .val (.long (f3 (0 : Int64))), .second, .val (.int (m0_96_s0 q0)), .val (.int (m0_130_s0 q0 q1)), .val (.int m0_146_s0)] [])) t
      refine XS.iconst X38.here hx rfl (hb hby at_167) ?_
      exact k
    obtain ⟨fs, hr, hrun, hended, hW, hsame⟩ := X38.leave (v := some (.int (0 : Int32))) (fun h => by rw [Bd.returns] at h; cases h)
    refine ⟨_, _, k66 _ ?_, hrun, hended, _, _, rfl, ?_, ⟨_, rfl⟩, hW, hsame.mono (by decide) (by decide)⟩
    · exact retN X38 hx (t := .boolean) Bd.returns (by simp) (hb hby at_168) hr
    · show Q0 Z q0 q1 h0 n0 _ T38.heap _
      exact ⟨congrArg (fun z => some (Value.int z)) (show f0 q0 q1 = (0 : Int32) from (by unfold f0; rw [if_pos hc150_65])).symm, N38⟩
  · have k67 : own_Go p e below (s₁.setTop (entryFrame m #[(.long q0), (.long q1)] maxLocals)) (T38.setTop (mkF m 155 #[.val (.long q0), .second, .val (.long q1), .second, .val (.long (-7046029254386353131 : Int64)), .second, .val (.ref b2), .val (.long (f3 q0)), .second, .val (.long (v0_27 q0)), .second, .val (.ref b14), .val (.long (v0_47 q0)), .second, .val (.ref b23), .val (.long (f3 q1)), .second, .val (.ref b32), .val (.long (f3 (0 : Int64))), .second, .val (.int (m0_96_s0 q0)), .val (.int (m0_130_s0 q0 q1)), .val (.int m0_146_s0)] [(.int (m0_130_s0 q0 q1))])) := by
      intro t k
      refine k64 t ?_
      show Steps p.tables e below (T38.setTop (mkF m 150 #[.val (.long q0), .second, .val (.long q1), .second, .val (.long (-7046029254386353131 : Int64)), .second, .val (.ref b2), .val (.long (f3 q0)), .second, .val (.long (v0_27 q0)), .second, .val (.ref b14), .val (.long (v0_47 q0)), .second, .val (.ref b23), .val (.long (f3 q1)), .second, .val (.ref b32), .val (.long (f3 (0 : Int64))), .second, .val (.int (m0_96_s0 q0)), .val (.int (m0_130_s0 q0 q1)), .val (.int m0_146_s0)] [(.int (m0_96_s0 q0))])) t
      refine XS.ifNo X38.here hx rfl (hb hby at_150) rfl ((if0 _ _).trans (feq hc150_65).1) ?_
      show Steps p.tables e below (T38.setTop (mkF m 153 #[.val (.long q0), .second, .val (.long q1), .second, .val (.long (-7046029254386353131 : Int64)), .second, .val (.ref b2), .val (.long (f3 q0)), .second, .val (.long (v0_27 q0)), .second, .val (.ref b14), .val (.long (v0_47 q0)), .second, .val (.ref b23), .val (.long (f3 q1)), .second, .val (.ref b32), .val (.long (f3 (0 : Int64))), .second, .val (.int (m0_96_s0 q0)), .val (.int (m0_130_s0 q0 q1)), .val (.int m0_146_s0)] [])) t
      refine XS.iload X38.here hx rfl (hb hby at_153) rfl ?_
      exact k
    by_cases hc155_68 : (m0_130_s0 q0 q1) = (0 : Int32)
    · have k69 : own_Go p e below (s₁.setTop (entryFrame m #[(.long q0), (.long q1)] maxLocals)) (T38.setTop (mkF m 168 #[.val (.long q0), .second, .val (.long q1), .second, .val (.long (-7046029254386353131 : Int64)), .second, .val (.ref b2), .val (.long (f3 q0)), .second, .val (.long (v0_27 q0)), .second, .val (.ref b14), .val (.long (v0_47 q0)), .second, .val (.ref b23), .val (.long (f3 q1)), .second, .val (.ref b32), .val (.long (f3 (0 : Int64))), .second, .val (.int (m0_96_s0 q0)), .val (.int (m0_130_s0 q0 q1)), .val (.int m0_146_s0)] [(.int (0 : Int32))])) := by
        intro t k
        refine k67 t ?_
        show Steps p.tables e below (T38.setTop (mkF m 155 #[.val (.long q0), .second, .val (.long q1), .second, .val (.long (-7046029254386353131 : Int64)), .second, .val (.ref b2), .val (.long (f3 q0)), .second, .val (.long (v0_27 q0)), .second, .val (.ref b14), .val (.long (v0_47 q0)), .second, .val (.ref b23), .val (.long (f3 q1)), .second, .val (.ref b32), .val (.long (f3 (0 : Int64))), .second, .val (.int (m0_96_s0 q0)), .val (.int (m0_130_s0 q0 q1)), .val (.int m0_146_s0)] [(.int (m0_130_s0 q0 q1))])) t
        refine XS.ifYes X38.here hx rfl (pc0 := 155) (pc' := 167) rfl (hb hby at_155) rfl ((if0 _ _).trans (teq hc155_68).1) (by decide) (by decide) ?_
        show Steps p.tables e below (T38.setTop (mkF m 167 #[.val (.long q0), .second, .val (.long q1), .second, .val (.long (-7046029254386353131 : Int64)), .second, .val (.ref b2), .val (.long (f3 q0)), .second, .val (.long (v0_27 q0)), .second, .val (.ref b14), .val (.long (v0_47 q0)), .second, .val (.ref b23), .val (.long (f3 q1)), .second, .val (.ref b32), .val (.long (f3 (0 : Int64))), .second, .val (.int (m0_96_s0 q0)), .val (.int (m0_130_s0 q0 q1)), .val (.int m0_146_s0)] [])) t
        refine XS.iconst X38.here hx rfl (hb hby at_167) ?_
        exact k
      obtain ⟨fs, hr, hrun, hended, hW, hsame⟩ := X38.leave (v := some (.int (0 : Int32))) (fun h => by rw [Bd.returns] at h; cases h)
      refine ⟨_, _, k69 _ ?_, hrun, hended, _, _, rfl, ?_, ⟨_, rfl⟩, hW, hsame.mono (by decide) (by decide)⟩
      · exact retN X38 hx (t := .boolean) Bd.returns (by simp) (hb hby at_168) hr
      · show Q0 Z q0 q1 h0 n0 _ T38.heap _
        exact ⟨congrArg (fun z => some (Value.int z)) (show f0 q0 q1 = (0 : Int32) from (by unfold f0; rw [if_neg hc150_65, if_pos hc155_68])).symm, N38⟩
    · have k70 : own_Go p e below (s₁.setTop (entryFrame m #[(.long q0), (.long q1)] maxLocals)) (T38.setTop (mkF m 160 #[.val (.long q0), .second, .val (.long q1), .second, .val (.long (-7046029254386353131 : Int64)), .second, .val (.ref b2), .val (.long (f3 q0)), .second, .val (.long (v0_27 q0)), .second, .val (.ref b14), .val (.long (v0_47 q0)), .second, .val (.ref b23), .val (.long (f3 q1)), .second, .val (.ref b32), .val (.long (f3 (0 : Int64))), .second, .val (.int (m0_96_s0 q0)), .val (.int (m0_130_s0 q0 q1)), .val (.int m0_146_s0)] [(.int m0_146_s0)])) := by
        intro t k
        refine k67 t ?_
        show Steps p.tables e below (T38.setTop (mkF m 155 #[.val (.long q0), .second, .val (.long q1), .second, .val (.long (-7046029254386353131 : Int64)), .second, .val (.ref b2), .val (.long (f3 q0)), .second, .val (.long (v0_27 q0)), .second, .val (.ref b14), .val (.long (v0_47 q0)), .second, .val (.ref b23), .val (.long (f3 q1)), .second, .val (.ref b32), .val (.long (f3 (0 : Int64))), .second, .val (.int (m0_96_s0 q0)), .val (.int (m0_130_s0 q0 q1)), .val (.int m0_146_s0)] [(.int (m0_130_s0 q0 q1))])) t
        refine XS.ifNo X38.here hx rfl (hb hby at_155) rfl ((if0 _ _).trans (feq hc155_68).1) ?_
        show Steps p.tables e below (T38.setTop (mkF m 158 #[.val (.long q0), .second, .val (.long q1), .second, .val (.long (-7046029254386353131 : Int64)), .second, .val (.ref b2), .val (.long (f3 q0)), .second, .val (.long (v0_27 q0)), .second, .val (.ref b14), .val (.long (v0_47 q0)), .second, .val (.ref b23), .val (.long (f3 q1)), .second, .val (.ref b32), .val (.long (f3 (0 : Int64))), .second, .val (.int (m0_96_s0 q0)), .val (.int (m0_130_s0 q0 q1)), .val (.int m0_146_s0)] [])) t
        refine XS.iload X38.here hx rfl (hb hby at_158) rfl ?_
        exact k
      by_cases hc160_71 : m0_146_s0 = (0 : Int32)
      · have k72 : own_Go p e below (s₁.setTop (entryFrame m #[(.long q0), (.long q1)] maxLocals)) (T38.setTop (mkF m 168 #[.val (.long q0), .second, .val (.long q1), .second, .val (.long (-7046029254386353131 : Int64)), .second, .val (.ref b2), .val (.long (f3 q0)), .second, .val (.long (v0_27 q0)), .second, .val (.ref b14), .val (.long (v0_47 q0)), .second, .val (.ref b23), .val (.long (f3 q1)), .second, .val (.ref b32), .val (.long (f3 (0 : Int64))), .second, .val (.int (m0_96_s0 q0)), .val (.int (m0_130_s0 q0 q1)), .val (.int m0_146_s0)] [(.int (0 : Int32))])) := by
          intro t k
          refine k70 t ?_
          show Steps p.tables e below (T38.setTop (mkF m 160 #[.val (.long q0), .second, .val (.long q1), .second, .val (.long (-7046029254386353131 : Int64)), .second, .val (.ref b2), .val (.long (f3 q0)), .second, .val (.long (v0_27 q0)), .second, .val (.ref b14), .val (.long (v0_47 q0)), .second, .val (.ref b23), .val (.long (f3 q1)), .second, .val (.ref b32), .val (.long (f3 (0 : Int64))), .second, .val (.int (m0_96_s0 q0)), .val (.int (m0_130_s0 q0 q1)), .val (.int m0_146_s0)] [(.int m0_146_s0)])) t
          refine XS.ifYes X38.here hx rfl (pc0 := 160) (pc' := 167) rfl (hb hby at_160) rfl ((if0 _ _).trans (teq hc160_71).1) (by decide) (by decide) ?_
          show Steps p.tables e below (T38.setTop (mkF m 167 #[.val (.long q0), .second, .val (.long q1), .second, .val (.long (-7046029254386353131 : Int64)), .second, .val (.ref b2), .val (.long (f3 q0)), .second, .val (.long (v0_27 q0)), .second, .val (.ref b14), .val (.long (v0_47 q0)), .second, .val (.ref b23), .val (.long (f3 q1)), .second, .val (.ref b32), .val (.long (f3 (0 : Int64))), .second, .val (.int (m0_96_s0 q0)), .val (.int (m0_130_s0 q0 q1)), .val (.int m0_146_s0)] [])) t
          refine XS.iconst X38.here hx rfl (hb hby at_167) ?_
          exact k
        obtain ⟨fs, hr, hrun, hended, hW, hsame⟩ := X38.leave (v := some (.int (0 : Int32))) (fun h => by rw [Bd.returns] at h; cases h)
        refine ⟨_, _, k72 _ ?_, hrun, hended, _, _, rfl, ?_, ⟨_, rfl⟩, hW, hsame.mono (by decide) (by decide)⟩
        · exact retN X38 hx (t := .boolean) Bd.returns (by simp) (hb hby at_168) hr
        · show Q0 Z q0 q1 h0 n0 _ T38.heap _
          exact ⟨congrArg (fun z => some (Value.int z)) (show f0 q0 q1 = (0 : Int32) from (by unfold f0; rw [if_neg hc150_65, if_neg hc155_68, if_pos hc160_71])).symm, N38⟩
      · have k73 : own_Go p e below (s₁.setTop (entryFrame m #[(.long q0), (.long q1)] maxLocals)) (T38.setTop (mkF m 168 #[.val (.long q0), .second, .val (.long q1), .second, .val (.long (-7046029254386353131 : Int64)), .second, .val (.ref b2), .val (.long (f3 q0)), .second, .val (.long (v0_27 q0)), .second, .val (.ref b14), .val (.long (v0_47 q0)), .second, .val (.ref b23), .val (.long (f3 q1)), .second, .val (.ref b32), .val (.long (f3 (0 : Int64))), .second, .val (.int (m0_96_s0 q0)), .val (.int (m0_130_s0 q0 q1)), .val (.int m0_146_s0)] [(.int (1 : Int32))])) := by
          intro t k
          refine k70 t ?_
          show Steps p.tables e below (T38.setTop (mkF m 160 #[.val (.long q0), .second, .val (.long q1), .second, .val (.long (-7046029254386353131 : Int64)), .second, .val (.ref b2), .val (.long (f3 q0)), .second, .val (.long (v0_27 q0)), .second, .val (.ref b14), .val (.long (v0_47 q0)), .second, .val (.ref b23), .val (.long (f3 q1)), .second, .val (.ref b32), .val (.long (f3 (0 : Int64))), .second, .val (.int (m0_96_s0 q0)), .val (.int (m0_130_s0 q0 q1)), .val (.int m0_146_s0)] [(.int m0_146_s0)])) t
          refine XS.ifNo X38.here hx rfl (hb hby at_160) rfl ((if0 _ _).trans (feq hc160_71).1) ?_
          show Steps p.tables e below (T38.setTop (mkF m 163 #[.val (.long q0), .second, .val (.long q1), .second, .val (.long (-7046029254386353131 : Int64)), .second, .val (.ref b2), .val (.long (f3 q0)), .second, .val (.long (v0_27 q0)), .second, .val (.ref b14), .val (.long (v0_47 q0)), .second, .val (.ref b23), .val (.long (f3 q1)), .second, .val (.ref b32), .val (.long (f3 (0 : Int64))), .second, .val (.int (m0_96_s0 q0)), .val (.int (m0_130_s0 q0 q1)), .val (.int m0_146_s0)] [])) t
          refine XS.iconst X38.here hx rfl (hb hby at_163) ?_
          show Steps p.tables e below (T38.setTop (mkF m 164 #[.val (.long q0), .second, .val (.long q1), .second, .val (.long (-7046029254386353131 : Int64)), .second, .val (.ref b2), .val (.long (f3 q0)), .second, .val (.long (v0_27 q0)), .second, .val (.ref b14), .val (.long (v0_47 q0)), .second, .val (.ref b23), .val (.long (f3 q1)), .second, .val (.ref b32), .val (.long (f3 (0 : Int64))), .second, .val (.int (m0_96_s0 q0)), .val (.int (m0_130_s0 q0 q1)), .val (.int m0_146_s0)] [(.int (1 : Int32))])) t
          refine XS.goto X38.here hx rfl (pc0 := 164) (pc' := 168) rfl (hb hby at_164) (by decide) (by decide) ?_
          exact k
        obtain ⟨fs, hr, hrun, hended, hW, hsame⟩ := X38.leave (v := some (.int (1 : Int32))) (fun h => by rw [Bd.returns] at h; cases h)
        refine ⟨_, _, k73 _ ?_, hrun, hended, _, _, rfl, ?_, ⟨_, rfl⟩, hW, hsame.mono (by decide) (by decide)⟩
        · exact retN X38 hx (t := .boolean) Bd.returns (by simp) (hb hby at_168) hr
        · show Q0 Z q0 q1 h0 n0 _ T38.heap _
          exact ⟨congrArg (fun z => some (Value.int z)) (show f0 q0 q1 = (1 : Int32) from (by unfold f0; rw [if_neg hc150_65, if_neg hc155_68, if_neg hc160_71])).symm, N38⟩
theorem own_lc (x : Int64) : lcmpW x x = 0 := by
  unfold lcmpW
  rw [if_neg (fun h => Int64.lt_irrefl h), if_pos rfl]
theorem own_sh (x : Int64) (k : Int32) (n : Nat) (hk : ((k &&& 0x3f).toInt64.toUInt64.toBitVec % 64#64).toNat = n) : ((x.toUInt64 >>> (k &&& 0x3f).toInt64.toUInt64).toInt64).toBitVec = x.toBitVec >>> n := by
  subst hk; rfl
theorem own_xs (x : BitVec 64) (k k2 : Nat) (h2 : k2 = k + k) (h3 : 64 ≤ k2 + k) : ((x ^^^ (x >>> k)) ^^^ ((x ^^^ (x >>> k)) >>> k)) ^^^ ((x ^^^ (x >>> k)) >>> k2) = x := by
  subst h2
  apply BitVec.eq_of_getLsbD_eq
  intro i hi
  simp only [BitVec.getLsbD_xor, BitVec.getLsbD_ushiftRight]
  rw [show k + (k + i) = k + k + i by omega, BitVec.getLsbD_of_ge x (k + (k + k + i)) (by omega)]
  cases x.getLsbD i <;> cases x.getLsbD (k + i) <;> cases x.getLsbD (k + k + i) <;> rfl
def own_u (x : Int64) (k : Int32) : Int64 := x ^^^ ((x.toUInt64 >>> (k &&& 0x3f).toInt64.toUInt64).toInt64)
def own_v (x : Int64) (k k2 : Int32) : Int64 := (x ^^^ ((x.toUInt64 >>> (k &&& 0x3f).toInt64.toUInt64).toInt64)) ^^^ ((x.toUInt64 >>> (k2 &&& 0x3f).toInt64.toUInt64).toInt64)
theorem own_vu (x : Int64) (k k2 : Int32) (n n2 : Nat) (hk : ((k &&& 0x3f).toInt64.toUInt64.toBitVec % 64#64).toNat = n) (hk2 : ((k2 &&& 0x3f).toInt64.toUInt64.toBitVec % 64#64).toNat = n2) (h2 : n2 = n + n) (h3 : 64 ≤ n2 + n) : own_v (own_u x k) k k2 = x := by
  apply Int64.toBitVec_inj.mp
  simp only [own_v, own_u, Int64.toBitVec_xor, own_sh _ k n hk, own_sh _ k2 n2 hk2]
  exact own_xs x.toBitVec n n2 h2 h3
theorem own_mul (a M N : Int64) (h : M * N = 1) : a * M * N = a := by rw [Int64.mul_assoc, h, Int64.mul_one]

def own_unm (z : Int64) : Int64 := own_v (own_v (own_v z 31 62 * (3573116690164977347 : Int64)) 27 54 * (-7575587736534282103 : Int64)) 30 60
theorem own_un (w : Int64) : own_unm (f3 w) = w + (-7046029254386353131 : Int64) := by
  show own_v (own_v (own_v (own_u (own_u (own_u (w + (-7046029254386353131 : Int64)) 30 * (-4658895280553007687 : Int64)) 27 * (-7723592293110705685 : Int64)) 31) 31 62 * (3573116690164977347 : Int64)) 27 54 * (-7575587736534282103 : Int64)) 30 60 = _
  rw [own_vu _ 31 62 31 62 (by decide) (by decide) rfl (by decide), own_mul _ _ _ (by decide +kernel), own_vu _ 27 54 27 54 (by decide) (by decide) rfl (by decide), own_mul _ _ _ (by decide +kernel), own_vu _ 30 60 30 60 (by decide) (by decide) rfl (by decide)]
theorem own_inj (a b : Int64) (h : f3 a = f3 b) : a = b := by
  have e := congrArg own_unm h
  rw [own_un, own_un] at e
  have e2 := congrArg (fun z => z - (-7046029254386353131 : Int64)) e
  simpa only [Int64.add_sub_cancel] using e2
theorem own_ne {x y : Int64} (h : x ≠ y) : lcmpW x y ≠ 0 := by
  unfold lcmpW
  by_cases a : x > y
  · rw [if_pos a]; decide
  · rw [if_neg a, if_neg h]; decide
theorem own_law (q0 q1 : Int64) : f0 q0 q1 = 1 := by
  have e1 : m0_96_s0 q0 = 1 := by unfold m0_96_s0 v0_27 v0_47; rw [own_lc, if_pos rfl]
  have e2 : m0_130_s0 q0 q1 = 1 := by
    unfold m0_130_s0 m0_109_s0 m0_122_s0
    by_cases h : q0 = q1
    · subst h; rw [own_lc, own_lc, if_pos rfl]
    · rw [if_neg (own_ne h), if_neg (own_ne fun k => h (own_inj _ _ k)), if_pos rfl]
  have e3 : m0_146_s0 = 1 := by
    unfold m0_146_s0
    rw [show f3 (0 : Int64) = (-2152535657050944081 : Int64) by decide +kernel, own_lc, if_pos rfl]
  unfold f0
  rw [e1, e2, e3, if_neg (by decide), if_neg (by decide), if_neg (by decide)]

set_option maxRecDepth 65536 in
set_option maxHeartbeats 40000000 in
theorem comes_1 {Post : Tables → Env → Array Value → State → Outcome → State → Prop} (hpost : ∀ tb e args s v u, (limb_1_1.after args s (.returned v) u = true ∧ limb_1_2.after args s (.returned v) u = true ∧ True) → FrameEnd s (.returned v) u (Jvm.fieldLocs frame_1_writes args s ++ Jvm.arrayLocs frame_1_arrays args s ++ Jvm.staticLocs frame_1_statics s) 16 128 → Post tb e args s (.returned v) u) :
    ArmFor flags0 classFile x code maxLocals ret World_1 tables_1 room_1 Calls_1 rest_1 Pre_1 Post := by
  intro l hfl _ _ p e ha hc hk s m args below hf hA hF happ hP
  obtain ⟨hcalls, hrest, hpre⟩ := hP
  obtain ⟨-, -, -, hnamed, -, -, -, hat⟩ := (Spec.applies_iff hf).mp happ
  obtain ⟨hg, hn⟩ := and_e (Cond.before_iff.mp (show (Jvm.Cond.and given_1 narrow_1).before args s = true from hpre))
  obtain ⟨u1, u2⟩ := and_e hg
  obtain ⟨u3, u4⟩ := and_e u2
  obtain ⟨w0, w1, rfl⟩ : ∃ w0 w1 : Value, args = #[w0, w1] := by
    have hs : args.size = 2 := by simpa [Cond.value, given_1] using u1
    obtain ⟨L⟩ := args
    match L, hs with
    | [w0, w1], _ => exact ⟨w0, w1, rfl⟩
  have hw := fun d (hd : d ∈ tables_1) => atoms_spec (ws := Jvm.Cond.code x code maxLocals ret :: tables_1) hat d (List.mem_cons_of_mem _ hd)
  have hfit : Fit s := fun {y c} hc i hi => by
    obtain ⟨ha, rfl⟩ := Array.getElem?_eq_some_iff.mp hc
    have q := List.all_eq_true.mp ((Array.all_eq_true_iff_forall_mem.mp hF) _ (Array.getElem_mem ha)) i (List.mem_range.mpr hi)
    simpa [Array.getElem?_eq_getElem hi] using q
  obtain ⟨i0, ei0⟩ := isL_v u3
  obtain rfl : w0 = (.long i0) := Option.some.inj ei0
  obtain ⟨i1, ei1⟩ := isL_v u4
  obtain rfl : w1 = (.long i1) := Option.some.inj ei1
  obtain ⟨n, o, h1, h2, h3, v, L, rfl, ⟨hv, N⟩, hq⟩ := rm0 l s _ hw tables_1 i0 i1  s.heap s.heap.size (Nat.le_refl _)  p e ha hc hk s m _ below hf ((Spec.applies_iff_loose hf).mp happ).1 ⟨rfl, State.Warmed39.refl s, rfl⟩ trivial
  rw [own_law i0 i1] at hv
  subst hv
  refine ⟨n, _, h1, h2, h3, hpost _ _ _ _ _ _ ⟨Cond.after_iff.mpr rfl, Cond.after_iff.mpr (eq_i res_at (Term.int_eval (1)) rfl), trivial⟩ ⟨hq.1, hq.2.1, (hq.2.2.sift fun y hy => Or.inr (N y hy)).mono (by decide) (by decide)⟩⟩
theorem main_1_1 : Claimed_1_1 := comes_1 fun _ _ _ _ _ _ h hF => ⟨h.1, hF⟩
theorem main_1_2 : Claimed_1_2 := comes_1 fun _ _ _ _ _ _ h hF => ⟨h.2.1, hF⟩
end Jvm.Pilot.@@N@@
namespace Jvm.Pilot.@@N@@
open Jvm Jvm.ClassFile Sem Op Lib Jvm.Free Jvm.Stand Jvm.Pilot.@@N@@.Jvm.D
/-! MADE BY PROGRAM (witnessworld.py) out of the Statement's table words and the real class files: 9 classes; the members and pool entries that the words name. The judged class is class 1, her method 1. -/
namespace start1
open Jvm.ClassFile
def u (s : String) : CpInfo := .utf8 (stringToUtf16 s)
/-- a pool by its gaps: so many unusable entries, then the entry; so many at the end -/
def gap : Nat → List CpInfo → List CpInfo
  | 0, r => r
  | n + 1, r => .unusable :: gap n r
def poolList (es : List (Nat × CpInfo)) (last : Nat) : List CpInfo := es.foldr (fun e r => gap e.1 (e.2 :: r)) (gap last [])
def pool (es : List (Nat × CpInfo)) (last : Nat) : Array CpInfo := ⟨poolList es last⟩
def fileOf (pool : Array CpInfo) (this : Nat) (attrs : Array Attribute := #[]) (ms : Array MethodInfo := #[]) (fl : Nat := 33) (sup : Nat := 0) (ifs : Array Nat := #[]) (fds : Array FieldInfo := #[]) : ClassFile where
  minorVersion := 0
  majorVersion := 65
  constantPool := pool
  accessFlags := fl
  thisClass := this
  superClass := sup
  interfaces := ifs
  fields := fds
  methods := ms
  attributes := attrs
def plain (name : String) (sup : Option ClassId) : Class where
  name := name
  kind := .ordinary
  loader := none
  accessFlags := 33
  super := sup
  interfaces := #[]
  cf := none
  fields := #[]
  methods := #[]
  instanceTypes := #[]
  staticTypes := #[]
  resolved := #[]
  callSites := []
  init := .initialized
  statics := none
  mirror := none

def pool0 : Array CpInfo := pool [(5, u "<init>"), (0, u "()V"), (1, .class_ 10), (1, u "java/lang/Object")] 113

def k0c0 : Code := { maxStack := 0, maxLocals := 1, code := object_method_1_code, exceptionTable := #[], attributes := #[] }
def k0m0 : Method := { name := "<init>", desc := "()V", sig := { parameters := [], returnType := none }, accessFlags := 1, code := some k0c0 }
/-- java/lang/Object -/
def k0 : Class := { plain "java/lang/Object" none with
  accessFlags := 33
  interfaces := #[]
  cf := some (fileOf pool0 8 #[] #[{ accessFlags := 1, nameIndex := 5, descriptorIndex := 6, attributes := #[] }] 33 0 #[] #[])
  fields := #[]
  methods := #[k0m0]
  instanceTypes := #[]
  staticTypes := #[]
  resolved := Array.replicate 124 none
  statics := none }

def pool1 : Array CpInfo := pool [(2, .class_ 4), (1, u "java/lang/Object"), (0, u "<init>"), (0, u "()V"), (0, .long 11400714819323198485), (1, .class_ 10), (0, u "com/example/rillgraph/rillgraph/cli/SeededRandom"), (0, .methodref 9 12), (0, .nameAndType 5 13), (0, u "(J)V"), (0, .methodref 9 15), (0, .nameAndType 16 17), (0, u "nextLong"), (0, u "()J"), (0, .long 16294208416658607535), (1, .class_ 21), (0, u "com/example/rillgraph/rillgraph/cli/SeededRandomNextLongPinLaw"), (2, u "law"), (0, u "(JJ)Z")] 3

def k1m0 : Method := { name := "<init>", desc := "()V", sig := { parameters := [], returnType := none }, accessFlags := 1, code := none }
def k1c1 : Code := { maxStack := 6, maxLocals := 23, code := code, exceptionTable := #[], attributes := #[] }
def k1m1 : Method := { name := "law", desc := "(JJ)Z", sig := { parameters := [.long, .long], returnType := some .boolean }, accessFlags := 9, code := some k1c1 }
/-- com/example/rillgraph/rillgraph/cli/SeededRandomNextLongPinLaw -/
def k1 : Class := { plain "com/example/rillgraph/rillgraph/cli/SeededRandomNextLongPinLaw" (some 0) with
  accessFlags := 49
  interfaces := #[]
  cf := some (fileOf pool1 20 #[] #[{ accessFlags := 1, nameIndex := 5, descriptorIndex := 6, attributes := #[] }, { accessFlags := 9, nameIndex := 24, descriptorIndex := 25, attributes := #[] }] 49 2 #[] #[])
  fields := #[]
  methods := #[k1m0, k1m1]
  instanceTypes := #[]
  staticTypes := #[]
  resolved := Array.replicate 29 none
  statics := none }

def pool2 : Array CpInfo := pool [(1, .methodref 2 3), (0, .class_ 4), (0, .nameAndType 5 6), (0, u "java/lang/Object"), (0, u "<init>"), (0, u "()V"), (0, .fieldref 8 9), (0, .class_ 10), (0, .nameAndType 11 12), (0, u "com/example/rillgraph/rillgraph/cli/SeededRandom"), (0, u "state"), (0, u "J"), (0, .long 11400714819323198485), (1, .long 13787848793156543929), (1, .long 10723151780598845931), (3, u "nextLong"), (0, u "()J"), (15, u "GAMMA"), (1, u "MIX_FIRST"), (0, u "MIX_SECOND"), (0, u "UNIT"), (0, u "D"), (0, u "(J)V")] 11

def k2c0 : Code := { maxStack := 3, maxLocals := 3, code := prog_62_method_1_code, exceptionTable := #[], attributes := #[] }
def k2m0 : Method := { name := "<init>", desc := "(J)V", sig := { parameters := [.long], returnType := none }, accessFlags := 0, code := some k2c0 }
def k2c1 : Code := { maxStack := 5, maxLocals := 3, code := prog_62_method_2_code, exceptionTable := #[], attributes := #[] }
def k2m1 : Method := { name := "nextLong", desc := "()J", sig := { parameters := [], returnType := some .long }, accessFlags := 0, code := some k2c1 }
/-- com/example/rillgraph/rillgraph/cli/SeededRandom -/
def k2 : Class := { plain "com/example/rillgraph/rillgraph/cli/SeededRandom" (some 0) with
  accessFlags := 48
  interfaces := #[]
  cf := some (fileOf pool2 8 #[] #[{ accessFlags := 0, nameIndex := 5, descriptorIndex := 44, attributes := #[] }, { accessFlags := 0, nameIndex := 21, descriptorIndex := 22, attributes := #[] }] 48 2 #[] #[{ accessFlags := 26, nameIndex := 38, descriptorIndex := 12, attributes := #[] }, { accessFlags := 26, nameIndex := 40, descriptorIndex := 12, attributes := #[] }, { accessFlags := 26, nameIndex := 41, descriptorIndex := 12, attributes := #[] }, { accessFlags := 26, nameIndex := 42, descriptorIndex := 43, attributes := #[] }, { accessFlags := 2, nameIndex := 11, descriptorIndex := 12, attributes := #[] }])
  fields := #[{ name := "GAMMA", type := .long, accessFlags := 26, slot := 0, constantValue := 0 }, { name := "MIX_FIRST", type := .long, accessFlags := 26, slot := 1, constantValue := 0 }, { name := "MIX_SECOND", type := .long, accessFlags := 26, slot := 2, constantValue := 0 }, { name := "UNIT", type := .double, accessFlags := 26, slot := 3, constantValue := 0 }, { name := "state", type := .long, accessFlags := 2, slot := 0, constantValue := 0 }]
  methods := #[k2m0, k2m1]
  instanceTypes := #[.long]
  staticTypes := #[.long, .long, .long, .double]
  resolved := Array.replicate 56 none
  statics := none }

def pool3 : Array CpInfo := pool [(1, u "java/lang/Cloneable"), (0, .class_ 1), (0, u "java/lang/Object"), (0, .class_ 3)] 3

/-- java/lang/Cloneable -/
def k3 : Class := { plain "java/lang/Cloneable" (some 0) with
  accessFlags := 1537
  interfaces := #[]
  cf := some (fileOf pool3 2 #[] #[] 1537 4 #[] #[])
  fields := #[]
  methods := #[]
  instanceTypes := #[]
  staticTypes := #[]
  resolved := Array.replicate 8 none
  statics := none }

def pool4 : Array CpInfo := pool [(1, u "java/io/Serializable"), (0, .class_ 1), (0, u "java/lang/Object"), (0, .class_ 3)] 3

/-- java/io/Serializable -/
def k4 : Class := { plain "java/io/Serializable" (some 0) with
  accessFlags := 1537
  interfaces := #[]
  cf := some (fileOf pool4 2 #[] #[] 1537 4 #[] #[])
  fields := #[]
  methods := #[]
  instanceTypes := #[]
  staticTypes := #[]
  resolved := Array.replicate 8 none
  statics := none }

/-- the primitive byte -/
def k5 : Class := { plain "byte" none with kind := .primitive 'B', accessFlags := 0x411 }
/-- [B -/
def k6 : Class := { plain "[B" (some 0) with kind := .array 5 .byte, interfaces := #[3, 4], accessFlags := 1041 }

/-- the primitive int -/
def k7 : Class := { plain "int" none with kind := .primitive 'I', accessFlags := 0x411 }
/-- [I -/
def k8 : Class := { plain "[I" (some 0) with kind := .array 7 .int, interfaces := #[3, 4], accessFlags := 1041 }

def heap : Heap := #[]
def classes : Array Class := #[k0, k1, k2, k3, k4, k5, k6, k7, k8]
def interned : List (Array UInt16 × Addr) := []
def slotsUsed : Nat := 0
def theMethod : MethodId := ⟨1, 1⟩
def args0 : Array Value := #[.long 5, .long 7]
def aboutOver (below : List Frame) : State where
  vm := { classes := classes, interned := interned.toArray }
  heap := heap
  slotsUsed := slotsUsed
  threads := #[{ frames := .invoking theMethod args0 :: below }]
def below0 : List Frame := [.native { method := ⟨0, 0⟩, args := #[] }]
def about1 : State := aboutOver below0
def p0 : Program := .bare "" "" ""
def e0 : Env := launch0.env 0 0 0
theorem w_frames : about1.frames = Frame.invoking theMethod args0 :: below0 := rfl
set_option maxRecDepth 65536 in
theorem w_args : argsFit about1.vm theMethod args0 = true := by decide +kernel
set_option maxRecDepth 65536 in
theorem w_heap : heapFits about1 = true := by decide +kernel
set_option maxRecDepth 65536 in
theorem w_runnable : about1.curStatus? = some .runnable := by decide +kernel
set_option maxRecDepth 65536 in
theorem w_alone : about1.alone = true := by decide +kernel
set_option maxRecDepth 65536 in
theorem w_named : about1.methodNamed? x = some theMethod := by decide +kernel
set_option maxRecDepth 65536 in
theorem w_hears : about1.hears theMethod below0 = true := by decide +kernel
set_option maxRecDepth 65536 in
theorem w_ripe : about1.ripe theMethod args0 below0 = true := by decide +kernel
theorem w_running : about1.status = .running := rfl
set_option maxRecDepth 65536 in
theorem w_room : about1.hasRoom e0.platform room_1 = true :=
  launch0.hasRoom_least _ room_1 (by decide +kernel) (by decide +kernel) (by decide +kernel) (by decide +kernel) (by decide +kernel) (by decide +kernel)
theorem allAtoms_all (ts : List Jvm.Cond) (a : Array Jvm.Value) (st : Jvm.State) : (allAtoms ts).before a st = ts.all (fun c => c.before a st) := by
  induction ts with
  | nil => rfl
  | cons c t ih =>
    show (Jvm.Cond.and c (allAtoms t)).before a st = _
    rw [Jvm.Cond.before_and, ih, List.all_cons]
def words1 : List Jvm.Cond := Jvm.Cond.code x code maxLocals ret :: tables_1
/-- a 'code' word, met by the world's own term for the bytes: nothing is compared byte by byte -/
theorem code_word {y : MethodName} {bytes : ByteArray} {mx : Nat} {rt : Option FieldType} {a : Array Value} {s : State} {m : MethodId} {meth : Method} {c : Code} (h1 : s.methodNamed? y = some m) (h2 : s.vm.method? m = some meth) (h3 : meth.code = some c) (h4 : c.code = bytes)
    (h5 : (c.maxLocals == mx && c.exceptionTable.isEmpty && decide (c.maxStack ≤ mostOperands) && decide (meth.sig.returnType = rt) && !meth.locks && decide (parseMethodDescriptor y.desc = some meth.sig)) = true) : (Jvm.Cond.code y bytes mx rt).before a s = true := by
  simp only [Bool.and_eq_true, beq_iff_eq, Bool.not_eq_true', decide_eq_true_eq] at h5
  obtain ⟨⟨⟨⟨⟨g1, g2⟩, g3⟩, g4⟩, g5⟩, g6⟩ := h5
  simp [Cond.before, Cond.holds, Cond.value, h1, h2, h3, h4, g1, g2, g3, g4, g5, g6]
def isCode : Jvm.Cond → Bool
  | .code _ _ _ _ => true
  | _ => false
theorem all_split {L : List Jvm.Cond} {P : Jvm.Cond → Bool} (h1 : L.all (fun c => isCode c || P c) = true) (h2 : ∀ c ∈ L.filter isCode, P c = true) : L.all P = true := by
  refine List.all_eq_true.mpr fun c hc => ?_
  have h := List.all_eq_true.mp h1 c hc
  rcases Bool.eq_false_or_eq_true (isCode c) with hi | hi
  · exact h2 c (List.mem_filter.mpr ⟨hc, hi⟩)
  · simpa [hi] using h
set_option maxRecDepth 65536 in
theorem w_c0 : (Jvm.Cond.code x code maxLocals ret).before args0 about1 = true := code_word (m := ⟨1, 1⟩) (meth := k1m1) (c := k1c1) (by decide +kernel) rfl rfl rfl (by decide +kernel)
set_option maxRecDepth 65536 in
theorem w_c1 : (Jvm.Cond.code ({ cls := "com/example/rillgraph/rillgraph/cli/SeededRandom", name := "<init>", desc := "(J)V" } : Jvm.MethodName) prog_62_method_1_code (3 : Nat) (Option.none : Option Jvm.ClassFile.FieldType)).before args0 about1 = true := code_word (m := ⟨2, 0⟩) (meth := k2m0) (c := k2c0) (by decide +kernel) rfl rfl rfl (by decide +kernel)
set_option maxRecDepth 65536 in
theorem w_c2 : (Jvm.Cond.code ({ cls := "java/lang/Object", name := "<init>", desc := "()V" } : Jvm.MethodName) object_method_1_code (1 : Nat) (Option.none : Option Jvm.ClassFile.FieldType)).before args0 about1 = true := code_word (m := ⟨0, 0⟩) (meth := k0m0) (c := k0c0) (by decide +kernel) rfl rfl rfl (by decide +kernel)
set_option maxRecDepth 65536 in
theorem w_c3 : (Jvm.Cond.code ({ cls := "com/example/rillgraph/rillgraph/cli/SeededRandom", name := "nextLong", desc := "()J" } : Jvm.MethodName) prog_62_method_2_code (3 : Nat) (Option.some Jvm.ClassFile.FieldType.long)).before args0 about1 = true := code_word (m := ⟨2, 1⟩) (meth := k2m1) (c := k2c1) (by decide +kernel) rfl rfl rfl (by decide +kernel)
def codes1 : List Jvm.Cond := [Jvm.Cond.code x code maxLocals ret, Jvm.Cond.code ({ cls := "com/example/rillgraph/rillgraph/cli/SeededRandom", name := "<init>", desc := "(J)V" } : Jvm.MethodName) prog_62_method_1_code (3 : Nat) (Option.none : Option Jvm.ClassFile.FieldType), Jvm.Cond.code ({ cls := "java/lang/Object", name := "<init>", desc := "()V" } : Jvm.MethodName) object_method_1_code (1 : Nat) (Option.none : Option Jvm.ClassFile.FieldType), Jvm.Cond.code ({ cls := "com/example/rillgraph/rillgraph/cli/SeededRandom", name := "nextLong", desc := "()J" } : Jvm.MethodName) prog_62_method_2_code (3 : Nat) (Option.some Jvm.ClassFile.FieldType.long)]
set_option maxRecDepth 65536 in
theorem codes_eq : words1.filter isCode = codes1 := rfl
theorem w_codes : ∀ c ∈ words1.filter isCode, c.before args0 about1 = true := by
  rw [codes_eq]
  intro c hc
  simp only [codes1, List.mem_cons, List.not_mem_nil, or_false] at hc
  rcases hc with rfl | rfl | rfl | rfl
  · exact w_c0
  · exact w_c1
  · exact w_c2
  · exact w_c3
set_option maxRecDepth 65536 in
theorem w_t1 : words1.all (fun c => isCode c || c.before args0 about1) = true := by decide +kernel
theorem w_tables : (allAtoms (Jvm.Cond.code x code maxLocals ret :: tables_1)).before args0 about1 = true := by
  rw [allAtoms_all]
  show words1.all (fun c => c.before args0 about1) = true
  refine all_split ?_ w_codes
  rw [w_t1]
set_option maxRecDepth 65536 in
theorem w_case : (Jvm.Cond.and given_1 narrow_1).before args0 about1 = true := by decide +kernel
theorem w_applies : (headSpec (Jvm.Cond.code x code maxLocals ret :: tables_1) room_1).applies x e0.platform about1 = true :=
  (Spec.applies_iff w_frames).mpr ⟨w_running, w_runnable, w_alone, w_named, w_hears, w_ripe, w_room, w_tables⟩
theorem atStart : AtStart classFile x code maxLocals ret World_1 tables_1 room_1 Calls_1 rest_1 Pre_1 launch0 p0 e0 about1 theMethod args0 below0 :=
  ⟨lists_1, trivial, launch0.admits_env _ _ _, launch0.least_env, fairChoices_fair.cas, fairChoices_fair.clock, w_frames, w_args, w_heap, w_applies, trivial, trivial, w_case⟩
end start1
theorem witness_1 : WitnessClaimed_1 := ⟨start1.p0, start1.e0, start1.about1, start1.theMethod, start1.args0, start1.below0, start1.atStart⟩
end Jvm.Pilot.@@N@@

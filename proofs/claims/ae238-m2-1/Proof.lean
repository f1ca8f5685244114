import JvmDerived
import JvmDerived.Pilot.@@N@@Statement
import JvmDerived.Pilot.@@N@@Code
set_option linter.unusedVariables false
set_option linter.unusedSimpArgs false
namespace Jvm.RoadKit
open Sem ClassFile Op Lib Jvm.Stand Jvm.Free Jvm.LawKit
section New
variable {p : Program} {l : Launch} {e : Env} {R : Room} {s : State} {m : MethodId} {args : Array Value} {below : List Frame} {meth : Method} {c : Code} {T : State} {locs : List Loc} {cells slots : Nat}
theorem retI (X : Stand p l e R s m args below meth c T locs cells slots) (hx : p.tables.exec = Jvm.exec) {pc : Nat} {Ls : Array Slot} {z : Int32} {rest : List Value} (hret : meth.sig.returnType = some .int) (hd : decode c.code pc = .ok (.ireturn, 1)) {fs : List Frame}
    (hl : ∀ (f : JFrame) (acts : List Action), f.method = m → f.locked = none → f.entered = [] → (doReturn e (T.setTop f) acts (some (.int z))).1 = T.setFrames fs) : Steps p.tables e below (T.setTop (mkF m pc Ls (.int z :: rest))) (T.setFrames fs) := by
  have hm' : T.vm.method? m = some meth := X.method'
  have hn : narrow .int (.int z) = .int z := rfl
  show Steps p.tables e below (T.setTop { method := m, pc := pc, locals := Ls, stack := _ :: rest, locked := none }) _
  jvm_step X.here [X.here.top, hx, hd, hm', hret, hn]
  first | (intro acts; rw [hl _ acts rfl rfl rfl]) | rw [hl _ _ rfl rfl rfl]
  exact Steps.refl _
theorem retJ (X : Stand p l e R s m args below meth c T locs cells slots) (hx : p.tables.exec = Jvm.exec) {pc : Nat} {Ls : Array Slot} {z : Int64} {rest : List Value} (hret : meth.sig.returnType = some .long) (hd : decode c.code pc = .ok (.lreturn, 1)) {fs : List Frame}
    (hl : ∀ (f : JFrame) (acts : List Action), f.method = m → f.locked = none → f.entered = [] → (doReturn e (T.setTop f) acts (some (.long z))).1 = T.setFrames fs) : Steps p.tables e below (T.setTop (mkF m pc Ls (.long z :: rest))) (T.setFrames fs) := by
  have hm' : T.vm.method? m = some meth := X.method'
  have hn : narrow .long (.long z) = .long z := rfl
  show Steps p.tables e below (T.setTop { method := m, pc := pc, locals := Ls, stack := _ :: rest, locked := none }) _
  jvm_step X.here [X.here.top, hx, hd, hm', hret, hn]
  first | (intro acts; rw [hl _ acts rfl rfl rfl]) | rw [hl _ _ rfl rfl rfl]
  exact Steps.refl _
end New
end Jvm.RoadKit
namespace Jvm.Pilot.@@N@@
open Jvm Jvm.ClassFile Sem Op Lib Jvm.Free Jvm.Stand Jvm.LawKit Jvm.RoadKit Bundle Jvm.Pilot.@@N@@.Jvm.D
/-- the run comes from A to B -/
abbrev own_Go (p : Program) (e : Env) (below : List Frame) (A B : State) : Prop := ∀ t, Steps p.tables e below B t → Steps p.tables e below A t
theorem pn_0 : plainName "com/example/dosewire/dosewire/rules/AckCode" = true := by first | (simp [plainName, overriddenIn]; done) | decide +kernel
theorem d1_0 : decode prog_72_method_4_code 0 = .ok (.iload_n 0, 1) := by decide +kernel
theorem d1_1 : decode prog_72_method_4_code 1 = .ok (.ifCond .ne 7, 3) := by decide +kernel
theorem d1_4 : decode prog_72_method_4_code 4 = .ok (.getstatic 10, 3) := by decide +kernel
theorem d1_7 : decode prog_72_method_4_code 7 = .ok (.areturn, 1) := by decide +kernel
theorem d1_8 : decode prog_72_method_4_code 8 = .ok (.iload_n 1, 1) := by decide +kernel
theorem d1_9 : decode prog_72_method_4_code 9 = .ok (.ifCond .eq 9, 3) := by decide +kernel
theorem d1_12 : decode prog_72_method_4_code 12 = .ok (.getstatic 7, 3) := by decide +kernel
theorem d1_15 : decode prog_72_method_4_code 15 = .ok (.goto 6, 3) := by decide +kernel
theorem d1_18 : decode prog_72_method_4_code 18 = .ok (.getstatic 3, 3) := by decide +kernel
theorem d1_21 : decode prog_72_method_4_code 21 = .ok (.areturn, 1) := by decide +kernel
theorem ef_1 (m : MethodId) (p0 : Int32) (p1 : Int32) : entryFrame m #[(.int p0), (.int p1)] 2 = mkF m 0 #[.val (.int p0), .val (.int p1)] [] := by first | (simp [entryFrame, mkF, argsToLocals, Value.category]; done) | rfl
def f1 (p0 : Int32) (p1 : Int32) (wAR : Addr) (wAE : Addr) (wAA : Addr) : Addr := (if p0 = (0 : Int32) then wAR else (if p1 = (0 : Int32) then wAA else wAE))
def Q1 (Z : State) (p0 : Int32) (p1 : Int32) (wAR : Addr) (wAE : Addr) (wAA : Addr) (h0 : Heap) (n0 : Nat) (v : Option Value) (h : Heap) (L : List Loc) : Prop := v = some (.ref (f1 p0 p1 wAR wAE wAA)) ∧ Fr n0 L ∧ h = h0
set_option maxRecDepth 65536 in
set_option maxHeartbeats 40000000 in
theorem rm1 (l : Launch) (Z : State) (a0 : Array Value) (hw : ∀ d ∈ tables_1, d.before a0 Z = true) (ws : List Jvm.Cond) (p0 : Int32) (p1 : Int32) (wAR : Addr) (wAE : Addr) (wAA : Addr) (h0 : Heap) (n0 : Nat) (Z0 : n0 ≤ h0.size) (S_AR : Sta Z h0 "com/example/dosewire/dosewire/rules/AckCode" "AR" "Lcom/example/dosewire/dosewire/rules/AckCode;" (.ref wAR)) (S_AE : Sta Z h0 "com/example/dosewire/dosewire/rules/AckCode" "AE" "Lcom/example/dosewire/dosewire/rules/AckCode;" (.ref wAE)) (S_AA : Sta Z h0 "com/example/dosewire/dosewire/rules/AckCode" "AA" "Lcom/example/dosewire/dosewire/rules/AckCode;" (.ref wAA)) :
    MetFree l (⟨"com/example/dosewire/dosewire/rules/AckCode", "of", "(ZZ)Lcom/example/dosewire/dosewire/rules/AckCode;"⟩ : MethodName) (head1 (Jvm.Cond.code (⟨"com/example/dosewire/dosewire/rules/AckCode", "of", "(ZZ)Lcom/example/dosewire/dosewire/rules/AckCode;"⟩ : MethodName) prog_72_method_4_code 2 (some (.object "com/example/dosewire/dosewire/rules/AckCode")) :: ws) ({ frames := 0, cells := 0, slots := 0, locals := 0 } : Room)) (fun a U => a = #[(.int p0), (.int p1)] ∧ Z.Warmed39 U.vm ∧ U.heap = h0) (fun _ _ _ _ _ => True) (fun _ U o U' => ∃ v L, o = .returned v ∧ Q1 Z p0 p1 wAR wAE wAA h0 n0 v U'.heap L ∧ FrameEnd U o U' L ({ frames := 0, cells := 0, slots := 0, locals := 0 } : Room).cells ({ frames := 0, cells := 0, slots := 0, locals := 0 } : Room).slots) := by
  refine MetFree.of_bodySF (plainFor_of_name pn_0) hisR ?_
  intro p e s m args below meth c s₁ Bd hml0 hP hK
  obtain ⟨rfl, hZ, hh⟩ := hP
  have hx := Bd.exec
  have hby := Bd.bytes
  have hml : c.maxLocals = 2 := hml0
  have hown : s.vm.findClass "com/example/dosewire/dosewire/rules/AckCode" = some m.cls := findClass_of_methodNamed Bd.named
  have hnm := (name_of_methodNamed Bd.named Bd.method).1
  have X0 : Stand p l e ({ frames := 0, cells := 0, slots := 0, locals := 0 } : Room) s m #[(.int p0), (.int p1)] below meth c s₁ [] 0 0 := Stand.of_body Bd
  have e0 : s₁.heap = h0 := by rw [← hh, Bd.state]; rfl
  have N0 := Fr.nil n0
  have pre0 : own_Go p e below (s₁.setTop (entryFrame m #[(.int p0), (.int p1)] 2)) (s₁.setTop (mkF m 0 #[.val (.int p0), .val (.int p1)] [])) := fun t k => castTop (ef_1 m p0 p1) k
  have k1 : own_Go p e below (s₁.setTop (entryFrame m #[(.int p0), (.int p1)] 2)) (s₁.setTop (mkF m 1 #[.val (.int p0), .val (.int p1)] [(.int p0)])) := by
    intro t k
    refine pre0 t ?_
    show Steps p.tables e below (s₁.setTop (mkF m 0 #[.val (.int p0), .val (.int p1)] [])) t
    refine XS.iloadN X0.here hx rfl (hb hby d1_0) rfl ?_
    exact k
  by_cases hc1_2 : p0 = (0 : Int32)
  · have k3 : own_Go p e below (s₁.setTop (entryFrame m #[(.int p0), (.int p1)] 2)) (s₁.setTop (mkF m 4 #[.val (.int p0), .val (.int p1)] [])) := by
      intro t k
      refine k1 t ?_
      show Steps p.tables e below (s₁.setTop (mkF m 1 #[.val (.int p0), .val (.int p1)] [(.int p0)])) t
      refine XS.ifNo X0.here hx rfl (hb hby d1_1) rfl ((if0 _ _).trans (teq hc1_2).2) ?_
      exact k
    obtain ⟨T4, X4, e4, st4⟩ := getS2 X0 hx hZ hown (host := "") (Or.inl (hw _ (List.mem_of_getElem? (i := 4) rfl))) Via.refl e0 S_AR (g := (mkF m 4 #[.val (.int p0), .val (.int p1)] [])) rfl (hb hby d1_4)
    have k5 : own_Go p e below (s₁.setTop (entryFrame m #[(.int p0), (.int p1)] 2)) (T4.setTop (mkF m 7 #[.val (.int p0), .val (.int p1)] [(.ref wAR)])) := fun t k => k3 t (st4 t k)
    obtain ⟨fs, hr, hrun, hended, hW, hsame⟩ := X4.leave (v := some (.ref wAR)) (fun h => by rw [Bd.returns] at h; cases h)
    refine ⟨_, _, k5 _ ?_, hrun, hended, _, _, rfl, ?_, ⟨_, rfl⟩, hW, hsame.mono (by decide) (by decide)⟩
    · jvm_step X4.here [X4.here.top, hx, (hb hby d1_7), X4.method', Bd.returns, Value.isRef, FieldType.isReference]
      first | (intro acts; rw [hr _ acts rfl rfl rfl]) | rw [hr _ _ rfl rfl rfl]
      exact Steps.refl _
    · show Q1 Z p0 p1 wAR wAE wAA h0 n0 _ T4.heap _
      rw [e4]
      exact ⟨congrArg (fun z => some (Value.ref z)) (show f1 p0 p1 wAR wAE wAA = wAR from (by unfold f1; rw [if_pos hc1_2])).symm, N0, rfl⟩
  · have k6 : own_Go p e below (s₁.setTop (entryFrame m #[(.int p0), (.int p1)] 2)) (s₁.setTop (mkF m 9 #[.val (.int p0), .val (.int p1)] [(.int p1)])) := by
      intro t k
      refine k1 t ?_
      show Steps p.tables e below (s₁.setTop (mkF m 1 #[.val (.int p0), .val (.int p1)] [(.int p0)])) t
      refine XS.ifYes X0.here hx rfl (pc0 := 1) (pc' := 8) rfl (hb hby d1_1) rfl ((if0 _ _).trans (feq hc1_2).2) (by decide) (by decide) ?_
      show Steps p.tables e below (s₁.setTop (mkF m 8 #[.val (.int p0), .val (.int p1)] [])) t
      refine XS.iloadN X0.here hx rfl (hb hby d1_8) rfl ?_
      exact k
    by_cases hc9_7 : p1 = (0 : Int32)
    · have k8 : own_Go p e below (s₁.setTop (entryFrame m #[(.int p0), (.int p1)] 2)) (s₁.setTop (mkF m 18 #[.val (.int p0), .val (.int p1)] [])) := by
        intro t k
        refine k6 t ?_
        show Steps p.tables e below (s₁.setTop (mkF m 9 #[.val (.int p0), .val (.int p1)] [(.int p1)])) t
        refine XS.ifYes X0.here hx rfl (pc0 := 9) (pc' := 18) rfl (hb hby d1_9) rfl ((if0 _ _).trans (teq hc9_7).1) (by decide) (by decide) ?_
        exact k
      obtain ⟨T9, X9, e9, st9⟩ := getS2 X0 hx hZ hown (host := "") (Or.inl (hw _ (List.mem_of_getElem? (i := 12) rfl))) Via.refl e0 S_AA (g := (mkF m 18 #[.val (.int p0), .val (.int p1)] [])) rfl (hb hby d1_18)
      have k10 : own_Go p e below (s₁.setTop (entryFrame m #[(.int p0), (.int p1)] 2)) (T9.setTop (mkF m 21 #[.val (.int p0), .val (.int p1)] [(.ref wAA)])) := fun t k => k8 t (st9 t k)
      obtain ⟨fs, hr, hrun, hended, hW, hsame⟩ := X9.leave (v := some (.ref wAA)) (fun h => by rw [Bd.returns] at h; cases h)
      refine ⟨_, _, k10 _ ?_, hrun, hended, _, _, rfl, ?_, ⟨_, rfl⟩, hW, hsame.mono (by decide) (by decide)⟩
      · jvm_step X9.here [X9.here.top, hx, (hb hby d1_21), X9.method', Bd.returns, Value.isRef, FieldType.isReference]
        first | (intro acts; rw [hr _ acts rfl rfl rfl]) | rw [hr _ _ rfl rfl rfl]
        exact Steps.refl _
      · show Q1 Z p0 p1 wAR wAE wAA h0 n0 _ T9.heap _
        rw [e9]
        exact ⟨congrArg (fun z => some (Value.ref z)) (show f1 p0 p1 wAR wAE wAA = wAA from (by unfold f1; rw [if_neg hc1_2, if_pos hc9_7])).symm, N0, rfl⟩
    · have k11 : own_Go p e below (s₁.setTop (entryFrame m #[(.int p0), (.int p1)] 2)) (s₁.setTop (mkF m 12 #[.val (.int p0), .val (.int p1)] [])) := by
        intro t k
        refine k6 t ?_
        show Steps p.tables e below (s₁.setTop (mkF m 9 #[.val (.int p0), .val (.int p1)] [(.int p1)])) t
        refine XS.ifNo X0.here hx rfl (hb hby d1_9) rfl ((if0 _ _).trans (feq hc9_7).1) ?_
        exact k
      obtain ⟨T12, X12, e12, st12⟩ := getS2 X0 hx hZ hown (host := "") (Or.inl (hw _ (List.mem_of_getElem? (i := 11) rfl))) Via.refl e0 S_AE (g := (mkF m 12 #[.val (.int p0), .val (.int p1)] [])) rfl (hb hby d1_12)
      have k13 : own_Go p e below (s₁.setTop (entryFrame m #[(.int p0), (.int p1)] 2)) (T12.setTop (mkF m 15 #[.val (.int p0), .val (.int p1)] [(.ref wAE)])) := fun t k => k11 t (st12 t k)
      have k14 : own_Go p e below (s₁.setTop (entryFrame m #[(.int p0), (.int p1)] 2)) (T12.setTop (mkF m 21 #[.val (.int p0), .val (.int p1)] [(.ref wAE)])) := by
        intro t k
        refine k13 t ?_
        show Steps p.tables e below (T12.setTop (mkF m 15 #[.val (.int p0), .val (.int p1)] [(.ref wAE)])) t
        refine XS.goto X12.here hx rfl (pc0 := 15) (pc' := 21) rfl (hb hby d1_15) (by decide) (by decide) ?_
        exact k
      obtain ⟨fs, hr, hrun, hended, hW, hsame⟩ := X12.leave (v := some (.ref wAE)) (fun h => by rw [Bd.returns] at h; cases h)
      refine ⟨_, _, k14 _ ?_, hrun, hended, _, _, rfl, ?_, ⟨_, rfl⟩, hW, hsame.mono (by decide) (by decide)⟩
      · jvm_step X12.here [X12.here.top, hx, (hb hby d1_21), X12.method', Bd.returns, Value.isRef, FieldType.isReference]
        first | (intro acts; rw [hr _ acts rfl rfl rfl]) | rw [hr _ _ rfl rfl rfl]
        exact Steps.refl _
      · show Q1 Z p0 p1 wAR wAE wAA h0 n0 _ T12.heap _
        rw [e12]
        exact ⟨congrArg (fun z => some (Value.ref z)) (show f1 p0 p1 wAR wAE wAA = wAE from (by unfold f1; rw [if_neg hc1_2, if_neg hc9_7])).symm, N0, rfl⟩
theorem pn_1 : plainName "com/example/dosewire/dosewire/rules/AckCodeOfPinLaw" = true := by first | (simp [plainName, overriddenIn]; done) | decide +kernel
theorem pd_0 : parseMethodDescriptor "(ZZ)Lcom/example/dosewire/dosewire/rules/AckCode;" = some ⟨[.boolean, .boolean], some (.object "com/example/dosewire/dosewire/rules/AckCode")⟩ := by decide +kernel
theorem ef_0 (m : MethodId) (p0 : Int32) (p1 : Int32) : entryFrame m #[(.int p0), (.int p1)] maxLocals = mkF m 0 #[.val (.int p0), .val (.int p1), .unset, .unset, .unset, .unset, .unset, .unset, .unset, .unset, .unset] [] := by first | (simp [entryFrame, mkF, argsToLocals, Value.category, maxLocals]; done) | rfl
def f0 (p0 : Int32) (p1 : Int32) : Int32 := (if (p0 &&& (1 : Int32)) = (0 : Int32) then (if (p1 &&& (1 : Int32)) = (0 : Int32) then (1 : Int32) else (1 : Int32)) else (if (p1 &&& (1 : Int32)) = (0 : Int32) then (1 : Int32) else (1 : Int32)))
def Q0 (Z : State) (p0 : Int32) (p1 : Int32) (wAR : Addr) (wAE : Addr) (wAA : Addr) (h0 : Heap) (n0 : Nat) (v : Option Value) (h : Heap) (L : List Loc) : Prop := v = some (.int (f0 p0 p1)) ∧ Fr n0 L
set_option maxRecDepth 65536 in
set_option maxHeartbeats 40000000 in
theorem rm0 (l : Launch) (Z : State) (a0 : Array Value) (hw : ∀ d ∈ tables_1, d.before a0 Z = true) (ws : List Jvm.Cond) (p0 : Int32) (p1 : Int32) (wAR : Addr) (wAE : Addr) (wAA : Addr) (h0 : Heap) (n0 : Nat) (Z0 : n0 ≤ h0.size) (S_AR : Sta Z h0 "com/example/dosewire/dosewire/rules/AckCode" "AR" "Lcom/example/dosewire/dosewire/rules/AckCode;" (.ref wAR)) (S_AE : Sta Z h0 "com/example/dosewire/dosewire/rules/AckCode" "AE" "Lcom/example/dosewire/dosewire/rules/AckCode;" (.ref wAE)) (S_AA : Sta Z h0 "com/example/dosewire/dosewire/rules/AckCode" "AA" "Lcom/example/dosewire/dosewire/rules/AckCode;" (.ref wAA)) (nARAE : wAR ≠ wAE) (nARAA : wAR ≠ wAA) (nAEAR : wAE ≠ wAR) (nAEAA : wAE ≠ wAA) (nAAAR : wAA ≠ wAR) (nAAAE : wAA ≠ wAE) :
    MetFree l x (head1 (Jvm.Cond.code x code maxLocals ret :: ws) room_1) (fun a U => a = #[(.int p0), (.int p1)] ∧ Z.Warmed39 U.vm ∧ U.heap = h0) (fun _ _ _ _ _ => True) (fun _ U o U' => ∃ v L, o = .returned v ∧ Q0 Z p0 p1 wAR wAE wAA h0 n0 v U'.heap L ∧ FrameEnd U o U' L room_1.cells room_1.slots) := by
  refine MetFree.of_bodySF (plainFor_of_name pn_1) hisR ?_
  intro p e s m args below meth c s₁ Bd hml0 hP hK
  obtain ⟨rfl, hZ, hh⟩ := hP
  have hx := Bd.exec
  have hby := Bd.bytes
  have hml : c.maxLocals = 11 := hml0
  have hown : s.vm.findClass "com/example/dosewire/dosewire/rules/AckCodeOfPinLaw" = some m.cls := findClass_of_methodNamed Bd.named
  have hnm := (name_of_methodNamed Bd.named Bd.method).1
  have X0 : Stand p l e room_1 s m #[(.int p0), (.int p1)] below meth c s₁ [] 0 0 := Stand.of_body Bd
  have e0 : s₁.heap = h0 := by rw [← hh, Bd.state]; rfl
  have N0 := Fr.nil n0
  have pre0 : own_Go p e below (s₁.setTop (entryFrame m #[(.int p0), (.int p1)] maxLocals)) (s₁.setTop (mkF m 0 #[.val (.int p0), .val (.int p1), .unset, .unset, .unset, .unset, .unset, .unset, .unset, .unset, .unset] [])) := fun t k => castTop (ef_0 m p0 p1) k
  have k1 : own_Go p e below (s₁.setTop (entryFrame m #[(.int p0), (.int p1)] maxLocals)) (s₁.setTop (mkF m 3 #[.val (.int p0), .val (.int p1), .unset, .unset, .unset, .unset, .unset, .unset, .unset, .unset, .unset] [(.int (p0 &&& (1 : Int32)))])) := by
    intro t k
    refine pre0 t ?_
    show Steps p.tables e below (s₁.setTop (mkF m 0 #[.val (.int p0), .val (.int p1), .unset, .unset, .unset, .unset, .unset, .unset, .unset, .unset, .unset] [])) t
    refine XS.iloadN X0.here hx rfl (hb hby at_0) rfl ?_
    show Steps p.tables e below (s₁.setTop (mkF m 1 #[.val (.int p0), .val (.int p1), .unset, .unset, .unset, .unset, .unset, .unset, .unset, .unset, .unset] [(.int p0)])) t
    refine XS.iconst X0.here hx rfl (hb hby at_1) ?_
    show Steps p.tables e below (s₁.setTop (mkF m 2 #[.val (.int p0), .val (.int p1), .unset, .unset, .unset, .unset, .unset, .unset, .unset, .unset, .unset] [(.int (1 : Int32)), (.int p0)])) t
    refine XS.iand X0.here hx rfl (hb hby at_2) rfl ?_
    exact k
  by_cases hc3_2 : (p0 &&& (1 : Int32)) = (0 : Int32)
  · have k3 : own_Go p e below (s₁.setTop (entryFrame m #[(.int p0), (.int p1)] maxLocals)) (s₁.setTop (mkF m 15 #[.val (.int p0), .val (.int p1), .val (.int (0 : Int32)), .unset, .unset, .unset, .unset, .unset, .unset, .unset, .unset] [(.int (p1 &&& (1 : Int32)))])) := by
      intro t k
      refine k1 t ?_
      show Steps p.tables e below (s₁.setTop (mkF m 3 #[.val (.int p0), .val (.int p1), .unset, .unset, .unset, .unset, .unset, .unset, .unset, .unset, .unset] [(.int (p0 &&& (1 : Int32)))])) t
      refine XS.ifYes X0.here hx rfl (pc0 := 3) (pc' := 10) rfl (hb hby at_3) rfl ((if0 _ _).trans (teq hc3_2).1) (by decide) (by decide) ?_
      show Steps p.tables e below (s₁.setTop (mkF m 10 #[.val (.int p0), .val (.int p1), .unset, .unset, .unset, .unset, .unset, .unset, .unset, .unset, .unset] [])) t
      refine XS.iconst X0.here hx rfl (hb hby at_10) ?_
      show Steps p.tables e below (s₁.setTop (mkF m 11 #[.val (.int p0), .val (.int p1), .unset, .unset, .unset, .unset, .unset, .unset, .unset, .unset, .unset] [(.int (0 : Int32))])) t
      refine XS.istoreN X0.here hx rfl (hb hby at_11) rfl (l' := #[.val (.int p0), .val (.int p1), .val (.int (0 : Int32)), .unset, .unset, .unset, .unset, .unset, .unset, .unset, .unset]) rfl ?_
      show Steps p.tables e below (s₁.setTop (mkF m 12 #[.val (.int p0), .val (.int p1), .val (.int (0 : Int32)), .unset, .unset, .unset, .unset, .unset, .unset, .unset, .unset] [])) t
      refine XS.iloadN X0.here hx rfl (hb hby at_12) rfl ?_
      show Steps p.tables e below (s₁.setTop (mkF m 13 #[.val (.int p0), .val (.int p1), .val (.int (0 : Int32)), .unset, .unset, .unset, .unset, .unset, .unset, .unset, .unset] [(.int p1)])) t
      refine XS.iconst X0.here hx rfl (hb hby at_13) ?_
      show Steps p.tables e below (s₁.setTop (mkF m 14 #[.val (.int p0), .val (.int p1), .val (.int (0 : Int32)), .unset, .unset, .unset, .unset, .unset, .unset, .unset, .unset] [(.int (1 : Int32)), (.int p1)])) t
      refine XS.iand X0.here hx rfl (hb hby at_14) rfl ?_
      exact k
    by_cases hc15_4 : (p1 &&& (1 : Int32)) = (0 : Int32)
    · have k5 : own_Go p e below (s₁.setTop (entryFrame m #[(.int p0), (.int p1)] maxLocals)) (s₁.setTop (mkF m 26 #[.val (.int p0), .val (.int p1), .val (.int (0 : Int32)), .val (.int (0 : Int32)), .unset, .unset, .unset, .unset, .unset, .unset, .unset] [(.int (0 : Int32)), (.int (0 : Int32))])) := by
        intro t k
        refine k3 t ?_
        show Steps p.tables e below (s₁.setTop (mkF m 15 #[.val (.int p0), .val (.int p1), .val (.int (0 : Int32)), .unset, .unset, .unset, .unset, .unset, .unset, .unset, .unset] [(.int (p1 &&& (1 : Int32)))])) t
        refine XS.ifYes X0.here hx rfl (pc0 := 15) (pc' := 22) rfl (hb hby at_15) rfl ((if0 _ _).trans (teq hc15_4).1) (by decide) (by decide) ?_
        show Steps p.tables e below (s₁.setTop (mkF m 22 #[.val (.int p0), .val (.int p1), .val (.int (0 : Int32)), .unset, .unset, .unset, .unset, .unset, .unset, .unset, .unset] [])) t
        refine XS.iconst X0.here hx rfl (hb hby at_22) ?_
        show Steps p.tables e below (s₁.setTop (mkF m 23 #[.val (.int p0), .val (.int p1), .val (.int (0 : Int32)), .unset, .unset, .unset, .unset, .unset, .unset, .unset, .unset] [(.int (0 : Int32))])) t
        refine XS.istoreN X0.here hx rfl (hb hby at_23) rfl (l' := #[.val (.int p0), .val (.int p1), .val (.int (0 : Int32)), .val (.int (0 : Int32)), .unset, .unset, .unset, .unset, .unset, .unset, .unset]) rfl ?_
        show Steps p.tables e below (s₁.setTop (mkF m 24 #[.val (.int p0), .val (.int p1), .val (.int (0 : Int32)), .val (.int (0 : Int32)), .unset, .unset, .unset, .unset, .unset, .unset, .unset] [])) t
        refine XS.iloadN X0.here hx rfl (hb hby at_24) rfl ?_
        show Steps p.tables e below (s₁.setTop (mkF m 25 #[.val (.int p0), .val (.int p1), .val (.int (0 : Int32)), .val (.int (0 : Int32)), .unset, .unset, .unset, .unset, .unset, .unset, .unset] [(.int (0 : Int32))])) t
        refine XS.iloadN X0.here hx rfl (hb hby at_25) rfl ?_
        exact k
      obtain ⟨_, _, ⟨T6, L6, kk6, n6⟩, -, X6, ⟨Lc6, hQ6, l6, y6, z6⟩, st6⟩ := Jvm.LawKit.callS X0 hx (y := (⟨"com/example/dosewire/dosewire/rules/AckCode", "of", "(ZZ)Lcom/example/dosewire/dosewire/rules/AckCode;"⟩ : MethodName)) hown (mvT hZ (hw _ (List.mem_of_getElem? (i := 0) rfl))) (mvT hZ (hw _ (List.mem_of_getElem? (i := 1) rfl))) (mvT hZ (hw _ (List.mem_of_getElem? (i := 2) rfl))) (mvT hZ (hw _ (List.mem_of_getElem? (i := 3) rfl))) (by decide) (backOf (W := 0) (rm1 l Z a0 hw [] (0 : Int32) (0 : Int32) wAR wAE wAA h0 n0 Z0 S_AR S_AE S_AA) hZ (hw _ (List.mem_of_getElem? (i := 3) rfl)) (hw _ (List.mem_of_getElem? (i := 2) rfl)) (by decide) (by decide)) (g := (mkF m 26 #[.val (.int p0), .val (.int p1), .val (.int (0 : Int32)), .val (.int (0 : Int32)), .unset, .unset, .unset, .unset, .unset, .unset, .unset] [(.int (0 : Int32)), (.int (0 : Int32))])) rfl (by rw [hml]; rfl) (argsL := [(.int (0 : Int32)), (.int (0 : Int32))]) (rest := []) (lenOf pd_0 rfl) rfl (by show 2 * 0 + _ ≤ _; exact Nat.le_of_eq rfl) (hb hby at_26) (fun _ _ => ⟨rfl, e0, (by decide : 0 + 0 ≤ _), (by decide : 0 + 0 ≤ _)⟩)
      dsimp only [Pt.U, Pt.locs, Pt.cells, Pt.slots] at X6 l6 y6 z6 st6 hQ6
      subst l6 y6 z6
      obtain ⟨rfl, N6q, eh6⟩ := hQ6
      have N6 := Fr.app N0 N6q
      rw [show f1 (0 : Int32) (0 : Int32) wAR wAE wAA = wAR from (by unfold f1; rw [if_pos (rfl)])] at st6
      have k7 : own_Go p e below (s₁.setTop (entryFrame m #[(.int p0), (.int p1)] maxLocals)) (T6.setTop (mkF m 29 #[.val (.int p0), .val (.int p1), .val (.int (0 : Int32)), .val (.int (0 : Int32)), .unset, .unset, .unset, .unset, .unset, .unset, .unset] [(.ref wAR)])) := fun t k => k5 t (st6 t k)
      have k8 : own_Go p e below (s₁.setTop (entryFrame m #[(.int p0), (.int p1)] maxLocals)) (T6.setTop (mkF m 33 #[.val (.int p0), .val (.int p1), .val (.int (0 : Int32)), .val (.int (0 : Int32)), .val (.ref wAR), .unset, .unset, .unset, .unset, .unset, .unset] [(.ref wAR)])) := by
        intro t k
        refine k7 t ?_
        show Steps p.tables e below (T6.setTop (mkF m 29 #[.val (.int p0), .val (.int p1), .val (.int (0 : Int32)), .val (.int (0 : Int32)), .unset, .unset, .unset, .unset, .unset, .unset, .unset] [(.ref wAR)])) t
        refine XS.astore X6.here hx rfl (hb hby at_29) rfl rfl (l' := #[.val (.int p0), .val (.int p1), .val (.int (0 : Int32)), .val (.int (0 : Int32)), .val (.ref wAR), .unset, .unset, .unset, .unset, .unset, .unset]) rfl ?_
        show Steps p.tables e below (T6.setTop (mkF m 31 #[.val (.int p0), .val (.int p1), .val (.int (0 : Int32)), .val (.int (0 : Int32)), .val (.ref wAR), .unset, .unset, .unset, .unset, .unset, .unset] [])) t
        refine XS.aload X6.here hx rfl (hb hby at_31) rfl rfl ?_
        exact k
      obtain ⟨T9, X9, e9, st9⟩ := getS2 X6 hx hZ hown (host := "") (Or.inl (hw _ (List.mem_of_getElem? (i := 6) rfl))) Via.refl eh6 S_AR (g := (mkF m 33 #[.val (.int p0), .val (.int p1), .val (.int (0 : Int32)), .val (.int (0 : Int32)), .val (.ref wAR), .unset, .unset, .unset, .unset, .unset, .unset] [(.ref wAR)])) rfl (hb hby at_33)
      have k10 : own_Go p e below (s₁.setTop (entryFrame m #[(.int p0), (.int p1)] maxLocals)) (T9.setTop (mkF m 36 #[.val (.int p0), .val (.int p1), .val (.int (0 : Int32)), .val (.int (0 : Int32)), .val (.ref wAR), .unset, .unset, .unset, .unset, .unset, .unset] [(.ref wAR), (.ref wAR)])) := fun t k => k8 t (st9 t k)
      have k11 : own_Go p e below (s₁.setTop (entryFrame m #[(.int p0), (.int p1)] maxLocals)) (T9.setTop (mkF m 48 #[.val (.int p0), .val (.int p1), .val (.int (0 : Int32)), .val (.int (0 : Int32)), .val (.ref wAR), .val (.int (1 : Int32)), .unset, .unset, .unset, .unset, .unset] [(.ref wAR)])) := by
        intro t k
        refine k10 t ?_
        show Steps p.tables e below (T9.setTop (mkF m 36 #[.val (.int p0), .val (.int p1), .val (.int (0 : Int32)), .val (.int (0 : Int32)), .val (.ref wAR), .unset, .unset, .unset, .unset, .unset, .unset] [(.ref wAR), (.ref wAR)])) t
        refine Jvm.RoadKit.acmp (g := (mkF m 36 #[.val (.int p0), .val (.int p1), .val (.int (0 : Int32)), .val (.int (0 : Int32)), .val (.ref wAR), .unset, .unset, .unset, .unset, .unset, .unset] [(.ref wAR), (.ref wAR)])) X9 hx rfl rfl rfl (pc0 := 36) (pc' := 39) (same := true) rfl (hb hby at_36) rfl (decide_eq_true rfl) (by decide) (by decide) ?_
        show Steps p.tables e below (T9.setTop (mkF m 39 #[.val (.int p0), .val (.int p1), .val (.int (0 : Int32)), .val (.int (0 : Int32)), .val (.ref wAR), .unset, .unset, .unset, .unset, .unset, .unset] [])) t
        refine XS.iconst X9.here hx rfl (hb hby at_39) ?_
        show Steps p.tables e below (T9.setTop (mkF m 40 #[.val (.int p0), .val (.int p1), .val (.int (0 : Int32)), .val (.int (0 : Int32)), .val (.ref wAR), .unset, .unset, .unset, .unset, .unset, .unset] [(.int (1 : Int32))])) t
        refine XS.goto X9.here hx rfl (pc0 := 40) (pc' := 44) rfl (hb hby at_40) (by decide) (by decide) ?_
        show Steps p.tables e below (T9.setTop (mkF m 44 #[.val (.int p0), .val (.int p1), .val (.int (0 : Int32)), .val (.int (0 : Int32)), .val (.ref wAR), .unset, .unset, .unset, .unset, .unset, .unset] [(.int (1 : Int32))])) t
        refine XS.istore X9.here hx rfl (hb hby at_44) rfl (l' := #[.val (.int p0), .val (.int p1), .val (.int (0 : Int32)), .val (.int (0 : Int32)), .val (.ref wAR), .val (.int (1 : Int32)), .unset, .unset, .unset, .unset, .unset]) rfl ?_
        show Steps p.tables e below (T9.setTop (mkF m 46 #[.val (.int p0), .val (.int p1), .val (.int (0 : Int32)), .val (.int (0 : Int32)), .val (.ref wAR), .val (.int (1 : Int32)), .unset, .unset, .unset, .unset, .unset] [])) t
        refine XS.aload X9.here hx rfl (hb hby at_46) rfl rfl ?_
        exact k
      obtain ⟨T12, X12, e12, st12⟩ := getS2 X9 hx hZ hown (host := "") (Or.inl (hw _ (List.mem_of_getElem? (i := 7) rfl))) Via.refl e9 S_AE (g := (mkF m 48 #[.val (.int p0), .val (.int p1), .val (.int (0 : Int32)), .val (.int (0 : Int32)), .val (.ref wAR), .val (.int (1 : Int32)), .unset, .unset, .unset, .unset, .unset] [(.ref wAR)])) rfl (hb hby at_48)
      have k13 : own_Go p e below (s₁.setTop (entryFrame m #[(.int p0), (.int p1)] maxLocals)) (T12.setTop (mkF m 51 #[.val (.int p0), .val (.int p1), .val (.int (0 : Int32)), .val (.int (0 : Int32)), .val (.ref wAR), .val (.int (1 : Int32)), .unset, .unset, .unset, .unset, .unset] [(.ref wAE), (.ref wAR)])) := fun t k => k11 t (st12 t k)
      have k14 : own_Go p e below (s₁.setTop (entryFrame m #[(.int p0), (.int p1)] maxLocals)) (T12.setTop (mkF m 63 #[.val (.int p0), .val (.int p1), .val (.int (0 : Int32)), .val (.int (0 : Int32)), .val (.ref wAR), .val (.int (1 : Int32)), .val (.int (0 : Int32)), .unset, .unset, .unset, .unset] [(.ref wAR)])) := by
        intro t k
        refine k13 t ?_
        show Steps p.tables e below (T12.setTop (mkF m 51 #[.val (.int p0), .val (.int p1), .val (.int (0 : Int32)), .val (.int (0 : Int32)), .val (.ref wAR), .val (.int (1 : Int32)), .unset, .unset, .unset, .unset, .unset] [(.ref wAE), (.ref wAR)])) t
        refine Jvm.RoadKit.acmp (g := (mkF m 51 #[.val (.int p0), .val (.int p1), .val (.int (0 : Int32)), .val (.int (0 : Int32)), .val (.ref wAR), .val (.int (1 : Int32)), .unset, .unset, .unset, .unset, .unset] [(.ref wAE), (.ref wAR)])) X12 hx rfl rfl rfl (pc0 := 51) (pc' := 58) (same := false) rfl (hb hby at_51) rfl (decide_eq_false fun q => nARAE (Value.ref.inj q)) (by decide) (by decide) ?_
        show Steps p.tables e below (T12.setTop (mkF m 58 #[.val (.int p0), .val (.int p1), .val (.int (0 : Int32)), .val (.int (0 : Int32)), .val (.ref wAR), .val (.int (1 : Int32)), .unset, .unset, .unset, .unset, .unset] [])) t
        refine XS.iconst X12.here hx rfl (hb hby at_58) ?_
        show Steps p.tables e below (T12.setTop (mkF m 59 #[.val (.int p0), .val (.int p1), .val (.int (0 : Int32)), .val (.int (0 : Int32)), .val (.ref wAR), .val (.int (1 : Int32)), .unset, .unset, .unset, .unset, .unset] [(.int (0 : Int32))])) t
        refine XS.istore X12.here hx rfl (hb hby at_59) rfl (l' := #[.val (.int p0), .val (.int p1), .val (.int (0 : Int32)), .val (.int (0 : Int32)), .val (.ref wAR), .val (.int (1 : Int32)), .val (.int (0 : Int32)), .unset, .unset, .unset, .unset]) rfl ?_
        show Steps p.tables e below (T12.setTop (mkF m 61 #[.val (.int p0), .val (.int p1), .val (.int (0 : Int32)), .val (.int (0 : Int32)), .val (.ref wAR), .val (.int (1 : Int32)), .val (.int (0 : Int32)), .unset, .unset, .unset, .unset] [])) t
        refine XS.aload X12.here hx rfl (hb hby at_61) rfl rfl ?_
        exact k
      obtain ⟨T15, X15, e15, st15⟩ := getS2 X12 hx hZ hown (host := "") (Or.inl (hw _ (List.mem_of_getElem? (i := 9) rfl))) Via.refl e12 S_AA (g := (mkF m 63 #[.val (.int p0), .val (.int p1), .val (.int (0 : Int32)), .val (.int (0 : Int32)), .val (.ref wAR), .val (.int (1 : Int32)), .val (.int (0 : Int32)), .unset, .unset, .unset, .unset] [(.ref wAR)])) rfl (hb hby at_63)
      have k16 : own_Go p e below (s₁.setTop (entryFrame m #[(.int p0), (.int p1)] maxLocals)) (T15.setTop (mkF m 66 #[.val (.int p0), .val (.int p1), .val (.int (0 : Int32)), .val (.int (0 : Int32)), .val (.ref wAR), .val (.int (1 : Int32)), .val (.int (0 : Int32)), .unset, .unset, .unset, .unset] [(.ref wAA), (.ref wAR)])) := fun t k => k14 t (st15 t k)
      have k17 : own_Go p e below (s₁.setTop (entryFrame m #[(.int p0), (.int p1)] maxLocals)) (T15.setTop (mkF m 143 #[.val (.int p0), .val (.int p1), .val (.int (0 : Int32)), .val (.int (0 : Int32)), .val (.ref wAR), .val (.int (1 : Int32)), .val (.int (0 : Int32)), .val (.int (0 : Int32)), .val (.int (1 : Int32)), .val (.int (0 : Int32)), .val (.int (0 : Int32))] [(.int (1 : Int32))])) := by
        intro t k
        refine k16 t ?_
        show Steps p.tables e below (T15.setTop (mkF m 66 #[.val (.int p0), .val (.int p1), .val (.int (0 : Int32)), .val (.int (0 : Int32)), .val (.ref wAR), .val (.int (1 : Int32)), .val (.int (0 : Int32)), .unset, .unset, .unset, .unset] [(.ref wAA), (.ref wAR)])) t
        refine Jvm.RoadKit.acmp (g := (mkF m 66 #[.val (.int p0), .val (.int p1), .val (.int (0 : Int32)), .val (.int (0 : Int32)), .val (.ref wAR), .val (.int (1 : Int32)), .val (.int (0 : Int32)), .unset, .unset, .unset, .unset] [(.ref wAA), (.ref wAR)])) X15 hx rfl rfl rfl (pc0 := 66) (pc' := 73) (same := false) rfl (hb hby at_66) rfl (decide_eq_false fun q => nARAA (Value.ref.inj q)) (by decide) (by decide) ?_
        show Steps p.tables e below (T15.setTop (mkF m 73 #[.val (.int p0), .val (.int p1), .val (.int (0 : Int32)), .val (.int (0 : Int32)), .val (.ref wAR), .val (.int (1 : Int32)), .val (.int (0 : Int32)), .unset, .unset, .unset, .unset] [])) t
        refine XS.iconst X15.here hx rfl (hb hby at_73) ?_
        show Steps p.tables e below (T15.setTop (mkF m 74 #[.val (.int p0), .val (.int p1), .val (.int (0 : Int32)), .val (.int (0 : Int32)), .val (.ref wAR), .val (.int (1 : Int32)), .val (.int (0 : Int32)), .unset, .unset, .unset, .unset] [(.int (0 : Int32))])) t
        refine XS.istore X15.here hx rfl (hb hby at_74) rfl (l' := #[.val (.int p0), .val (.int p1), .val (.int (0 : Int32)), .val (.int (0 : Int32)), .val (.ref wAR), .val (.int (1 : Int32)), .val (.int (0 : Int32)), .val (.int (0 : Int32)), .unset, .unset, .unset]) rfl ?_
        show Steps p.tables e below (T15.setTop (mkF m 76 #[.val (.int p0), .val (.int p1), .val (.int (0 : Int32)), .val (.int (0 : Int32)), .val (.ref wAR), .val (.int (1 : Int32)), .val (.int (0 : Int32)), .val (.int (0 : Int32)), .unset, .unset, .unset] [])) t
        refine XS.iloadN X15.here hx rfl (hb hby at_76) rfl ?_
        show Steps p.tables e below (T15.setTop (mkF m 77 #[.val (.int p0), .val (.int p1), .val (.int (0 : Int32)), .val (.int (0 : Int32)), .val (.ref wAR), .val (.int (1 : Int32)), .val (.int (0 : Int32)), .val (.int (0 : Int32)), .unset, .unset, .unset] [(.int (0 : Int32))])) t
        refine XS.ifNo X15.here hx rfl (hb hby at_77) rfl ((if0 _ _).trans (teq (by decide : (0 : Int32) = (0 : Int32))).2) ?_
        show Steps p.tables e below (T15.setTop (mkF m 80 #[.val (.int p0), .val (.int p1), .val (.int (0 : Int32)), .val (.int (0 : Int32)), .val (.ref wAR), .val (.int (1 : Int32)), .val (.int (0 : Int32)), .val (.int (0 : Int32)), .unset, .unset, .unset] [])) t
        refine XS.iconst X15.here hx rfl (hb hby at_80) ?_
        show Steps p.tables e below (T15.setTop (mkF m 81 #[.val (.int p0), .val (.int p1), .val (.int (0 : Int32)), .val (.int (0 : Int32)), .val (.ref wAR), .val (.int (1 : Int32)), .val (.int (0 : Int32)), .val (.int (0 : Int32)), .unset, .unset, .unset] [(.int (1 : Int32))])) t
        refine XS.goto X15.here hx rfl (pc0 := 81) (pc' := 85) rfl (hb hby at_81) (by decide) (by decide) ?_
        show Steps p.tables e below (T15.setTop (mkF m 85 #[.val (.int p0), .val (.int p1), .val (.int (0 : Int32)), .val (.int (0 : Int32)), .val (.ref wAR), .val (.int (1 : Int32)), .val (.int (0 : Int32)), .val (.int (0 : Int32)), .unset, .unset, .unset] [(.int (1 : Int32))])) t
        refine XS.istore X15.here hx rfl (hb hby at_85) rfl (l' := #[.val (.int p0), .val (.int p1), .val (.int (0 : Int32)), .val (.int (0 : Int32)), .val (.ref wAR), .val (.int (1 : Int32)), .val (.int (0 : Int32)), .val (.int (0 : Int32)), .val (.int (1 : Int32)), .unset, .unset]) rfl ?_
        show Steps p.tables e below (T15.setTop (mkF m 87 #[.val (.int p0), .val (.int p1), .val (.int (0 : Int32)), .val (.int (0 : Int32)), .val (.ref wAR), .val (.int (1 : Int32)), .val (.int (0 : Int32)), .val (.int (0 : Int32)), .val (.int (1 : Int32)), .unset, .unset] [])) t
        refine XS.iloadN X15.here hx rfl (hb hby at_87) rfl ?_
        show Steps p.tables e below (T15.setTop (mkF m 88 #[.val (.int p0), .val (.int p1), .val (.int (0 : Int32)), .val (.int (0 : Int32)), .val (.ref wAR), .val (.int (1 : Int32)), .val (.int (0 : Int32)), .val (.int (0 : Int32)), .val (.int (1 : Int32)), .unset, .unset] [(.int (0 : Int32))])) t
        refine XS.ifYes X15.here hx rfl (pc0 := 88) (pc' := 99) rfl (hb hby at_88) rfl ((if0 _ _).trans (teq (by decide : (0 : Int32) = (0 : Int32))).1) (by decide) (by decide) ?_
        show Steps p.tables e below (T15.setTop (mkF m 99 #[.val (.int p0), .val (.int p1), .val (.int (0 : Int32)), .val (.int (0 : Int32)), .val (.ref wAR), .val (.int (1 : Int32)), .val (.int (0 : Int32)), .val (.int (0 : Int32)), .val (.int (1 : Int32)), .unset, .unset] [])) t
        refine XS.iconst X15.here hx rfl (hb hby at_99) ?_
        show Steps p.tables e below (T15.setTop (mkF m 100 #[.val (.int p0), .val (.int p1), .val (.int (0 : Int32)), .val (.int (0 : Int32)), .val (.ref wAR), .val (.int (1 : Int32)), .val (.int (0 : Int32)), .val (.int (0 : Int32)), .val (.int (1 : Int32)), .unset, .unset] [(.int (0 : Int32))])) t
        refine XS.istore X15.here hx rfl (hb hby at_100) rfl (l' := #[.val (.int p0), .val (.int p1), .val (.int (0 : Int32)), .val (.int (0 : Int32)), .val (.ref wAR), .val (.int (1 : Int32)), .val (.int (0 : Int32)), .val (.int (0 : Int32)), .val (.int (1 : Int32)), .val (.int (0 : Int32)), .unset]) rfl ?_
        show Steps p.tables e below (T15.setTop (mkF m 102 #[.val (.int p0), .val (.int p1), .val (.int (0 : Int32)), .val (.int (0 : Int32)), .val (.ref wAR), .val (.int (1 : Int32)), .val (.int (0 : Int32)), .val (.int (0 : Int32)), .val (.int (1 : Int32)), .val (.int (0 : Int32)), .unset] [])) t
        refine XS.iloadN X15.here hx rfl (hb hby at_102) rfl ?_
        show Steps p.tables e below (T15.setTop (mkF m 103 #[.val (.int p0), .val (.int p1), .val (.int (0 : Int32)), .val (.int (0 : Int32)), .val (.ref wAR), .val (.int (1 : Int32)), .val (.int (0 : Int32)), .val (.int (0 : Int32)), .val (.int (1 : Int32)), .val (.int (0 : Int32)), .unset] [(.int (0 : Int32))])) t
        refine XS.ifYes X15.here hx rfl (pc0 := 103) (pc' := 114) rfl (hb hby at_103) rfl ((if0 _ _).trans (teq (by decide : (0 : Int32) = (0 : Int32))).1) (by decide) (by decide) ?_
        show Steps p.tables e below (T15.setTop (mkF m 114 #[.val (.int p0), .val (.int p1), .val (.int (0 : Int32)), .val (.int (0 : Int32)), .val (.ref wAR), .val (.int (1 : Int32)), .val (.int (0 : Int32)), .val (.int (0 : Int32)), .val (.int (1 : Int32)), .val (.int (0 : Int32)), .unset] [])) t
        refine XS.iconst X15.here hx rfl (hb hby at_114) ?_
        show Steps p.tables e below (T15.setTop (mkF m 115 #[.val (.int p0), .val (.int p1), .val (.int (0 : Int32)), .val (.int (0 : Int32)), .val (.ref wAR), .val (.int (1 : Int32)), .val (.int (0 : Int32)), .val (.int (0 : Int32)), .val (.int (1 : Int32)), .val (.int (0 : Int32)), .unset] [(.int (0 : Int32))])) t
        refine XS.istore X15.here hx rfl (hb hby at_115) rfl (l' := #[.val (.int p0), .val (.int p1), .val (.int (0 : Int32)), .val (.int (0 : Int32)), .val (.ref wAR), .val (.int (1 : Int32)), .val (.int (0 : Int32)), .val (.int (0 : Int32)), .val (.int (1 : Int32)), .val (.int (0 : Int32)), .val (.int (0 : Int32))]) rfl ?_
        show Steps p.tables e below (T15.setTop (mkF m 117 #[.val (.int p0), .val (.int p1), .val (.int (0 : Int32)), .val (.int (0 : Int32)), .val (.ref wAR), .val (.int (1 : Int32)), .val (.int (0 : Int32)), .val (.int (0 : Int32)), .val (.int (1 : Int32)), .val (.int (0 : Int32)), .val (.int (0 : Int32))] [])) t
        refine XS.iload X15.here hx rfl (hb hby at_117) rfl ?_
        show Steps p.tables e below (T15.setTop (mkF m 119 #[.val (.int p0), .val (.int p1), .val (.int (0 : Int32)), .val (.int (0 : Int32)), .val (.ref wAR), .val (.int (1 : Int32)), .val (.int (0 : Int32)), .val (.int (0 : Int32)), .val (.int (1 : Int32)), .val (.int (0 : Int32)), .val (.int (0 : Int32))] [(.int (1 : Int32))])) t
        refine XS.iload X15.here hx rfl (hb hby at_119) rfl ?_
        show Steps p.tables e below (T15.setTop (mkF m 121 #[.val (.int p0), .val (.int p1), .val (.int (0 : Int32)), .val (.int (0 : Int32)), .val (.ref wAR), .val (.int (1 : Int32)), .val (.int (0 : Int32)), .val (.int (0 : Int32)), .val (.int (1 : Int32)), .val (.int (0 : Int32)), .val (.int (0 : Int32))] [(.int (1 : Int32)), (.int (1 : Int32))])) t
        refine XS.icmpNo X15.here hx rfl (hb hby at_121) rfl (teq (by decide : (1 : Int32) = (1 : Int32))).2 ?_
        show Steps p.tables e below (T15.setTop (mkF m 124 #[.val (.int p0), .val (.int p1), .val (.int (0 : Int32)), .val (.int (0 : Int32)), .val (.ref wAR), .val (.int (1 : Int32)), .val (.int (0 : Int32)), .val (.int (0 : Int32)), .val (.int (1 : Int32)), .val (.int (0 : Int32)), .val (.int (0 : Int32))] [])) t
        refine XS.iload X15.here hx rfl (hb hby at_124) rfl ?_
        show Steps p.tables e below (T15.setTop (mkF m 126 #[.val (.int p0), .val (.int p1), .val (.int (0 : Int32)), .val (.int (0 : Int32)), .val (.ref wAR), .val (.int (1 : Int32)), .val (.int (0 : Int32)), .val (.int (0 : Int32)), .val (.int (1 : Int32)), .val (.int (0 : Int32)), .val (.int (0 : Int32))] [(.int (0 : Int32))])) t
        refine XS.iload X15.here hx rfl (hb hby at_126) rfl ?_
        show Steps p.tables e below (T15.setTop (mkF m 128 #[.val (.int p0), .val (.int p1), .val (.int (0 : Int32)), .val (.int (0 : Int32)), .val (.ref wAR), .val (.int (1 : Int32)), .val (.int (0 : Int32)), .val (.int (0 : Int32)), .val (.int (1 : Int32)), .val (.int (0 : Int32)), .val (.int (0 : Int32))] [(.int (0 : Int32)), (.int (0 : Int32))])) t
        refine XS.icmpNo X15.here hx rfl (hb hby at_128) rfl (teq (by decide : (0 : Int32) = (0 : Int32))).2 ?_
        show Steps p.tables e below (T15.setTop (mkF m 131 #[.val (.int p0), .val (.int p1), .val (.int (0 : Int32)), .val (.int (0 : Int32)), .val (.ref wAR), .val (.int (1 : Int32)), .val (.int (0 : Int32)), .val (.int (0 : Int32)), .val (.int (1 : Int32)), .val (.int (0 : Int32)), .val (.int (0 : Int32))] [])) t
        refine XS.iload X15.here hx rfl (hb hby at_131) rfl ?_
        show Steps p.tables e below (T15.setTop (mkF m 133 #[.val (.int p0), .val (.int p1), .val (.int (0 : Int32)), .val (.int (0 : Int32)), .val (.ref wAR), .val (.int (1 : Int32)), .val (.int (0 : Int32)), .val (.int (0 : Int32)), .val (.int (1 : Int32)), .val (.int (0 : Int32)), .val (.int (0 : Int32))] [(.int (0 : Int32))])) t
        refine XS.iload X15.here hx rfl (hb hby at_133) rfl ?_
        show Steps p.tables e below (T15.setTop (mkF m 135 #[.val (.int p0), .val (.int p1), .val (.int (0 : Int32)), .val (.int (0 : Int32)), .val (.ref wAR), .val (.int (1 : Int32)), .val (.int (0 : Int32)), .val (.int (0 : Int32)), .val (.int (1 : Int32)), .val (.int (0 : Int32)), .val (.int (0 : Int32))] [(.int (0 : Int32)), (.int (0 : Int32))])) t
        refine XS.icmpNo X15.here hx rfl (hb hby at_135) rfl (teq (by decide : (0 : Int32) = (0 : Int32))).2 ?_
        show Steps p.tables e below (T15.setTop (mkF m 138 #[.val (.int p0), .val (.int p1), .val (.int (0 : Int32)), .val (.int (0 : Int32)), .val (.ref wAR), .val (.int (1 : Int32)), .val (.int (0 : Int32)), .val (.int (0 : Int32)), .val (.int (1 : Int32)), .val (.int (0 : Int32)), .val (.int (0 : Int32))] [])) t
        refine XS.iconst X15.here hx rfl (hb hby at_138) ?_
        show Steps p.tables e below (T15.setTop (mkF m 139 #[.val (.int p0), .val (.int p1), .val (.int (0 : Int32)), .val (.int (0 : Int32)), .val (.ref wAR), .val (.int (1 : Int32)), .val (.int (0 : Int32)), .val (.int (0 : Int32)), .val (.int (1 : Int32)), .val (.int (0 : Int32)), .val (.int (0 : Int32))] [(.int (1 : Int32))])) t
        refine XS.goto X15.here hx rfl (pc0 := 139) (pc' := 143) rfl (hb hby at_139) (by decide) (by decide) ?_
        exact k
      obtain ⟨fs, hr, hrun, hended, hW, hsame⟩ := X15.leave (v := some (.int (1 : Int32))) (fun h => by rw [Bd.returns] at h; cases h)
      refine ⟨_, _, k17 _ ?_, hrun, hended, _, _, rfl, ?_, ⟨_, rfl⟩, hW, hsame.mono (by decide) (by decide)⟩
      · exact retN X15 hx (t := .boolean) Bd.returns (by simp) (hb hby at_143) hr
      · show Q0 Z p0 p1 wAR wAE wAA h0 n0 _ T15.heap _
        rw [e15]
        exact ⟨congrArg (fun z => some (Value.int z)) (show f0 p0 p1 = (1 : Int32) from (by unfold f0; rw [if_pos hc3_2, if_pos hc15_4])).symm, N6⟩
    · have k18 : own_Go p e below (s₁.setTop (entryFrame m #[(.int p0), (.int p1)] maxLocals)) (s₁.setTop (mkF m 26 #[.val (.int p0), .val (.int p1), .val (.int (0 : Int32)), .val (.int (1 : Int32)), .unset, .unset, .unset, .unset, .unset, .unset, .unset] [(.int (1 : Int32)), (.int (0 : Int32))])) := by
        intro t k
        refine k3 t ?_
        show Steps p.tables e below (s₁.setTop (mkF m 15 #[.val (.int p0), .val (.int p1), .val (.int (0 : Int32)), .unset, .unset, .unset, .unset, .unset, .unset, .unset, .unset] [(.int (p1 &&& (1 : Int32)))])) t
        refine XS.ifNo X0.here hx rfl (hb hby at_15) rfl ((if0 _ _).trans (feq hc15_4).1) ?_
        show Steps p.tables e below (s₁.setTop (mkF m 18 #[.val (.int p0), .val (.int p1), .val (.int (0 : Int32)), .unset, .unset, .unset, .unset, .unset, .unset, .unset, .unset] [])) t
        refine XS.iconst X0.here hx rfl (hb hby at_18) ?_
        show Steps p.tables e below (s₁.setTop (mkF m 19 #[.val (.int p0), .val (.int p1), .val (.int (0 : Int32)), .unset, .unset, .unset, .unset, .unset, .unset, .unset, .unset] [(.int (1 : Int32))])) t
        refine XS.goto X0.here hx rfl (pc0 := 19) (pc' := 23) rfl (hb hby at_19) (by decide) (by decide) ?_
        show Steps p.tables e below (s₁.setTop (mkF m 23 #[.val (.int p0), .val (.int p1), .val (.int (0 : Int32)), .unset, .unset, .unset, .unset, .unset, .unset, .unset, .unset] [(.int (1 : Int32))])) t
        refine XS.istoreN X0.here hx rfl (hb hby at_23) rfl (l' := #[.val (.int p0), .val (.int p1), .val (.int (0 : Int32)), .val (.int (1 : Int32)), .unset, .unset, .unset, .unset, .unset, .unset, .unset]) rfl ?_
        show Steps p.tables e below (s₁.setTop (mkF m 24 #[.val (.int p0), .val (.int p1), .val (.int (0 : Int32)), .val (.int (1 : Int32)), .unset, .unset, .unset, .unset, .unset, .unset, .unset] [])) t
        refine XS.iloadN X0.here hx rfl (hb hby at_24) rfl ?_
        show Steps p.tables e below (s₁.setTop (mkF m 25 #[.val (.int p0), .val (.int p1), .val (.int (0 : Int32)), .val (.int (1 : Int32)), .unset, .unset, .unset, .unset, .unset, .unset, .unset] [(.int (0 : Int32))])) t
        refine XS.iloadN X0.here hx rfl (hb hby at_25) rfl ?_
        exact k
      obtain ⟨_, _, ⟨T19, L19, kk19, n19⟩, -, X19, ⟨Lc19, hQ19, l19, y19, z19⟩, st19⟩ := Jvm.LawKit.callS X0 hx (y := (⟨"com/example/dosewire/dosewire/rules/AckCode", "of", "(ZZ)Lcom/example/dosewire/dosewire/rules/AckCode;"⟩ : MethodName)) hown (mvT hZ (hw _ (List.mem_of_getElem? (i := 0) rfl))) (mvT hZ (hw _ (List.mem_of_getElem? (i := 1) rfl))) (mvT hZ (hw _ (List.mem_of_getElem? (i := 2) rfl))) (mvT hZ (hw _ (List.mem_of_getElem? (i := 3) rfl))) (by decide) (backOf (W := 0) (rm1 l Z a0 hw [] (0 : Int32) (1 : Int32) wAR wAE wAA h0 n0 Z0 S_AR S_AE S_AA) hZ (hw _ (List.mem_of_getElem? (i := 3) rfl)) (hw _ (List.mem_of_getElem? (i := 2) rfl)) (by decide) (by decide)) (g := (mkF m 26 #[.val (.int p0), .val (.int p1), .val (.int (0 : Int32)), .val (.int (1 : Int32)), .unset, .unset, .unset, .unset, .unset, .unset, .unset] [(.int (1 : Int32)), (.int (0 : Int32))])) rfl (by rw [hml]; rfl) (argsL := [(.int (0 : Int32)), (.int (1 : Int32))]) (rest := []) (lenOf pd_0 rfl) rfl (by show 2 * 0 + _ ≤ _; exact Nat.le_of_eq rfl) (hb hby at_26) (fun _ _ => ⟨rfl, e0, (by decide : 0 + 0 ≤ _), (by decide : 0 + 0 ≤ _)⟩)
      dsimp only [Pt.U, Pt.locs, Pt.cells, Pt.slots] at X19 l19 y19 z19 st19 hQ19
      subst l19 y19 z19
      obtain ⟨rfl, N19q, eh19⟩ := hQ19
      have N19 := Fr.app N0 N19q
      rw [show f1 (0 : Int32) (1 : Int32) wAR wAE wAA = wAR from (by unfold f1; rw [if_pos (rfl)])] at st19
      have k20 : own_Go p e below (s₁.setTop (entryFrame m #[(.int p0), (.int p1)] maxLocals)) (T19.setTop (mkF m 29 #[.val (.int p0), .val (.int p1), .val (.int (0 : Int32)), .val (.int (1 : Int32)), .unset, .unset, .unset, .unset, .unset, .unset, .unset] [(.ref wAR)])) := fun t k => k18 t (st19 t k)
      have k21 : own_Go p e below (s₁.setTop (entryFrame m #[(.int p0), (.int p1)] maxLocals)) (T19.setTop (mkF m 33 #[.val (.int p0), .val (.int p1), .val (.int (0 : Int32)), .val (.int (1 : Int32)), .val (.ref wAR), .unset, .unset, .unset, .unset, .unset, .unset] [(.ref wAR)])) := by
        intro t k
        refine k20 t ?_
        show Steps p.tables e below (T19.setTop (mkF m 29 #[.val (.int p0), .val (.int p1), .val (.int (0 : Int32)), .val (.int (1 : Int32)), .unset, .unset, .unset, .unset, .unset, .unset, .unset] [(.ref wAR)])) t
        refine XS.astore X19.here hx rfl (hb hby at_29) rfl rfl (l' := #[.val (.int p0), .val (.int p1), .val (.int (0 : Int32)), .val (.int (1 : Int32)), .val (.ref wAR), .unset, .unset, .unset, .unset, .unset, .unset]) rfl ?_
        show Steps p.tables e below (T19.setTop (mkF m 31 #[.val (.int p0), .val (.int p1), .val (.int (0 : Int32)), .val (.int (1 : Int32)), .val (.ref wAR), .unset, .unset, .unset, .unset, .unset, .unset] [])) t
        refine XS.aload X19.here hx rfl (hb hby at_31) rfl rfl ?_
        exact k
      obtain ⟨T22, X22, e22, st22⟩ := getS2 X19 hx hZ hown (host := "") (Or.inl (hw _ (List.mem_of_getElem? (i := 6) rfl))) Via.refl eh19 S_AR (g := (mkF m 33 #[.val (.int p0), .val (.int p1), .val (.int (0 : Int32)), .val (.int (1 : Int32)), .val (.ref wAR), .unset, .unset, .unset, .unset, .unset, .unset] [(.ref wAR)])) rfl (hb hby at_33)
      have k23 : own_Go p e below (s₁.setTop (entryFrame m #[(.int p0), (.int p1)] maxLocals)) (T22.setTop (mkF m 36 #[.val (.int p0), .val (.int p1), .val (.int (0 : Int32)), .val (.int (1 : Int32)), .val (.ref wAR), .unset, .unset, .unset, .unset, .unset, .unset] [(.ref wAR), (.ref wAR)])) := fun t k => k21 t (st22 t k)
      have k24 : own_Go p e below (s₁.setTop (entryFrame m #[(.int p0), (.int p1)] maxLocals)) (T22.setTop (mkF m 48 #[.val (.int p0), .val (.int p1), .val (.int (0 : Int32)), .val (.int (1 : Int32)), .val (.ref wAR), .val (.int (1 : Int32)), .unset, .unset, .unset, .unset, .unset] [(.ref wAR)])) := by
        intro t k
        refine k23 t ?_
        show Steps p.tables e below (T22.setTop (mkF m 36 #[.val (.int p0), .val (.int p1), .val (.int (0 : Int32)), .val (.int (1 : Int32)), .val (.ref wAR), .unset, .unset, .unset, .unset, .unset, .unset] [(.ref wAR), (.ref wAR)])) t
        refine Jvm.RoadKit.acmp (g := (mkF m 36 #[.val (.int p0), .val (.int p1), .val (.int (0 : Int32)), .val (.int (1 : Int32)), .val (.ref wAR), .unset, .unset, .unset, .unset, .unset, .unset] [(.ref wAR), (.ref wAR)])) X22 hx rfl rfl rfl (pc0 := 36) (pc' := 39) (same := true) rfl (hb hby at_36) rfl (decide_eq_true rfl) (by decide) (by decide) ?_
        show Steps p.tables e below (T22.setTop (mkF m 39 #[.val (.int p0), .val (.int p1), .val (.int (0 : Int32)), .val (.int (1 : Int32)), .val (.ref wAR), .unset, .unset, .unset, .unset, .unset, .unset] [])) t
        refine XS.iconst X22.here hx rfl (hb hby at_39) ?_
        show Steps p.tables e below (T22.setTop (mkF m 40 #[.val (.int p0), .val (.int p1), .val (.int (0 : Int32)), .val (.int (1 : Int32)), .val (.ref wAR), .unset, .unset, .unset, .unset, .unset, .unset] [(.int (1 : Int32))])) t
        refine XS.goto X22.here hx rfl (pc0 := 40) (pc' := 44) rfl (hb hby at_40) (by decide) (by decide) ?_
        show Steps p.tables e below (T22.setTop (mkF m 44 #[.val (.int p0), .val (.int p1), .val (.int (0 : Int32)), .val (.int (1 : Int32)), .val (.ref wAR), .unset, .unset, .unset, .unset, .unset, .unset] [(.int (1 : Int32))])) t
        refine XS.istore X22.here hx rfl (hb hby at_44) rfl (l' := #[.val (.int p0), .val (.int p1), .val (.int (0 : Int32)), .val (.int (1 : Int32)), .val (.ref wAR), .val (.int (1 : Int32)), .unset, .unset, .unset, .unset, .unset]) rfl ?_
        show Steps p.tables e below (T22.setTop (mkF m 46 #[.val (.int p0), .val (.int p1), .val (.int (0 : Int32)), .val (.int (1 : Int32)), .val (.ref wAR), .val (.int (1 : Int32)), .unset, .unset, .unset, .unset, .unset] [])) t
        refine XS.aload X22.here hx rfl (hb hby at_46) rfl rfl ?_
        exact k
      obtain ⟨T25, X25, e25, st25⟩ := getS2 X22 hx hZ hown (host := "") (Or.inl (hw _ (List.mem_of_getElem? (i := 7) rfl))) Via.refl e22 S_AE (g := (mkF m 48 #[.val (.int p0), .val (.int p1), .val (.int (0 : Int32)), .val (.int (1 : Int32)), .val (.ref wAR), .val (.int (1 : Int32)), .unset, .unset, .unset, .unset, .unset] [(.ref wAR)])) rfl (hb hby at_48)
      have k26 : own_Go p e below (s₁.setTop (entryFrame m #[(.int p0), (.int p1)] maxLocals)) (T25.setTop (mkF m 51 #[.val (.int p0), .val (.int p1), .val (.int (0 : Int32)), .val (.int (1 : Int32)), .val (.ref wAR), .val (.int (1 : Int32)), .unset, .unset, .unset, .unset, .unset] [(.ref wAE), (.ref wAR)])) := fun t k => k24 t (st25 t k)
      have k27 : own_Go p e below (s₁.setTop (entryFrame m #[(.int p0), (.int p1)] maxLocals)) (T25.setTop (mkF m 63 #[.val (.int p0), .val (.int p1), .val (.int (0 : Int32)), .val (.int (1 : Int32)), .val (.ref wAR), .val (.int (1 : Int32)), .val (.int (0 : Int32)), .unset, .unset, .unset, .unset] [(.ref wAR)])) := by
        intro t k
        refine k26 t ?_
        show Steps p.tables e below (T25.setTop (mkF m 51 #[.val (.int p0), .val (.int p1), .val (.int (0 : Int32)), .val (.int (1 : Int32)), .val (.ref wAR), .val (.int (1 : Int32)), .unset, .unset, .unset, .unset, .unset] [(.ref wAE), (.ref wAR)])) t
        refine Jvm.RoadKit.acmp (g := (mkF m 51 #[.val (.int p0), .val (.int p1), .val (.int (0 : Int32)), .val (.int (1 : Int32)), .val (.ref wAR), .val (.int (1 : Int32)), .unset, .unset, .unset, .unset, .unset] [(.ref wAE), (.ref wAR)])) X25 hx rfl rfl rfl (pc0 := 51) (pc' := 58) (same := false) rfl (hb hby at_51) rfl (decide_eq_false fun q => nARAE (Value.ref.inj q)) (by decide) (by decide) ?_
        show Steps p.tables e below (T25.setTop (mkF m 58 #[.val (.int p0), .val (.int p1), .val (.int (0 : Int32)), .val (.int (1 : Int32)), .val (.ref wAR), .val (.int (1 : Int32)), .unset, .unset, .unset, .unset, .unset] [])) t
        refine XS.iconst X25.here hx rfl (hb hby at_58) ?_
        show Steps p.tables e below (T25.setTop (mkF m 59 #[.val (.int p0), .val (.int p1), .val (.int (0 : Int32)), .val (.int (1 : Int32)), .val (.ref wAR), .val (.int (1 : Int32)), .unset, .unset, .unset, .unset, .unset] [(.int (0 : Int32))])) t
        refine XS.istore X25.here hx rfl (hb hby at_59) rfl (l' := #[.val (.int p0), .val (.int p1), .val (.int (0 : Int32)), .val (.int (1 : Int32)), .val (.ref wAR), .val (.int (1 : Int32)), .val (.int (0 : Int32)), .unset, .unset, .unset, .unset]) rfl ?_
        show Steps p.tables e below (T25.setTop (mkF m 61 #[.val (.int p0), .val (.int p1), .val (.int (0 : Int32)), .val (.int (1 : Int32)), .val (.ref wAR), .val (.int (1 : Int32)), .val (.int (0 : Int32)), .unset, .unset, .unset, .unset] [])) t
        refine XS.aload X25.here hx rfl (hb hby at_61) rfl rfl ?_
        exact k
      obtain ⟨T28, X28, e28, st28⟩ := getS2 X25 hx hZ hown (host := "") (Or.inl (hw _ (List.mem_of_getElem? (i := 9) rfl))) Via.refl e25 S_AA (g := (mkF m 63 #[.val (.int p0), .val (.int p1), .val (.int (0 : Int32)), .val (.int (1 : Int32)), .val (.ref wAR), .val (.int (1 : Int32)), .val (.int (0 : Int32)), .unset, .unset, .unset, .unset] [(.ref wAR)])) rfl (hb hby at_63)
      have k29 : own_Go p e below (s₁.setTop (entryFrame m #[(.int p0), (.int p1)] maxLocals)) (T28.setTop (mkF m 66 #[.val (.int p0), .val (.int p1), .val (.int (0 : Int32)), .val (.int (1 : Int32)), .val (.ref wAR), .val (.int (1 : Int32)), .val (.int (0 : Int32)), .unset, .unset, .unset, .unset] [(.ref wAA), (.ref wAR)])) := fun t k => k27 t (st28 t k)
      have k30 : own_Go p e below (s₁.setTop (entryFrame m #[(.int p0), (.int p1)] maxLocals)) (T28.setTop (mkF m 143 #[.val (.int p0), .val (.int p1), .val (.int (0 : Int32)), .val (.int (1 : Int32)), .val (.ref wAR), .val (.int (1 : Int32)), .val (.int (0 : Int32)), .val (.int (0 : Int32)), .val (.int (1 : Int32)), .val (.int (0 : Int32)), .val (.int (0 : Int32))] [(.int (1 : Int32))])) := by
        intro t k
        refine k29 t ?_
        show Steps p.tables e below (T28.setTop (mkF m 66 #[.val (.int p0), .val (.int p1), .val (.int (0 : Int32)), .val (.int (1 : Int32)), .val (.ref wAR), .val (.int (1 : Int32)), .val (.int (0 : Int32)), .unset, .unset, .unset, .unset] [(.ref wAA), (.ref wAR)])) t
        refine Jvm.RoadKit.acmp (g := (mkF m 66 #[.val (.int p0), .val (.int p1), .val (.int (0 : Int32)), .val (.int (1 : Int32)), .val (.ref wAR), .val (.int (1 : Int32)), .val (.int (0 : Int32)), .unset, .unset, .unset, .unset] [(.ref wAA), (.ref wAR)])) X28 hx rfl rfl rfl (pc0 := 66) (pc' := 73) (same := false) rfl (hb hby at_66) rfl (decide_eq_false fun q => nARAA (Value.ref.inj q)) (by decide) (by decide) ?_
        show Steps p.tables e below (T28.setTop (mkF m 73 #[.val (.int p0), .val (.int p1), .val (.int (0 : Int32)), .val (.int (1 : Int32)), .val (.ref wAR), .val (.int (1 : Int32)), .val (.int (0 : Int32)), .unset, .unset, .unset, .unset] [])) t
        refine XS.iconst X28.here hx rfl (hb hby at_73) ?_
        show Steps p.tables e below (T28.setTop (mkF m 74 #[.val (.int p0), .val (.int p1), .val (.int (0 : Int32)), .val (.int (1 : Int32)), .val (.ref wAR), .val (.int (1 : Int32)), .val (.int (0 : Int32)), .unset, .unset, .unset, .unset] [(.int (0 : Int32))])) t
        refine XS.istore X28.here hx rfl (hb hby at_74) rfl (l' := #[.val (.int p0), .val (.int p1), .val (.int (0 : Int32)), .val (.int (1 : Int32)), .val (.ref wAR), .val (.int (1 : Int32)), .val (.int (0 : Int32)), .val (.int (0 : Int32)), .unset, .unset, .unset]) rfl ?_
        show Steps p.tables e below (T28.setTop (mkF m 76 #[.val (.int p0), .val (.int p1), .val (.int (0 : Int32)), .val (.int (1 : Int32)), .val (.ref wAR), .val (.int (1 : Int32)), .val (.int (0 : Int32)), .val (.int (0 : Int32)), .unset, .unset, .unset] [])) t
        refine XS.iloadN X28.here hx rfl (hb hby at_76) rfl ?_
        show Steps p.tables e below (T28.setTop (mkF m 77 #[.val (.int p0), .val (.int p1), .val (.int (0 : Int32)), .val (.int (1 : Int32)), .val (.ref wAR), .val (.int (1 : Int32)), .val (.int (0 : Int32)), .val (.int (0 : Int32)), .unset, .unset, .unset] [(.int (0 : Int32))])) t
        refine XS.ifNo X28.here hx rfl (hb hby at_77) rfl ((if0 _ _).trans (teq (by decide : (0 : Int32) = (0 : Int32))).2) ?_
        show Steps p.tables e below (T28.setTop (mkF m 80 #[.val (.int p0), .val (.int p1), .val (.int (0 : Int32)), .val (.int (1 : Int32)), .val (.ref wAR), .val (.int (1 : Int32)), .val (.int (0 : Int32)), .val (.int (0 : Int32)), .unset, .unset, .unset] [])) t
        refine XS.iconst X28.here hx rfl (hb hby at_80) ?_
        show Steps p.tables e below (T28.setTop (mkF m 81 #[.val (.int p0), .val (.int p1), .val (.int (0 : Int32)), .val (.int (1 : Int32)), .val (.ref wAR), .val (.int (1 : Int32)), .val (.int (0 : Int32)), .val (.int (0 : Int32)), .unset, .unset, .unset] [(.int (1 : Int32))])) t
        refine XS.goto X28.here hx rfl (pc0 := 81) (pc' := 85) rfl (hb hby at_81) (by decide) (by decide) ?_
        show Steps p.tables e below (T28.setTop (mkF m 85 #[.val (.int p0), .val (.int p1), .val (.int (0 : Int32)), .val (.int (1 : Int32)), .val (.ref wAR), .val (.int (1 : Int32)), .val (.int (0 : Int32)), .val (.int (0 : Int32)), .unset, .unset, .unset] [(.int (1 : Int32))])) t
        refine XS.istore X28.here hx rfl (hb hby at_85) rfl (l' := #[.val (.int p0), .val (.int p1), .val (.int (0 : Int32)), .val (.int (1 : Int32)), .val (.ref wAR), .val (.int (1 : Int32)), .val (.int (0 : Int32)), .val (.int (0 : Int32)), .val (.int (1 : Int32)), .unset, .unset]) rfl ?_
        show Steps p.tables e below (T28.setTop (mkF m 87 #[.val (.int p0), .val (.int p1), .val (.int (0 : Int32)), .val (.int (1 : Int32)), .val (.ref wAR), .val (.int (1 : Int32)), .val (.int (0 : Int32)), .val (.int (0 : Int32)), .val (.int (1 : Int32)), .unset, .unset] [])) t
        refine XS.iloadN X28.here hx rfl (hb hby at_87) rfl ?_
        show Steps p.tables e below (T28.setTop (mkF m 88 #[.val (.int p0), .val (.int p1), .val (.int (0 : Int32)), .val (.int (1 : Int32)), .val (.ref wAR), .val (.int (1 : Int32)), .val (.int (0 : Int32)), .val (.int (0 : Int32)), .val (.int (1 : Int32)), .unset, .unset] [(.int (0 : Int32))])) t
        refine XS.ifYes X28.here hx rfl (pc0 := 88) (pc' := 99) rfl (hb hby at_88) rfl ((if0 _ _).trans (teq (by decide : (0 : Int32) = (0 : Int32))).1) (by decide) (by decide) ?_
        show Steps p.tables e below (T28.setTop (mkF m 99 #[.val (.int p0), .val (.int p1), .val (.int (0 : Int32)), .val (.int (1 : Int32)), .val (.ref wAR), .val (.int (1 : Int32)), .val (.int (0 : Int32)), .val (.int (0 : Int32)), .val (.int (1 : Int32)), .unset, .unset] [])) t
        refine XS.iconst X28.here hx rfl (hb hby at_99) ?_
        show Steps p.tables e below (T28.setTop (mkF m 100 #[.val (.int p0), .val (.int p1), .val (.int (0 : Int32)), .val (.int (1 : Int32)), .val (.ref wAR), .val (.int (1 : Int32)), .val (.int (0 : Int32)), .val (.int (0 : Int32)), .val (.int (1 : Int32)), .unset, .unset] [(.int (0 : Int32))])) t
        refine XS.istore X28.here hx rfl (hb hby at_100) rfl (l' := #[.val (.int p0), .val (.int p1), .val (.int (0 : Int32)), .val (.int (1 : Int32)), .val (.ref wAR), .val (.int (1 : Int32)), .val (.int (0 : Int32)), .val (.int (0 : Int32)), .val (.int (1 : Int32)), .val (.int (0 : Int32)), .unset]) rfl ?_
        show Steps p.tables e below (T28.setTop (mkF m 102 #[.val (.int p0), .val (.int p1), .val (.int (0 : Int32)), .val (.int (1 : Int32)), .val (.ref wAR), .val (.int (1 : Int32)), .val (.int (0 : Int32)), .val (.int (0 : Int32)), .val (.int (1 : Int32)), .val (.int (0 : Int32)), .unset] [])) t
        refine XS.iloadN X28.here hx rfl (hb hby at_102) rfl ?_
        show Steps p.tables e below (T28.setTop (mkF m 103 #[.val (.int p0), .val (.int p1), .val (.int (0 : Int32)), .val (.int (1 : Int32)), .val (.ref wAR), .val (.int (1 : Int32)), .val (.int (0 : Int32)), .val (.int (0 : Int32)), .val (.int (1 : Int32)), .val (.int (0 : Int32)), .unset] [(.int (0 : Int32))])) t
        refine XS.ifYes X28.here hx rfl (pc0 := 103) (pc' := 114) rfl (hb hby at_103) rfl ((if0 _ _).trans (teq (by decide : (0 : Int32) = (0 : Int32))).1) (by decide) (by decide) ?_
        show Steps p.tables e below (T28.setTop (mkF m 114 #[.val (.int p0), .val (.int p1), .val (.int (0 : Int32)), .val (.int (1 : Int32)), .val (.ref wAR), .val (.int (1 : Int32)), .val (.int (0 : Int32)), .val (.int (0 : Int32)), .val (.int (1 : Int32)), .val (.int (0 : Int32)), .unset] [])) t
        refine XS.iconst X28.here hx rfl (hb hby at_114) ?_
        show Steps p.tables e below (T28.setTop (mkF m 115 #[.val (.int p0), .val (.int p1), .val (.int (0 : Int32)), .val (.int (1 : Int32)), .val (.ref wAR), .val (.int (1 : Int32)), .val (.int (0 : Int32)), .val (.int (0 : Int32)), .val (.int (1 : Int32)), .val (.int (0 : Int32)), .unset] [(.int (0 : Int32))])) t
        refine XS.istore X28.here hx rfl (hb hby at_115) rfl (l' := #[.val (.int p0), .val (.int p1), .val (.int (0 : Int32)), .val (.int (1 : Int32)), .val (.ref wAR), .val (.int (1 : Int32)), .val (.int (0 : Int32)), .val (.int (0 : Int32)), .val (.int (1 : Int32)), .val (.int (0 : Int32)), .val (.int (0 : Int32))]) rfl ?_
        show Steps p.tables e below (T28.setTop (mkF m 117 #[.val (.int p0), .val (.int p1), .val (.int (0 : Int32)), .val (.int (1 : Int32)), .val (.ref wAR), .val (.int (1 : Int32)), .val (.int (0 : Int32)), .val (.int (0 : Int32)), .val (.int (1 : Int32)), .val (.int (0 : Int32)), .val (.int (0 : Int32))] [])) t
        refine XS.iload X28.here hx rfl (hb hby at_117) rfl ?_
        show Steps p.tables e below (T28.setTop (mkF m 119 #[.val (.int p0), .val (.int p1), .val (.int (0 : Int32)), .val (.int (1 : Int32)), .val (.ref wAR), .val (.int (1 : Int32)), .val (.int (0 : Int32)), .val (.int (0 : Int32)), .val (.int (1 : Int32)), .val (.int (0 : Int32)), .val (.int (0 : Int32))] [(.int (1 : Int32))])) t
        refine XS.iload X28.here hx rfl (hb hby at_119) rfl ?_
        show Steps p.tables e below (T28.setTop (mkF m 121 #[.val (.int p0), .val (.int p1), .val (.int (0 : Int32)), .val (.int (1 : Int32)), .val (.ref wAR), .val (.int (1 : Int32)), .val (.int (0 : Int32)), .val (.int (0 : Int32)), .val (.int (1 : Int32)), .val (.int (0 : Int32)), .val (.int (0 : Int32))] [(.int (1 : Int32)), (.int (1 : Int32))])) t
        refine XS.icmpNo X28.here hx rfl (hb hby at_121) rfl (teq (by decide : (1 : Int32) = (1 : Int32))).2 ?_
        show Steps p.tables e below (T28.setTop (mkF m 124 #[.val (.int p0), .val (.int p1), .val (.int (0 : Int32)), .val (.int (1 : Int32)), .val (.ref wAR), .val (.int (1 : Int32)), .val (.int (0 : Int32)), .val (.int (0 : Int32)), .val (.int (1 : Int32)), .val (.int (0 : Int32)), .val (.int (0 : Int32))] [])) t
        refine XS.iload X28.here hx rfl (hb hby at_124) rfl ?_
        show Steps p.tables e below (T28.setTop (mkF m 126 #[.val (.int p0), .val (.int p1), .val (.int (0 : Int32)), .val (.int (1 : Int32)), .val (.ref wAR), .val (.int (1 : Int32)), .val (.int (0 : Int32)), .val (.int (0 : Int32)), .val (.int (1 : Int32)), .val (.int (0 : Int32)), .val (.int (0 : Int32))] [(.int (0 : Int32))])) t
        refine XS.iload X28.here hx rfl (hb hby at_126) rfl ?_
        show Steps p.tables e below (T28.setTop (mkF m 128 #[.val (.int p0), .val (.int p1), .val (.int (0 : Int32)), .val (.int (1 : Int32)), .val (.ref wAR), .val (.int (1 : Int32)), .val (.int (0 : Int32)), .val (.int (0 : Int32)), .val (.int (1 : Int32)), .val (.int (0 : Int32)), .val (.int (0 : Int32))] [(.int (0 : Int32)), (.int (0 : Int32))])) t
        refine XS.icmpNo X28.here hx rfl (hb hby at_128) rfl (teq (by decide : (0 : Int32) = (0 : Int32))).2 ?_
        show Steps p.tables e below (T28.setTop (mkF m 131 #[.val (.int p0), .val (.int p1), .val (.int (0 : Int32)), .val (.int (1 : Int32)), .val (.ref wAR), .val (.int (1 : Int32)), .val (.int (0 : Int32)), .val (.int (0 : Int32)), .val (.int (1 : Int32)), .val (.int (0 : Int32)), .val (.int (0 : Int32))] [])) t
        refine XS.iload X28.here hx rfl (hb hby at_131) rfl ?_
        show Steps p.tables e below (T28.setTop (mkF m 133 #[.val (.int p0), .val (.int p1), .val (.int (0 : Int32)), .val (.int (1 : Int32)), .val (.ref wAR), .val (.int (1 : Int32)), .val (.int (0 : Int32)), .val (.int (0 : Int32)), .val (.int (1 : Int32)), .val (.int (0 : Int32)), .val (.int (0 : Int32))] [(.int (0 : Int32))])) t
        refine XS.iload X28.here hx rfl (hb hby at_133) rfl ?_
        show Steps p.tables e below (T28.setTop (mkF m 135 #[.val (.int p0), .val (.int p1), .val (.int (0 : Int32)), .val (.int (1 : Int32)), .val (.ref wAR), .val (.int (1 : Int32)), .val (.int (0 : Int32)), .val (.int (0 : Int32)), .val (.int (1 : Int32)), .val (.int (0 : Int32)), .val (.int (0 : Int32))] [(.int (0 : Int32)), (.int (0 : Int32))])) t
        refine XS.icmpNo X28.here hx rfl (hb hby at_135) rfl (teq (by decide : (0 : Int32) = (0 : Int32))).2 ?_
        show Steps p.tables e below (T28.setTop (mkF m 138 #[.val (.int p0), .val (.int p1), .val (.int (0 : Int32)), .val (.int (1 : Int32)), .val (.ref wAR), .val (.int (1 : Int32)), .val (.int (0 : Int32)), .val (.int (0 : Int32)), .val (.int (1 : Int32)), .val (.int (0 : Int32)), .val (.int (0 : Int32))] [])) t
        refine XS.iconst X28.here hx rfl (hb hby at_138) ?_
        show Steps p.tables e below (T28.setTop (mkF m 139 #[.val (.int p0), .val (.int p1), .val (.int (0 : Int32)), .val (.int (1 : Int32)), .val (.ref wAR), .val (.int (1 : Int32)), .val (.int (0 : Int32)), .val (.int (0 : Int32)), .val (.int (1 : Int32)), .val (.int (0 : Int32)), .val (.int (0 : Int32))] [(.int (1 : Int32))])) t
        refine XS.goto X28.here hx rfl (pc0 := 139) (pc' := 143) rfl (hb hby at_139) (by decide) (by decide) ?_
        exact k
      obtain ⟨fs, hr, hrun, hended, hW, hsame⟩ := X28.leave (v := some (.int (1 : Int32))) (fun h => by rw [Bd.returns] at h; cases h)
      refine ⟨_, _, k30 _ ?_, hrun, hended, _, _, rfl, ?_, ⟨_, rfl⟩, hW, hsame.mono (by decide) (by decide)⟩
      · exact retN X28 hx (t := .boolean) Bd.returns (by simp) (hb hby at_143) hr
      · show Q0 Z p0 p1 wAR wAE wAA h0 n0 _ T28.heap _
        rw [e28]
        exact ⟨congrArg (fun z => some (Value.int z)) (show f0 p0 p1 = (1 : Int32) from (by unfold f0; rw [if_pos hc3_2, if_neg hc15_4])).symm, N19⟩
  · have k31 : own_Go p e below (s₁.setTop (entryFrame m #[(.int p0), (.int p1)] maxLocals)) (s₁.setTop (mkF m 15 #[.val (.int p0), .val (.int p1), .val (.int (1 : Int32)), .unset, .unset, .unset, .unset, .unset, .unset, .unset, .unset] [(.int (p1 &&& (1 : Int32)))])) := by
      intro t k
      refine k1 t ?_
      show Steps p.tables e below (s₁.setTop (mkF m 3 #[.val (.int p0), .val (.int p1), .unset, .unset, .unset, .unset, .unset, .unset, .unset, .unset, .unset] [(.int (p0 &&& (1 : Int32)))])) t
      refine XS.ifNo X0.here hx rfl (hb hby at_3) rfl ((if0 _ _).trans (feq hc3_2).1) ?_
      show Steps p.tables e below (s₁.setTop (mkF m 6 #[.val (.int p0), .val (.int p1), .unset, .unset, .unset, .unset, .unset, .unset, .unset, .unset, .unset] [])) t
      refine XS.iconst X0.here hx rfl (hb hby at_6) ?_
      show Steps p.tables e below (s₁.setTop (mkF m 7 #[.val (.int p0), .val (.int p1), .unset, .unset, .unset, .unset, .unset, .unset, .unset, .unset, .unset] [(.int (1 : Int32))])) t
      refine XS.goto X0.here hx rfl (pc0 := 7) (pc' := 11) rfl (hb hby at_7) (by decide) (by decide) ?_
      show Steps p.tables e below (s₁.setTop (mkF m 11 #[.val (.int p0), .val (.int p1), .unset, .unset, .unset, .unset, .unset, .unset, .unset, .unset, .unset] [(.int (1 : Int32))])) t
      refine XS.istoreN X0.here hx rfl (hb hby at_11) rfl (l' := #[.val (.int p0), .val (.int p1), .val (.int (1 : Int32)), .unset, .unset, .unset, .unset, .unset, .unset, .unset, .unset]) rfl ?_
      show Steps p.tables e below (s₁.setTop (mkF m 12 #[.val (.int p0), .val (.int p1), .val (.int (1 : Int32)), .unset, .unset, .unset, .unset, .unset, .unset, .unset, .unset] [])) t
      refine XS.iloadN X0.here hx rfl (hb hby at_12) rfl ?_
      show Steps p.tables e below (s₁.setTop (mkF m 13 #[.val (.int p0), .val (.int p1), .val (.int (1 : Int32)), .unset, .unset, .unset, .unset, .unset, .unset, .unset, .unset] [(.int p1)])) t
      refine XS.iconst X0.here hx rfl (hb hby at_13) ?_
      show Steps p.tables e below (s₁.setTop (mkF m 14 #[.val (.int p0), .val (.int p1), .val (.int (1 : Int32)), .unset, .unset, .unset, .unset, .unset, .unset, .unset, .unset] [(.int (1 : Int32)), (.int p1)])) t
      refine XS.iand X0.here hx rfl (hb hby at_14) rfl ?_
      exact k
    by_cases hc15_32 : (p1 &&& (1 : Int32)) = (0 : Int32)
    · have k33 : own_Go p e below (s₁.setTop (entryFrame m #[(.int p0), (.int p1)] maxLocals)) (s₁.setTop (mkF m 26 #[.val (.int p0), .val (.int p1), .val (.int (1 : Int32)), .val (.int (0 : Int32)), .unset, .unset, .unset, .unset, .unset, .unset, .unset] [(.int (0 : Int32)), (.int (1 : Int32))])) := by
        intro t k
        refine k31 t ?_
        show Steps p.tables e below (s₁.setTop (mkF m 15 #[.val (.int p0), .val (.int p1), .val (.int (1 : Int32)), .unset, .unset, .unset, .unset, .unset, .unset, .unset, .unset] [(.int (p1 &&& (1 : Int32)))])) t
        refine XS.ifYes X0.here hx rfl (pc0 := 15) (pc' := 22) rfl (hb hby at_15) rfl ((if0 _ _).trans (teq hc15_32).1) (by decide) (by decide) ?_
        show Steps p.tables e below (s₁.setTop (mkF m 22 #[.val (.int p0), .val (.int p1), .val (.int (1 : Int32)), .unset, .unset, .unset, .unset, .unset, .unset, .unset, .unset] [])) t
        refine XS.iconst X0.here hx rfl (hb hby at_22) ?_
        show Steps p.tables e below (s₁.setTop (mkF m 23 #[.val (.int p0), .val (.int p1), .val (.int (1 : Int32)), .unset, .unset, .unset, .unset, .unset, .unset, .unset, .unset] [(.int (0 : Int32))])) t
        refine XS.istoreN X0.here hx rfl (hb hby at_23) rfl (l' := #[.val (.int p0), .val (.int p1), .val (.int (1 : Int32)), .val (.int (0 : Int32)), .unset, .unset, .unset, .unset, .unset, .unset, .unset]) rfl ?_
        show Steps p.tables e below (s₁.setTop (mkF m 24 #[.val (.int p0), .val (.int p1), .val (.int (1 : Int32)), .val (.int (0 : Int32)), .unset, .unset, .unset, .unset, .unset, .unset, .unset] [])) t
        refine XS.iloadN X0.here hx rfl (hb hby at_24) rfl ?_
        show Steps p.tables e below (s₁.setTop (mkF m 25 #[.val (.int p0), .val (.int p1), .val (.int (1 : Int32)), .val (.int (0 : Int32)), .unset, .unset, .unset, .unset, .unset, .unset, .unset] [(.int (1 : Int32))])) t
        refine XS.iloadN X0.here hx rfl (hb hby at_25) rfl ?_
        exact k
      obtain ⟨_, _, ⟨T34, L34, kk34, n34⟩, -, X34, ⟨Lc34, hQ34, l34, y34, z34⟩, st34⟩ := Jvm.LawKit.callS X0 hx (y := (⟨"com/example/dosewire/dosewire/rules/AckCode", "of", "(ZZ)Lcom/example/dosewire/dosewire/rules/AckCode;"⟩ : MethodName)) hown (mvT hZ (hw _ (List.mem_of_getElem? (i := 0) rfl))) (mvT hZ (hw _ (List.mem_of_getElem? (i := 1) rfl))) (mvT hZ (hw _ (List.mem_of_getElem? (i := 2) rfl))) (mvT hZ (hw _ (List.mem_of_getElem? (i := 3) rfl))) (by decide) (backOf (W := 0) (rm1 l Z a0 hw [] (1 : Int32) (0 : Int32) wAR wAE wAA h0 n0 Z0 S_AR S_AE S_AA) hZ (hw _ (List.mem_of_getElem? (i := 3) rfl)) (hw _ (List.mem_of_getElem? (i := 2) rfl)) (by decide) (by decide)) (g := (mkF m 26 #[.val (.int p0), .val (.int p1), .val (.int (1 : Int32)), .val (.int (0 : Int32)), .unset, .unset, .unset, .unset, .unset, .unset, .unset] [(.int (0 : Int32)), (.int (1 : Int32))])) rfl (by rw [hml]; rfl) (argsL := [(.int (1 : Int32)), (.int (0 : Int32))]) (rest := []) (lenOf pd_0 rfl) rfl (by show 2 * 0 + _ ≤ _; exact Nat.le_of_eq rfl) (hb hby at_26) (fun _ _ => ⟨rfl, e0, (by decide : 0 + 0 ≤ _), (by decide : 0 + 0 ≤ _)⟩)
      dsimp only [Pt.U, Pt.locs, Pt.cells, Pt.slots] at X34 l34 y34 z34 st34 hQ34
      subst l34 y34 z34
      obtain ⟨rfl, N34q, eh34⟩ := hQ34
      have N34 := Fr.app N0 N34q
      rw [show f1 (1 : Int32) (0 : Int32) wAR wAE wAA = wAA from (by unfold f1; rw [if_neg (by decide), if_pos (rfl)])] at st34
      have k35 : own_Go p e below (s₁.setTop (entryFrame m #[(.int p0), (.int p1)] maxLocals)) (T34.setTop (mkF m 29 #[.val (.int p0), .val (.int p1), .val (.int (1 : Int32)), .val (.int (0 : Int32)), .unset, .unset, .unset, .unset, .unset, .unset, .unset] [(.ref wAA)])) := fun t k => k33 t (st34 t k)
      have k36 : own_Go p e below (s₁.setTop (entryFrame m #[(.int p0), (.int p1)] maxLocals)) (T34.setTop (mkF m 33 #[.val (.int p0), .val (.int p1), .val (.int (1 : Int32)), .val (.int (0 : Int32)), .val (.ref wAA), .unset, .unset, .unset, .unset, .unset, .unset] [(.ref wAA)])) := by
        intro t k
        refine k35 t ?_
        show Steps p.tables e below (T34.setTop (mkF m 29 #[.val (.int p0), .val (.int p1), .val (.int (1 : Int32)), .val (.int (0 : Int32)), .unset, .unset, .unset, .unset, .unset, .unset, .unset] [(.ref wAA)])) t
        refine XS.astore X34.here hx rfl (hb hby at_29) rfl rfl (l' := #[.val (.int p0), .val (.int p1), .val (.int (1 : Int32)), .val (.int (0 : Int32)), .val (.ref wAA), .unset, .unset, .unset, .unset, .unset, .unset]) rfl ?_
        show Steps p.tables e below (T34.setTop (mkF m 31 #[.val (.int p0), .val (.int p1), .val (.int (1 : Int32)), .val (.int (0 : Int32)), .val (.ref wAA), .unset, .unset, .unset, .unset, .unset, .unset] [])) t
        refine XS.aload X34.here hx rfl (hb hby at_31) rfl rfl ?_
        exact k
      obtain ⟨T37, X37, e37, st37⟩ := getS2 X34 hx hZ hown (host := "") (Or.inl (hw _ (List.mem_of_getElem? (i := 6) rfl))) Via.refl eh34 S_AR (g := (mkF m 33 #[.val (.int p0), .val (.int p1), .val (.int (1 : Int32)), .val (.int (0 : Int32)), .val (.ref wAA), .unset, .unset, .unset, .unset, .unset, .unset] [(.ref wAA)])) rfl (hb hby at_33)
      have k38 : own_Go p e below (s₁.setTop (entryFrame m #[(.int p0), (.int p1)] maxLocals)) (T37.setTop (mkF m 36 #[.val (.int p0), .val (.int p1), .val (.int (1 : Int32)), .val (.int (0 : Int32)), .val (.ref wAA), .unset, .unset, .unset, .unset, .unset, .unset] [(.ref wAR), (.ref wAA)])) := fun t k => k36 t (st37 t k)
      have k39 : own_Go p e below (s₁.setTop (entryFrame m #[(.int p0), (.int p1)] maxLocals)) (T37.setTop (mkF m 48 #[.val (.int p0), .val (.int p1), .val (.int (1 : Int32)), .val (.int (0 : Int32)), .val (.ref wAA), .val (.int (0 : Int32)), .unset, .unset, .unset, .unset, .unset] [(.ref wAA)])) := by
        intro t k
        refine k38 t ?_
        show Steps p.tables e below (T37.setTop (mkF m 36 #[.val (.int p0), .val (.int p1), .val (.int (1 : Int32)), .val (.int (0 : Int32)), .val (.ref wAA), .unset, .unset, .unset, .unset, .unset, .unset] [(.ref wAR), (.ref wAA)])) t
        refine Jvm.RoadKit.acmp (g := (mkF m 36 #[.val (.int p0), .val (.int p1), .val (.int (1 : Int32)), .val (.int (0 : Int32)), .val (.ref wAA), .unset, .unset, .unset, .unset, .unset, .unset] [(.ref wAR), (.ref wAA)])) X37 hx rfl rfl rfl (pc0 := 36) (pc' := 43) (same := false) rfl (hb hby at_36) rfl (decide_eq_false fun q => nAAAR (Value.ref.inj q)) (by decide) (by decide) ?_
        show Steps p.tables e below (T37.setTop (mkF m 43 #[.val (.int p0), .val (.int p1), .val (.int (1 : Int32)), .val (.int (0 : Int32)), .val (.ref wAA), .unset, .unset, .unset, .unset, .unset, .unset] [])) t
        refine XS.iconst X37.here hx rfl (hb hby at_43) ?_
        show Steps p.tables e below (T37.setTop (mkF m 44 #[.val (.int p0), .val (.int p1), .val (.int (1 : Int32)), .val (.int (0 : Int32)), .val (.ref wAA), .unset, .unset, .unset, .unset, .unset, .unset] [(.int (0 : Int32))])) t
        refine XS.istore X37.here hx rfl (hb hby at_44) rfl (l' := #[.val (.int p0), .val (.int p1), .val (.int (1 : Int32)), .val (.int (0 : Int32)), .val (.ref wAA), .val (.int (0 : Int32)), .unset, .unset, .unset, .unset, .unset]) rfl ?_
        show Steps p.tables e below (T37.setTop (mkF m 46 #[.val (.int p0), .val (.int p1), .val (.int (1 : Int32)), .val (.int (0 : Int32)), .val (.ref wAA), .val (.int (0 : Int32)), .unset, .unset, .unset, .unset, .unset] [])) t
        refine XS.aload X37.here hx rfl (hb hby at_46) rfl rfl ?_
        exact k
      obtain ⟨T40, X40, e40, st40⟩ := getS2 X37 hx hZ hown (host := "") (Or.inl (hw _ (List.mem_of_getElem? (i := 7) rfl))) Via.refl e37 S_AE (g := (mkF m 48 #[.val (.int p0), .val (.int p1), .val (.int (1 : Int32)), .val (.int (0 : Int32)), .val (.ref wAA), .val (.int (0 : Int32)), .unset, .unset, .unset, .unset, .unset] [(.ref wAA)])) rfl (hb hby at_48)
      have k41 : own_Go p e below (s₁.setTop (entryFrame m #[(.int p0), (.int p1)] maxLocals)) (T40.setTop (mkF m 51 #[.val (.int p0), .val (.int p1), .val (.int (1 : Int32)), .val (.int (0 : Int32)), .val (.ref wAA), .val (.int (0 : Int32)), .unset, .unset, .unset, .unset, .unset] [(.ref wAE), (.ref wAA)])) := fun t k => k39 t (st40 t k)
      have k42 : own_Go p e below (s₁.setTop (entryFrame m #[(.int p0), (.int p1)] maxLocals)) (T40.setTop (mkF m 63 #[.val (.int p0), .val (.int p1), .val (.int (1 : Int32)), .val (.int (0 : Int32)), .val (.ref wAA), .val (.int (0 : Int32)), .val (.int (0 : Int32)), .unset, .unset, .unset, .unset] [(.ref wAA)])) := by
        intro t k
        refine k41 t ?_
        show Steps p.tables e below (T40.setTop (mkF m 51 #[.val (.int p0), .val (.int p1), .val (.int (1 : Int32)), .val (.int (0 : Int32)), .val (.ref wAA), .val (.int (0 : Int32)), .unset, .unset, .unset, .unset, .unset] [(.ref wAE), (.ref wAA)])) t
        refine Jvm.RoadKit.acmp (g := (mkF m 51 #[.val (.int p0), .val (.int p1), .val (.int (1 : Int32)), .val (.int (0 : Int32)), .val (.ref wAA), .val (.int (0 : Int32)), .unset, .unset, .unset, .unset, .unset] [(.ref wAE), (.ref wAA)])) X40 hx rfl rfl rfl (pc0 := 51) (pc' := 58) (same := false) rfl (hb hby at_51) rfl (decide_eq_false fun q => nAAAE (Value.ref.inj q)) (by decide) (by decide) ?_
        show Steps p.tables e below (T40.setTop (mkF m 58 #[.val (.int p0), .val (.int p1), .val (.int (1 : Int32)), .val (.int (0 : Int32)), .val (.ref wAA), .val (.int (0 : Int32)), .unset, .unset, .unset, .unset, .unset] [])) t
        refine XS.iconst X40.here hx rfl (hb hby at_58) ?_
        show Steps p.tables e below (T40.setTop (mkF m 59 #[.val (.int p0), .val (.int p1), .val (.int (1 : Int32)), .val (.int (0 : Int32)), .val (.ref wAA), .val (.int (0 : Int32)), .unset, .unset, .unset, .unset, .unset] [(.int (0 : Int32))])) t
        refine XS.istore X40.here hx rfl (hb hby at_59) rfl (l' := #[.val (.int p0), .val (.int p1), .val (.int (1 : Int32)), .val (.int (0 : Int32)), .val (.ref wAA), .val (.int (0 : Int32)), .val (.int (0 : Int32)), .unset, .unset, .unset, .unset]) rfl ?_
        show Steps p.tables e below (T40.setTop (mkF m 61 #[.val (.int p0), .val (.int p1), .val (.int (1 : Int32)), .val (.int (0 : Int32)), .val (.ref wAA), .val (.int (0 : Int32)), .val (.int (0 : Int32)), .unset, .unset, .unset, .unset] [])) t
        refine XS.aload X40.here hx rfl (hb hby at_61) rfl rfl ?_
        exact k
      obtain ⟨T43, X43, e43, st43⟩ := getS2 X40 hx hZ hown (host := "") (Or.inl (hw _ (List.mem_of_getElem? (i := 9) rfl))) Via.refl e40 S_AA (g := (mkF m 63 #[.val (.int p0), .val (.int p1), .val (.int (1 : Int32)), .val (.int (0 : Int32)), .val (.ref wAA), .val (.int (0 : Int32)), .val (.int (0 : Int32)), .unset, .unset, .unset, .unset] [(.ref wAA)])) rfl (hb hby at_63)
      have k44 : own_Go p e below (s₁.setTop (entryFrame m #[(.int p0), (.int p1)] maxLocals)) (T43.setTop (mkF m 66 #[.val (.int p0), .val (.int p1), .val (.int (1 : Int32)), .val (.int (0 : Int32)), .val (.ref wAA), .val (.int (0 : Int32)), .val (.int (0 : Int32)), .unset, .unset, .unset, .unset] [(.ref wAA), (.ref wAA)])) := fun t k => k42 t (st43 t k)
      have k45 : own_Go p e below (s₁.setTop (entryFrame m #[(.int p0), (.int p1)] maxLocals)) (T43.setTop (mkF m 143 #[.val (.int p0), .val (.int p1), .val (.int (1 : Int32)), .val (.int (0 : Int32)), .val (.ref wAA), .val (.int (0 : Int32)), .val (.int (0 : Int32)), .val (.int (1 : Int32)), .val (.int (0 : Int32)), .val (.int (0 : Int32)), .val (.int (1 : Int32))] [(.int (1 : Int32))])) := by
        intro t k
        refine k44 t ?_
        show Steps p.tables e below (T43.setTop (mkF m 66 #[.val (.int p0), .val (.int p1), .val (.int (1 : Int32)), .val (.int (0 : Int32)), .val (.ref wAA), .val (.int (0 : Int32)), .val (.int (0 : Int32)), .unset, .unset, .unset, .unset] [(.ref wAA), (.ref wAA)])) t
        refine Jvm.RoadKit.acmp (g := (mkF m 66 #[.val (.int p0), .val (.int p1), .val (.int (1 : Int32)), .val (.int (0 : Int32)), .val (.ref wAA), .val (.int (0 : Int32)), .val (.int (0 : Int32)), .unset, .unset, .unset, .unset] [(.ref wAA), (.ref wAA)])) X43 hx rfl rfl rfl (pc0 := 66) (pc' := 69) (same := true) rfl (hb hby at_66) rfl (decide_eq_true rfl) (by decide) (by decide) ?_
        show Steps p.tables e below (T43.setTop (mkF m 69 #[.val (.int p0), .val (.int p1), .val (.int (1 : Int32)), .val (.int (0 : Int32)), .val (.ref wAA), .val (.int (0 : Int32)), .val (.int (0 : Int32)), .unset, .unset, .unset, .unset] [])) t
        refine XS.iconst X43.here hx rfl (hb hby at_69) ?_
        show Steps p.tables e below (T43.setTop (mkF m 70 #[.val (.int p0), .val (.int p1), .val (.int (1 : Int32)), .val (.int (0 : Int32)), .val (.ref wAA), .val (.int (0 : Int32)), .val (.int (0 : Int32)), .unset, .unset, .unset, .unset] [(.int (1 : Int32))])) t
        refine XS.goto X43.here hx rfl (pc0 := 70) (pc' := 74) rfl (hb hby at_70) (by decide) (by decide) ?_
        show Steps p.tables e below (T43.setTop (mkF m 74 #[.val (.int p0), .val (.int p1), .val (.int (1 : Int32)), .val (.int (0 : Int32)), .val (.ref wAA), .val (.int (0 : Int32)), .val (.int (0 : Int32)), .unset, .unset, .unset, .unset] [(.int (1 : Int32))])) t
        refine XS.istore X43.here hx rfl (hb hby at_74) rfl (l' := #[.val (.int p0), .val (.int p1), .val (.int (1 : Int32)), .val (.int (0 : Int32)), .val (.ref wAA), .val (.int (0 : Int32)), .val (.int (0 : Int32)), .val (.int (1 : Int32)), .unset, .unset, .unset]) rfl ?_
        show Steps p.tables e below (T43.setTop (mkF m 76 #[.val (.int p0), .val (.int p1), .val (.int (1 : Int32)), .val (.int (0 : Int32)), .val (.ref wAA), .val (.int (0 : Int32)), .val (.int (0 : Int32)), .val (.int (1 : Int32)), .unset, .unset, .unset] [])) t
        refine XS.iloadN X43.here hx rfl (hb hby at_76) rfl ?_
        show Steps p.tables e below (T43.setTop (mkF m 77 #[.val (.int p0), .val (.int p1), .val (.int (1 : Int32)), .val (.int (0 : Int32)), .val (.ref wAA), .val (.int (0 : Int32)), .val (.int (0 : Int32)), .val (.int (1 : Int32)), .unset, .unset, .unset] [(.int (1 : Int32))])) t
        refine XS.ifYes X43.here hx rfl (pc0 := 77) (pc' := 84) rfl (hb hby at_77) rfl ((if0 _ _).trans (feq (by decide : ¬ ((1 : Int32) = (0 : Int32)))).2) (by decide) (by decide) ?_
        show Steps p.tables e below (T43.setTop (mkF m 84 #[.val (.int p0), .val (.int p1), .val (.int (1 : Int32)), .val (.int (0 : Int32)), .val (.ref wAA), .val (.int (0 : Int32)), .val (.int (0 : Int32)), .val (.int (1 : Int32)), .unset, .unset, .unset] [])) t
        refine XS.iconst X43.here hx rfl (hb hby at_84) ?_
        show Steps p.tables e below (T43.setTop (mkF m 85 #[.val (.int p0), .val (.int p1), .val (.int (1 : Int32)), .val (.int (0 : Int32)), .val (.ref wAA), .val (.int (0 : Int32)), .val (.int (0 : Int32)), .val (.int (1 : Int32)), .unset, .unset, .unset] [(.int (0 : Int32))])) t
        refine XS.istore X43.here hx rfl (hb hby at_85) rfl (l' := #[.val (.int p0), .val (.int p1), .val (.int (1 : Int32)), .val (.int (0 : Int32)), .val (.ref wAA), .val (.int (0 : Int32)), .val (.int (0 : Int32)), .val (.int (1 : Int32)), .val (.int (0 : Int32)), .unset, .unset]) rfl ?_
        show Steps p.tables e below (T43.setTop (mkF m 87 #[.val (.int p0), .val (.int p1), .val (.int (1 : Int32)), .val (.int (0 : Int32)), .val (.ref wAA), .val (.int (0 : Int32)), .val (.int (0 : Int32)), .val (.int (1 : Int32)), .val (.int (0 : Int32)), .unset, .unset] [])) t
        refine XS.iloadN X43.here hx rfl (hb hby at_87) rfl ?_
        show Steps p.tables e below (T43.setTop (mkF m 88 #[.val (.int p0), .val (.int p1), .val (.int (1 : Int32)), .val (.int (0 : Int32)), .val (.ref wAA), .val (.int (0 : Int32)), .val (.int (0 : Int32)), .val (.int (1 : Int32)), .val (.int (0 : Int32)), .unset, .unset] [(.int (1 : Int32))])) t
        refine XS.ifNo X43.here hx rfl (hb hby at_88) rfl ((if0 _ _).trans (feq (by decide : ¬ ((1 : Int32) = (0 : Int32)))).1) ?_
        show Steps p.tables e below (T43.setTop (mkF m 91 #[.val (.int p0), .val (.int p1), .val (.int (1 : Int32)), .val (.int (0 : Int32)), .val (.ref wAA), .val (.int (0 : Int32)), .val (.int (0 : Int32)), .val (.int (1 : Int32)), .val (.int (0 : Int32)), .unset, .unset] [])) t
        refine XS.iloadN X43.here hx rfl (hb hby at_91) rfl ?_
        show Steps p.tables e below (T43.setTop (mkF m 92 #[.val (.int p0), .val (.int p1), .val (.int (1 : Int32)), .val (.int (0 : Int32)), .val (.ref wAA), .val (.int (0 : Int32)), .val (.int (0 : Int32)), .val (.int (1 : Int32)), .val (.int (0 : Int32)), .unset, .unset] [(.int (0 : Int32))])) t
        refine XS.ifYes X43.here hx rfl (pc0 := 92) (pc' := 99) rfl (hb hby at_92) rfl ((if0 _ _).trans (teq (by decide : (0 : Int32) = (0 : Int32))).1) (by decide) (by decide) ?_
        show Steps p.tables e below (T43.setTop (mkF m 99 #[.val (.int p0), .val (.int p1), .val (.int (1 : Int32)), .val (.int (0 : Int32)), .val (.ref wAA), .val (.int (0 : Int32)), .val (.int (0 : Int32)), .val (.int (1 : Int32)), .val (.int (0 : Int32)), .unset, .unset] [])) t
        refine XS.iconst X43.here hx rfl (hb hby at_99) ?_
        show Steps p.tables e below (T43.setTop (mkF m 100 #[.val (.int p0), .val (.int p1), .val (.int (1 : Int32)), .val (.int (0 : Int32)), .val (.ref wAA), .val (.int (0 : Int32)), .val (.int (0 : Int32)), .val (.int (1 : Int32)), .val (.int (0 : Int32)), .unset, .unset] [(.int (0 : Int32))])) t
        refine XS.istore X43.here hx rfl (hb hby at_100) rfl (l' := #[.val (.int p0), .val (.int p1), .val (.int (1 : Int32)), .val (.int (0 : Int32)), .val (.ref wAA), .val (.int (0 : Int32)), .val (.int (0 : Int32)), .val (.int (1 : Int32)), .val (.int (0 : Int32)), .val (.int (0 : Int32)), .unset]) rfl ?_
        show Steps p.tables e below (T43.setTop (mkF m 102 #[.val (.int p0), .val (.int p1), .val (.int (1 : Int32)), .val (.int (0 : Int32)), .val (.ref wAA), .val (.int (0 : Int32)), .val (.int (0 : Int32)), .val (.int (1 : Int32)), .val (.int (0 : Int32)), .val (.int (0 : Int32)), .unset] [])) t
        refine XS.iloadN X43.here hx rfl (hb hby at_102) rfl ?_
        show Steps p.tables e below (T43.setTop (mkF m 103 #[.val (.int p0), .val (.int p1), .val (.int (1 : Int32)), .val (.int (0 : Int32)), .val (.ref wAA), .val (.int (0 : Int32)), .val (.int (0 : Int32)), .val (.int (1 : Int32)), .val (.int (0 : Int32)), .val (.int (0 : Int32)), .unset] [(.int (1 : Int32))])) t
        refine XS.ifNo X43.here hx rfl (hb hby at_103) rfl ((if0 _ _).trans (feq (by decide : ¬ ((1 : Int32) = (0 : Int32)))).1) ?_
        show Steps p.tables e below (T43.setTop (mkF m 106 #[.val (.int p0), .val (.int p1), .val (.int (1 : Int32)), .val (.int (0 : Int32)), .val (.ref wAA), .val (.int (0 : Int32)), .val (.int (0 : Int32)), .val (.int (1 : Int32)), .val (.int (0 : Int32)), .val (.int (0 : Int32)), .unset] [])) t
        refine XS.iloadN X43.here hx rfl (hb hby at_106) rfl ?_
        show Steps p.tables e below (T43.setTop (mkF m 107 #[.val (.int p0), .val (.int p1), .val (.int (1 : Int32)), .val (.int (0 : Int32)), .val (.ref wAA), .val (.int (0 : Int32)), .val (.int (0 : Int32)), .val (.int (1 : Int32)), .val (.int (0 : Int32)), .val (.int (0 : Int32)), .unset] [(.int (0 : Int32))])) t
        refine XS.ifNo X43.here hx rfl (hb hby at_107) rfl ((if0 _ _).trans (teq (by decide : (0 : Int32) = (0 : Int32))).2) ?_
        show Steps p.tables e below (T43.setTop (mkF m 110 #[.val (.int p0), .val (.int p1), .val (.int (1 : Int32)), .val (.int (0 : Int32)), .val (.ref wAA), .val (.int (0 : Int32)), .val (.int (0 : Int32)), .val (.int (1 : Int32)), .val (.int (0 : Int32)), .val (.int (0 : Int32)), .unset] [])) t
        refine XS.iconst X43.here hx rfl (hb hby at_110) ?_
        show Steps p.tables e below (T43.setTop (mkF m 111 #[.val (.int p0), .val (.int p1), .val (.int (1 : Int32)), .val (.int (0 : Int32)), .val (.ref wAA), .val (.int (0 : Int32)), .val (.int (0 : Int32)), .val (.int (1 : Int32)), .val (.int (0 : Int32)), .val (.int (0 : Int32)), .unset] [(.int (1 : Int32))])) t
        refine XS.goto X43.here hx rfl (pc0 := 111) (pc' := 115) rfl (hb hby at_111) (by decide) (by decide) ?_
        show Steps p.tables e below (T43.setTop (mkF m 115 #[.val (.int p0), .val (.int p1), .val (.int (1 : Int32)), .val (.int (0 : Int32)), .val (.ref wAA), .val (.int (0 : Int32)), .val (.int (0 : Int32)), .val (.int (1 : Int32)), .val (.int (0 : Int32)), .val (.int (0 : Int32)), .unset] [(.int (1 : Int32))])) t
        refine XS.istore X43.here hx rfl (hb hby at_115) rfl (l' := #[.val (.int p0), .val (.int p1), .val (.int (1 : Int32)), .val (.int (0 : Int32)), .val (.ref wAA), .val (.int (0 : Int32)), .val (.int (0 : Int32)), .val (.int (1 : Int32)), .val (.int (0 : Int32)), .val (.int (0 : Int32)), .val (.int (1 : Int32))]) rfl ?_
        show Steps p.tables e below (T43.setTop (mkF m 117 #[.val (.int p0), .val (.int p1), .val (.int (1 : Int32)), .val (.int (0 : Int32)), .val (.ref wAA), .val (.int (0 : Int32)), .val (.int (0 : Int32)), .val (.int (1 : Int32)), .val (.int (0 : Int32)), .val (.int (0 : Int32)), .val (.int (1 : Int32))] [])) t
        refine XS.iload X43.here hx rfl (hb hby at_117) rfl ?_
        show Steps p.tables e below (T43.setTop (mkF m 119 #[.val (.int p0), .val (.int p1), .val (.int (1 : Int32)), .val (.int (0 : Int32)), .val (.ref wAA), .val (.int (0 : Int32)), .val (.int (0 : Int32)), .val (.int (1 : Int32)), .val (.int (0 : Int32)), .val (.int (0 : Int32)), .val (.int (1 : Int32))] [(.int (0 : Int32))])) t
        refine XS.iload X43.here hx rfl (hb hby at_119) rfl ?_
        show Steps p.tables e below (T43.setTop (mkF m 121 #[.val (.int p0), .val (.int p1), .val (.int (1 : Int32)), .val (.int (0 : Int32)), .val (.ref wAA), .val (.int (0 : Int32)), .val (.int (0 : Int32)), .val (.int (1 : Int32)), .val (.int (0 : Int32)), .val (.int (0 : Int32)), .val (.int (1 : Int32))] [(.int (0 : Int32)), (.int (0 : Int32))])) t
        refine XS.icmpNo X43.here hx rfl (hb hby at_121) rfl (teq (by decide : (0 : Int32) = (0 : Int32))).2 ?_
        show Steps p.tables e below (T43.setTop (mkF m 124 #[.val (.int p0), .val (.int p1), .val (.int (1 : Int32)), .val (.int (0 : Int32)), .val (.ref wAA), .val (.int (0 : Int32)), .val (.int (0 : Int32)), .val (.int (1 : Int32)), .val (.int (0 : Int32)), .val (.int (0 : Int32)), .val (.int (1 : Int32))] [])) t
        refine XS.iload X43.here hx rfl (hb hby at_124) rfl ?_
        show Steps p.tables e below (T43.setTop (mkF m 126 #[.val (.int p0), .val (.int p1), .val (.int (1 : Int32)), .val (.int (0 : Int32)), .val (.ref wAA), .val (.int (0 : Int32)), .val (.int (0 : Int32)), .val (.int (1 : Int32)), .val (.int (0 : Int32)), .val (.int (0 : Int32)), .val (.int (1 : Int32))] [(.int (0 : Int32))])) t
        refine XS.iload X43.here hx rfl (hb hby at_126) rfl ?_
        show Steps p.tables e below (T43.setTop (mkF m 128 #[.val (.int p0), .val (.int p1), .val (.int (1 : Int32)), .val (.int (0 : Int32)), .val (.ref wAA), .val (.int (0 : Int32)), .val (.int (0 : Int32)), .val (.int (1 : Int32)), .val (.int (0 : Int32)), .val (.int (0 : Int32)), .val (.int (1 : Int32))] [(.int (0 : Int32)), (.int (0 : Int32))])) t
        refine XS.icmpNo X43.here hx rfl (hb hby at_128) rfl (teq (by decide : (0 : Int32) = (0 : Int32))).2 ?_
        show Steps p.tables e below (T43.setTop (mkF m 131 #[.val (.int p0), .val (.int p1), .val (.int (1 : Int32)), .val (.int (0 : Int32)), .val (.ref wAA), .val (.int (0 : Int32)), .val (.int (0 : Int32)), .val (.int (1 : Int32)), .val (.int (0 : Int32)), .val (.int (0 : Int32)), .val (.int (1 : Int32))] [])) t
        refine XS.iload X43.here hx rfl (hb hby at_131) rfl ?_
        show Steps p.tables e below (T43.setTop (mkF m 133 #[.val (.int p0), .val (.int p1), .val (.int (1 : Int32)), .val (.int (0 : Int32)), .val (.ref wAA), .val (.int (0 : Int32)), .val (.int (0 : Int32)), .val (.int (1 : Int32)), .val (.int (0 : Int32)), .val (.int (0 : Int32)), .val (.int (1 : Int32))] [(.int (1 : Int32))])) t
        refine XS.iload X43.here hx rfl (hb hby at_133) rfl ?_
        show Steps p.tables e below (T43.setTop (mkF m 135 #[.val (.int p0), .val (.int p1), .val (.int (1 : Int32)), .val (.int (0 : Int32)), .val (.ref wAA), .val (.int (0 : Int32)), .val (.int (0 : Int32)), .val (.int (1 : Int32)), .val (.int (0 : Int32)), .val (.int (0 : Int32)), .val (.int (1 : Int32))] [(.int (1 : Int32)), (.int (1 : Int32))])) t
        refine XS.icmpNo X43.here hx rfl (hb hby at_135) rfl (teq (by decide : (1 : Int32) = (1 : Int32))).2 ?_
        show Steps p.tables e below (T43.setTop (mkF m 138 #[.val (.int p0), .val (.int p1), .val (.int (1 : Int32)), .val (.int (0 : Int32)), .val (.ref wAA), .val (.int (0 : Int32)), .val (.int (0 : Int32)), .val (.int (1 : Int32)), .val (.int (0 : Int32)), .val (.int (0 : Int32)), .val (.int (1 : Int32))] [])) t
        refine XS.iconst X43.here hx rfl (hb hby at_138) ?_
        show Steps p.tables e below (T43.setTop (mkF m 139 #[.val (.int p0), .val (.int p1), .val (.int (1 : Int32)), .val (.int (0 : Int32)), .val (.ref wAA), .val (.int (0 : Int32)), .val (.int (0 : Int32)), .val (.int (1 : Int32)), .val (.int (0 : Int32)), .val (.int (0 : Int32)), .val (.int (1 : Int32))] [(.int (1 : Int32))])) t
        refine XS.goto X43.here hx rfl (pc0 := 139) (pc' := 143) rfl (hb hby at_139) (by decide) (by decide) ?_
        exact k
      obtain ⟨fs, hr, hrun, hended, hW, hsame⟩ := X43.leave (v := some (.int (1 : Int32))) (fun h => by rw [Bd.returns] at h; cases h)
      refine ⟨_, _, k45 _ ?_, hrun, hended, _, _, rfl, ?_, ⟨_, rfl⟩, hW, hsame.mono (by decide) (by decide)⟩
      · exact retN X43 hx (t := .boolean) Bd.returns (by simp) (hb hby at_143) hr
      · show Q0 Z p0 p1 wAR wAE wAA h0 n0 _ T43.heap _
        rw [e43]
        exact ⟨congrArg (fun z => some (Value.int z)) (show f0 p0 p1 = (1 : Int32) from (by unfold f0; rw [if_neg hc3_2, if_pos hc15_32])).symm, N34⟩
    · have k46 : own_Go p e below (s₁.setTop (entryFrame m #[(.int p0), (.int p1)] maxLocals)) (s₁.setTop (mkF m 26 #[.val (.int p0), .val (.int p1), .val (.int (1 : Int32)), .val (.int (1 : Int32)), .unset, .unset, .unset, .unset, .unset, .unset, .unset] [(.int (1 : Int32)), (.int (1 : Int32))])) := by
        intro t k
        refine k31 t ?_
        show Steps p.tables e below (s₁.setTop (mkF m 15 #[.val (.int p0), .val (.int p1), .val (.int (1 : Int32)), .unset, .unset, .unset, .unset, .unset, .unset, .unset, .unset] [(.int (p1 &&& (1 : Int32)))])) t
        refine XS.ifNo X0.here hx rfl (hb hby at_15) rfl ((if0 _ _).trans (feq hc15_32).1) ?_
        show Steps p.tables e below (s₁.setTop (mkF m 18 #[.val (.int p0), .val (.int p1), .val (.int (1 : Int32)), .unset, .unset, .unset, .unset, .unset, .unset, .unset, .unset] [])) t
        refine XS.iconst X0.here hx rfl (hb hby at_18) ?_
        show Steps p.tables e below (s₁.setTop (mkF m 19 #[.val (.int p0), .val (.int p1), .val (.int (1 : Int32)), .unset, .unset, .unset, .unset, .unset, .unset, .unset, .unset] [(.int (1 : Int32))])) t
        refine XS.goto X0.here hx rfl (pc0 := 19) (pc' := 23) rfl (hb hby at_19) (by decide) (by decide) ?_
        show Steps p.tables e below (s₁.setTop (mkF m 23 #[.val (.int p0), .val (.int p1), .val (.int (1 : Int32)), .unset, .unset, .unset, .unset, .unset, .unset, .unset, .unset] [(.int (1 : Int32))])) t
        refine XS.istoreN X0.here hx rfl (hb hby at_23) rfl (l' := #[.val (.int p0), .val (.int p1), .val (.int (1 : Int32)), .val (.int (1 : Int32)), .unset, .unset, .unset, .unset, .unset, .unset, .unset]) rfl ?_
        show Steps p.tables e below (s₁.setTop (mkF m 24 #[.val (.int p0), .val (.int p1), .val (.int (1 : Int32)), .val (.int (1 : Int32)), .unset, .unset, .unset, .unset, .unset, .unset, .unset] [])) t
        refine XS.iloadN X0.here hx rfl (hb hby at_24) rfl ?_
        show Steps p.tables e below (s₁.setTop (mkF m 25 #[.val (.int p0), .val (.int p1), .val (.int (1 : Int32)), .val (.int (1 : Int32)), .unset, .unset, .unset, .unset, .unset, .unset, .unset] [(.int (1 : Int32))])) t
        refine XS.iloadN X0.here hx rfl (hb hby at_25) rfl ?_
        exact k
      obtain ⟨_, _, ⟨T47, L47, kk47, n47⟩, -, X47, ⟨Lc47, hQ47, l47, y47, z47⟩, st47⟩ := Jvm.LawKit.callS X0 hx (y := (⟨"com/example/dosewire/dosewire/rules/AckCode", "of", "(ZZ)Lcom/example/dosewire/dosewire/rules/AckCode;"⟩ : MethodName)) hown (mvT hZ (hw _ (List.mem_of_getElem? (i := 0) rfl))) (mvT hZ (hw _ (List.mem_of_getElem? (i := 1) rfl))) (mvT hZ (hw _ (List.mem_of_getElem? (i := 2) rfl))) (mvT hZ (hw _ (List.mem_of_getElem? (i := 3) rfl))) (by decide) (backOf (W := 0) (rm1 l Z a0 hw [] (1 : Int32) (1 : Int32) wAR wAE wAA h0 n0 Z0 S_AR S_AE S_AA) hZ (hw _ (List.mem_of_getElem? (i := 3) rfl)) (hw _ (List.mem_of_getElem? (i := 2) rfl)) (by decide) (by decide)) (g := (mkF m 26 #[.val (.int p0), .val (.int p1), .val (.int (1 : Int32)), .val (.int (1 : Int32)), .unset, .unset, .unset, .unset, .unset, .unset, .unset] [(.int (1 : Int32)), (.int (1 : Int32))])) rfl (by rw [hml]; rfl) (argsL := [(.int (1 : Int32)), (.int (1 : Int32))]) (rest := []) (lenOf pd_0 rfl) rfl (by show 2 * 0 + _ ≤ _; exact Nat.le_of_eq rfl) (hb hby at_26) (fun _ _ => ⟨rfl, e0, (by decide : 0 + 0 ≤ _), (by decide : 0 + 0 ≤ _)⟩)
      dsimp only [Pt.U, Pt.locs, Pt.cells, Pt.slots] at X47 l47 y47 z47 st47 hQ47
      subst l47 y47 z47
      obtain ⟨rfl, N47q, eh47⟩ := hQ47
      have N47 := Fr.app N0 N47q
      rw [show f1 (1 : Int32) (1 : Int32) wAR wAE wAA = wAE from (by unfold f1; rw [if_neg (by decide), if_neg (by decide)])] at st47
      have k48 : own_Go p e below (s₁.setTop (entryFrame m #[(.int p0), (.int p1)] maxLocals)) (T47.setTop (mkF m 29 #[.val (.int p0), .val (.int p1), .val (.int (1 : Int32)), .val (.int (1 : Int32)), .unset, .unset, .unset, .unset, .unset, .unset, .unset] [(.ref wAE)])) := fun t k => k46 t (st47 t k)
      have k49 : own_Go p e below (s₁.setTop (entryFrame m #[(.int p0), (.int p1)] maxLocals)) (T47.setTop (mkF m 33 #[.val (.int p0), .val (.int p1), .val (.int (1 : Int32)), .val (.int (1 : Int32)), .val (.ref wAE), .unset, .unset, .unset, .unset, .unset, .unset] [(.ref wAE)])) := by
        intro t k
        refine k48 t ?_
        show Steps p.tables e below (T47.setTop (mkF m 29 #[.val (.int p0), .val (.int p1), .val (.int (1 : Int32)), .val (.int (1 : Int32)), .unset, .unset, .unset, .unset, .unset, .unset, .unset] [(.ref wAE)])) t
        refine XS.astore X47.here hx rfl (hb hby at_29) rfl rfl (l' := #[.val (.int p0), .val (.int p1), .val (.int (1 : Int32)), .val (.int (1 : Int32)), .val (.ref wAE), .unset, .unset, .unset, .unset, .unset, .unset]) rfl ?_
        show Steps p.tables e below (T47.setTop (mkF m 31 #[.val (.int p0), .val (.int p1), .val (.int (1 : Int32)), .val (.int (1 : Int32)), .val (.ref wAE), .unset, .unset, .unset, .unset, .unset, .unset] [])) t
        refine XS.aload X47.here hx rfl (hb hby at_31) rfl rfl ?_
        exact k
      obtain ⟨T50, X50, e50, st50⟩ := getS2 X47 hx hZ hown (host := "") (Or.inl (hw _ (List.mem_of_getElem? (i := 6) rfl))) Via.refl eh47 S_AR (g := (mkF m 33 #[.val (.int p0), .val (.int p1), .val (.int (1 : Int32)), .val (.int (1 : Int32)), .val (.ref wAE), .unset, .unset, .unset, .unset, .unset, .unset] [(.ref wAE)])) rfl (hb hby at_33)
      have k51 : own_Go p e below (s₁.setTop (entryFrame m #[(.int p0), (.int p1)] maxLocals)) (T50.setTop (mkF m 36 #[.val (.int p0), .val (.int p1), .val (.int (1 : Int32)), .val (.int (1 : Int32)), .val (.ref wAE), .unset, .unset, .unset, .unset, .unset, .unset] [(.ref wAR), (.ref wAE)])) := fun t k => k49 t (st50 t k)
      have k52 : own_Go p e below (s₁.setTop (entryFrame m #[(.int p0), (.int p1)] maxLocals)) (T50.setTop (mkF m 48 #[.val (.int p0), .val (.int p1), .val (.int (1 : Int32)), .val (.int (1 : Int32)), .val (.ref wAE), .val (.int (0 : Int32)), .unset, .unset, .unset, .unset, .unset] [(.ref wAE)])) := by
        intro t k
        refine k51 t ?_
        show Steps p.tables e below (T50.setTop (mkF m 36 #[.val (.int p0), .val (.int p1), .val (.int (1 : Int32)), .val (.int (1 : Int32)), .val (.ref wAE), .unset, .unset, .unset, .unset, .unset, .unset] [(.ref wAR), (.ref wAE)])) t
        refine Jvm.RoadKit.acmp (g := (mkF m 36 #[.val (.int p0), .val (.int p1), .val (.int (1 : Int32)), .val (.int (1 : Int32)), .val (.ref wAE), .unset, .unset, .unset, .unset, .unset, .unset] [(.ref wAR), (.ref wAE)])) X50 hx rfl rfl rfl (pc0 := 36) (pc' := 43) (same := false) rfl (hb hby at_36) rfl (decide_eq_false fun q => nAEAR (Value.ref.inj q)) (by decide) (by decide) ?_
        show Steps p.tables e below (T50.setTop (mkF m 43 #[.val (.int p0), .val (.int p1), .val (.int (1 : Int32)), .val (.int (1 : Int32)), .val (.ref wAE), .unset, .unset, .unset, .unset, .unset, .unset] [])) t
        refine XS.iconst X50.here hx rfl (hb hby at_43) ?_
        show Steps p.tables e below (T50.setTop (mkF m 44 #[.val (.int p0), .val (.int p1), .val (.int (1 : Int32)), .val (.int (1 : Int32)), .val (.ref wAE), .unset, .unset, .unset, .unset, .unset, .unset] [(.int (0 : Int32))])) t
        refine XS.istore X50.here hx rfl (hb hby at_44) rfl (l' := #[.val (.int p0), .val (.int p1), .val (.int (1 : Int32)), .val (.int (1 : Int32)), .val (.ref wAE), .val (.int (0 : Int32)), .unset, .unset, .unset, .unset, .unset]) rfl ?_
        show Steps p.tables e below (T50.setTop (mkF m 46 #[.val (.int p0), .val (.int p1), .val (.int (1 : Int32)), .val (.int (1 : Int32)), .val (.ref wAE), .val (.int (0 : Int32)), .unset, .unset, .unset, .unset, .unset] [])) t
        refine XS.aload X50.here hx rfl (hb hby at_46) rfl rfl ?_
        exact k
      obtain ⟨T53, X53, e53, st53⟩ := getS2 X50 hx hZ hown (host := "") (Or.inl (hw _ (List.mem_of_getElem? (i := 7) rfl))) Via.refl e50 S_AE (g := (mkF m 48 #[.val (.int p0), .val (.int p1), .val (.int (1 : Int32)), .val (.int (1 : Int32)), .val (.ref wAE), .val (.int (0 : Int32)), .unset, .unset, .unset, .unset, .unset] [(.ref wAE)])) rfl (hb hby at_48)
      have k54 : own_Go p e below (s₁.setTop (entryFrame m #[(.int p0), (.int p1)] maxLocals)) (T53.setTop (mkF m 51 #[.val (.int p0), .val (.int p1), .val (.int (1 : Int32)), .val (.int (1 : Int32)), .val (.ref wAE), .val (.int (0 : Int32)), .unset, .unset, .unset, .unset, .unset] [(.ref wAE), (.ref wAE)])) := fun t k => k52 t (st53 t k)
      have k55 : own_Go p e below (s₁.setTop (entryFrame m #[(.int p0), (.int p1)] maxLocals)) (T53.setTop (mkF m 63 #[.val (.int p0), .val (.int p1), .val (.int (1 : Int32)), .val (.int (1 : Int32)), .val (.ref wAE), .val (.int (0 : Int32)), .val (.int (1 : Int32)), .unset, .unset, .unset, .unset] [(.ref wAE)])) := by
        intro t k
        refine k54 t ?_
        show Steps p.tables e below (T53.setTop (mkF m 51 #[.val (.int p0), .val (.int p1), .val (.int (1 : Int32)), .val (.int (1 : Int32)), .val (.ref wAE), .val (.int (0 : Int32)), .unset, .unset, .unset, .unset, .unset] [(.ref wAE), (.ref wAE)])) t
        refine Jvm.RoadKit.acmp (g := (mkF m 51 #[.val (.int p0), .val (.int p1), .val (.int (1 : Int32)), .val (.int (1 : Int32)), .val (.ref wAE), .val (.int (0 : Int32)), .unset, .unset, .unset, .unset, .unset] [(.ref wAE), (.ref wAE)])) X53 hx rfl rfl rfl (pc0 := 51) (pc' := 54) (same := true) rfl (hb hby at_51) rfl (decide_eq_true rfl) (by decide) (by decide) ?_
        show Steps p.tables e below (T53.setTop (mkF m 54 #[.val (.int p0), .val (.int p1), .val (.int (1 : Int32)), .val (.int (1 : Int32)), .val (.ref wAE), .val (.int (0 : Int32)), .unset, .unset, .unset, .unset, .unset] [])) t
        refine XS.iconst X53.here hx rfl (hb hby at_54) ?_
        show Steps p.tables e below (T53.setTop (mkF m 55 #[.val (.int p0), .val (.int p1), .val (.int (1 : Int32)), .val (.int (1 : Int32)), .val (.ref wAE), .val (.int (0 : Int32)), .unset, .unset, .unset, .unset, .unset] [(.int (1 : Int32))])) t
        refine XS.goto X53.here hx rfl (pc0 := 55) (pc' := 59) rfl (hb hby at_55) (by decide) (by decide) ?_
        show Steps p.tables e below (T53.setTop (mkF m 59 #[.val (.int p0), .val (.int p1), .val (.int (1 : Int32)), .val (.int (1 : Int32)), .val (.ref wAE), .val (.int (0 : Int32)), .unset, .unset, .unset, .unset, .unset] [(.int (1 : Int32))])) t
        refine XS.istore X53.here hx rfl (hb hby at_59) rfl (l' := #[.val (.int p0), .val (.int p1), .val (.int (1 : Int32)), .val (.int (1 : Int32)), .val (.ref wAE), .val (.int (0 : Int32)), .val (.int (1 : Int32)), .unset, .unset, .unset, .unset]) rfl ?_
        show Steps p.tables e below (T53.setTop (mkF m 61 #[.val (.int p0), .val (.int p1), .val (.int (1 : Int32)), .val (.int (1 : Int32)), .val (.ref wAE), .val (.int (0 : Int32)), .val (.int (1 : Int32)), .unset, .unset, .unset, .unset] [])) t
        refine XS.aload X53.here hx rfl (hb hby at_61) rfl rfl ?_
        exact k
      obtain ⟨T56, X56, e56, st56⟩ := getS2 X53 hx hZ hown (host := "") (Or.inl (hw _ (List.mem_of_getElem? (i := 9) rfl))) Via.refl e53 S_AA (g := (mkF m 63 #[.val (.int p0), .val (.int p1), .val (.int (1 : Int32)), .val (.int (1 : Int32)), .val (.ref wAE), .val (.int (0 : Int32)), .val (.int (1 : Int32)), .unset, .unset, .unset, .unset] [(.ref wAE)])) rfl (hb hby at_63)
      have k57 : own_Go p e below (s₁.setTop (entryFrame m #[(.int p0), (.int p1)] maxLocals)) (T56.setTop (mkF m 66 #[.val (.int p0), .val (.int p1), .val (.int (1 : Int32)), .val (.int (1 : Int32)), .val (.ref wAE), .val (.int (0 : Int32)), .val (.int (1 : Int32)), .unset, .unset, .unset, .unset] [(.ref wAA), (.ref wAE)])) := fun t k => k55 t (st56 t k)
      have k58 : own_Go p e below (s₁.setTop (entryFrame m #[(.int p0), (.int p1)] maxLocals)) (T56.setTop (mkF m 143 #[.val (.int p0), .val (.int p1), .val (.int (1 : Int32)), .val (.int (1 : Int32)), .val (.ref wAE), .val (.int (0 : Int32)), .val (.int (1 : Int32)), .val (.int (0 : Int32)), .val (.int (0 : Int32)), .val (.int (1 : Int32)), .val (.int (0 : Int32))] [(.int (1 : Int32))])) := by
        intro t k
        refine k57 t ?_
        show Steps p.tables e below (T56.setTop (mkF m 66 #[.val (.int p0), .val (.int p1), .val (.int (1 : Int32)), .val (.int (1 : Int32)), .val (.ref wAE), .val (.int (0 : Int32)), .val (.int (1 : Int32)), .unset, .unset, .unset, .unset] [(.ref wAA), (.ref wAE)])) t
        refine Jvm.RoadKit.acmp (g := (mkF m 66 #[.val (.int p0), .val (.int p1), .val (.int (1 : Int32)), .val (.int (1 : Int32)), .val (.ref wAE), .val (.int (0 : Int32)), .val (.int (1 : Int32)), .unset, .unset, .unset, .unset] [(.ref wAA), (.ref wAE)])) X56 hx rfl rfl rfl (pc0 := 66) (pc' := 73) (same := false) rfl (hb hby at_66) rfl (decide_eq_false fun q => nAEAA (Value.ref.inj q)) (by decide) (by decide) ?_
        show Steps p.tables e below (T56.setTop (mkF m 73 #[.val (.int p0), .val (.int p1), .val (.int (1 : Int32)), .val (.int (1 : Int32)), .val (.ref wAE), .val (.int (0 : Int32)), .val (.int (1 : Int32)), .unset, .unset, .unset, .unset] [])) t
        refine XS.iconst X56.here hx rfl (hb hby at_73) ?_
        show Steps p.tables e below (T56.setTop (mkF m 74 #[.val (.int p0), .val (.int p1), .val (.int (1 : Int32)), .val (.int (1 : Int32)), .val (.ref wAE), .val (.int (0 : Int32)), .val (.int (1 : Int32)), .unset, .unset, .unset, .unset] [(.int (0 : Int32))])) t
        refine XS.istore X56.here hx rfl (hb hby at_74) rfl (l' := #[.val (.int p0), .val (.int p1), .val (.int (1 : Int32)), .val (.int (1 : Int32)), .val (.ref wAE), .val (.int (0 : Int32)), .val (.int (1 : Int32)), .val (.int (0 : Int32)), .unset, .unset, .unset]) rfl ?_
        show Steps p.tables e below (T56.setTop (mkF m 76 #[.val (.int p0), .val (.int p1), .val (.int (1 : Int32)), .val (.int (1 : Int32)), .val (.ref wAE), .val (.int (0 : Int32)), .val (.int (1 : Int32)), .val (.int (0 : Int32)), .unset, .unset, .unset] [])) t
        refine XS.iloadN X56.here hx rfl (hb hby at_76) rfl ?_
        show Steps p.tables e below (T56.setTop (mkF m 77 #[.val (.int p0), .val (.int p1), .val (.int (1 : Int32)), .val (.int (1 : Int32)), .val (.ref wAE), .val (.int (0 : Int32)), .val (.int (1 : Int32)), .val (.int (0 : Int32)), .unset, .unset, .unset] [(.int (1 : Int32))])) t
        refine XS.ifYes X56.here hx rfl (pc0 := 77) (pc' := 84) rfl (hb hby at_77) rfl ((if0 _ _).trans (feq (by decide : ¬ ((1 : Int32) = (0 : Int32)))).2) (by decide) (by decide) ?_
        show Steps p.tables e below (T56.setTop (mkF m 84 #[.val (.int p0), .val (.int p1), .val (.int (1 : Int32)), .val (.int (1 : Int32)), .val (.ref wAE), .val (.int (0 : Int32)), .val (.int (1 : Int32)), .val (.int (0 : Int32)), .unset, .unset, .unset] [])) t
        refine XS.iconst X56.here hx rfl (hb hby at_84) ?_
        show Steps p.tables e below (T56.setTop (mkF m 85 #[.val (.int p0), .val (.int p1), .val (.int (1 : Int32)), .val (.int (1 : Int32)), .val (.ref wAE), .val (.int (0 : Int32)), .val (.int (1 : Int32)), .val (.int (0 : Int32)), .unset, .unset, .unset] [(.int (0 : Int32))])) t
        refine XS.istore X56.here hx rfl (hb hby at_85) rfl (l' := #[.val (.int p0), .val (.int p1), .val (.int (1 : Int32)), .val (.int (1 : Int32)), .val (.ref wAE), .val (.int (0 : Int32)), .val (.int (1 : Int32)), .val (.int (0 : Int32)), .val (.int (0 : Int32)), .unset, .unset]) rfl ?_
        show Steps p.tables e below (T56.setTop (mkF m 87 #[.val (.int p0), .val (.int p1), .val (.int (1 : Int32)), .val (.int (1 : Int32)), .val (.ref wAE), .val (.int (0 : Int32)), .val (.int (1 : Int32)), .val (.int (0 : Int32)), .val (.int (0 : Int32)), .unset, .unset] [])) t
        refine XS.iloadN X56.here hx rfl (hb hby at_87) rfl ?_
        show Steps p.tables e below (T56.setTop (mkF m 88 #[.val (.int p0), .val (.int p1), .val (.int (1 : Int32)), .val (.int (1 : Int32)), .val (.ref wAE), .val (.int (0 : Int32)), .val (.int (1 : Int32)), .val (.int (0 : Int32)), .val (.int (0 : Int32)), .unset, .unset] [(.int (1 : Int32))])) t
        refine XS.ifNo X56.here hx rfl (hb hby at_88) rfl ((if0 _ _).trans (feq (by decide : ¬ ((1 : Int32) = (0 : Int32)))).1) ?_
        show Steps p.tables e below (T56.setTop (mkF m 91 #[.val (.int p0), .val (.int p1), .val (.int (1 : Int32)), .val (.int (1 : Int32)), .val (.ref wAE), .val (.int (0 : Int32)), .val (.int (1 : Int32)), .val (.int (0 : Int32)), .val (.int (0 : Int32)), .unset, .unset] [])) t
        refine XS.iloadN X56.here hx rfl (hb hby at_91) rfl ?_
        show Steps p.tables e below (T56.setTop (mkF m 92 #[.val (.int p0), .val (.int p1), .val (.int (1 : Int32)), .val (.int (1 : Int32)), .val (.ref wAE), .val (.int (0 : Int32)), .val (.int (1 : Int32)), .val (.int (0 : Int32)), .val (.int (0 : Int32)), .unset, .unset] [(.int (1 : Int32))])) t
        refine XS.ifNo X56.here hx rfl (hb hby at_92) rfl ((if0 _ _).trans (feq (by decide : ¬ ((1 : Int32) = (0 : Int32)))).1) ?_
        show Steps p.tables e below (T56.setTop (mkF m 95 #[.val (.int p0), .val (.int p1), .val (.int (1 : Int32)), .val (.int (1 : Int32)), .val (.ref wAE), .val (.int (0 : Int32)), .val (.int (1 : Int32)), .val (.int (0 : Int32)), .val (.int (0 : Int32)), .unset, .unset] [])) t
        refine XS.iconst X56.here hx rfl (hb hby at_95) ?_
        show Steps p.tables e below (T56.setTop (mkF m 96 #[.val (.int p0), .val (.int p1), .val (.int (1 : Int32)), .val (.int (1 : Int32)), .val (.ref wAE), .val (.int (0 : Int32)), .val (.int (1 : Int32)), .val (.int (0 : Int32)), .val (.int (0 : Int32)), .unset, .unset] [(.int (1 : Int32))])) t
        refine XS.goto X56.here hx rfl (pc0 := 96) (pc' := 100) rfl (hb hby at_96) (by decide) (by decide) ?_
        show Steps p.tables e below (T56.setTop (mkF m 100 #[.val (.int p0), .val (.int p1), .val (.int (1 : Int32)), .val (.int (1 : Int32)), .val (.ref wAE), .val (.int (0 : Int32)), .val (.int (1 : Int32)), .val (.int (0 : Int32)), .val (.int (0 : Int32)), .unset, .unset] [(.int (1 : Int32))])) t
        refine XS.istore X56.here hx rfl (hb hby at_100) rfl (l' := #[.val (.int p0), .val (.int p1), .val (.int (1 : Int32)), .val (.int (1 : Int32)), .val (.ref wAE), .val (.int (0 : Int32)), .val (.int (1 : Int32)), .val (.int (0 : Int32)), .val (.int (0 : Int32)), .val (.int (1 : Int32)), .unset]) rfl ?_
        show Steps p.tables e below (T56.setTop (mkF m 102 #[.val (.int p0), .val (.int p1), .val (.int (1 : Int32)), .val (.int (1 : Int32)), .val (.ref wAE), .val (.int (0 : Int32)), .val (.int (1 : Int32)), .val (.int (0 : Int32)), .val (.int (0 : Int32)), .val (.int (1 : Int32)), .unset] [])) t
        refine XS.iloadN X56.here hx rfl (hb hby at_102) rfl ?_
        show Steps p.tables e below (T56.setTop (mkF m 103 #[.val (.int p0), .val (.int p1), .val (.int (1 : Int32)), .val (.int (1 : Int32)), .val (.ref wAE), .val (.int (0 : Int32)), .val (.int (1 : Int32)), .val (.int (0 : Int32)), .val (.int (0 : Int32)), .val (.int (1 : Int32)), .unset] [(.int (1 : Int32))])) t
        refine XS.ifNo X56.here hx rfl (hb hby at_103) rfl ((if0 _ _).trans (feq (by decide : ¬ ((1 : Int32) = (0 : Int32)))).1) ?_
        show Steps p.tables e below (T56.setTop (mkF m 106 #[.val (.int p0), .val (.int p1), .val (.int (1 : Int32)), .val (.int (1 : Int32)), .val (.ref wAE), .val (.int (0 : Int32)), .val (.int (1 : Int32)), .val (.int (0 : Int32)), .val (.int (0 : Int32)), .val (.int (1 : Int32)), .unset] [])) t
        refine XS.iloadN X56.here hx rfl (hb hby at_106) rfl ?_
        show Steps p.tables e below (T56.setTop (mkF m 107 #[.val (.int p0), .val (.int p1), .val (.int (1 : Int32)), .val (.int (1 : Int32)), .val (.ref wAE), .val (.int (0 : Int32)), .val (.int (1 : Int32)), .val (.int (0 : Int32)), .val (.int (0 : Int32)), .val (.int (1 : Int32)), .unset] [(.int (1 : Int32))])) t
        refine XS.ifYes X56.here hx rfl (pc0 := 107) (pc' := 114) rfl (hb hby at_107) rfl ((if0 _ _).trans (feq (by decide : ¬ ((1 : Int32) = (0 : Int32)))).2) (by decide) (by decide) ?_
        show Steps p.tables e below (T56.setTop (mkF m 114 #[.val (.int p0), .val (.int p1), .val (.int (1 : Int32)), .val (.int (1 : Int32)), .val (.ref wAE), .val (.int (0 : Int32)), .val (.int (1 : Int32)), .val (.int (0 : Int32)), .val (.int (0 : Int32)), .val (.int (1 : Int32)), .unset] [])) t
        refine XS.iconst X56.here hx rfl (hb hby at_114) ?_
        show Steps p.tables e below (T56.setTop (mkF m 115 #[.val (.int p0), .val (.int p1), .val (.int (1 : Int32)), .val (.int (1 : Int32)), .val (.ref wAE), .val (.int (0 : Int32)), .val (.int (1 : Int32)), .val (.int (0 : Int32)), .val (.int (0 : Int32)), .val (.int (1 : Int32)), .unset] [(.int (0 : Int32))])) t
        refine XS.istore X56.here hx rfl (hb hby at_115) rfl (l' := #[.val (.int p0), .val (.int p1), .val (.int (1 : Int32)), .val (.int (1 : Int32)), .val (.ref wAE), .val (.int (0 : Int32)), .val (.int (1 : Int32)), .val (.int (0 : Int32)), .val (.int (0 : Int32)), .val (.int (1 : Int32)), .val (.int (0 : Int32))]) rfl ?_
        show Steps p.tables e below (T56.setTop (mkF m 117 #[.val (.int p0), .val (.int p1), .val (.int (1 : Int32)), .val (.int (1 : Int32)), .val (.ref wAE), .val (.int (0 : Int32)), .val (.int (1 : Int32)), .val (.int (0 : Int32)), .val (.int (0 : Int32)), .val (.int (1 : Int32)), .val (.int (0 : Int32))] [])) t
        refine XS.iload X56.here hx rfl (hb hby at_117) rfl ?_
        show Steps p.tables e below (T56.setTop (mkF m 119 #[.val (.int p0), .val (.int p1), .val (.int (1 : Int32)), .val (.int (1 : Int32)), .val (.ref wAE), .val (.int (0 : Int32)), .val (.int (1 : Int32)), .val (.int (0 : Int32)), .val (.int (0 : Int32)), .val (.int (1 : Int32)), .val (.int (0 : Int32))] [(.int (0 : Int32))])) t
        refine XS.iload X56.here hx rfl (hb hby at_119) rfl ?_
        show Steps p.tables e below (T56.setTop (mkF m 121 #[.val (.int p0), .val (.int p1), .val (.int (1 : Int32)), .val (.int (1 : Int32)), .val (.ref wAE), .val (.int (0 : Int32)), .val (.int (1 : Int32)), .val (.int (0 : Int32)), .val (.int (0 : Int32)), .val (.int (1 : Int32)), .val (.int (0 : Int32))] [(.int (0 : Int32)), (.int (0 : Int32))])) t
        refine XS.icmpNo X56.here hx rfl (hb hby at_121) rfl (teq (by decide : (0 : Int32) = (0 : Int32))).2 ?_
        show Steps p.tables e below (T56.setTop (mkF m 124 #[.val (.int p0), .val (.int p1), .val (.int (1 : Int32)), .val (.int (1 : Int32)), .val (.ref wAE), .val (.int (0 : Int32)), .val (.int (1 : Int32)), .val (.int (0 : Int32)), .val (.int (0 : Int32)), .val (.int (1 : Int32)), .val (.int (0 : Int32))] [])) t
        refine XS.iload X56.here hx rfl (hb hby at_124) rfl ?_
        show Steps p.tables e below (T56.setTop (mkF m 126 #[.val (.int p0), .val (.int p1), .val (.int (1 : Int32)), .val (.int (1 : Int32)), .val (.ref wAE), .val (.int (0 : Int32)), .val (.int (1 : Int32)), .val (.int (0 : Int32)), .val (.int (0 : Int32)), .val (.int (1 : Int32)), .val (.int (0 : Int32))] [(.int (1 : Int32))])) t
        refine XS.iload X56.here hx rfl (hb hby at_126) rfl ?_
        show Steps p.tables e below (T56.setTop (mkF m 128 #[.val (.int p0), .val (.int p1), .val (.int (1 : Int32)), .val (.int (1 : Int32)), .val (.ref wAE), .val (.int (0 : Int32)), .val (.int (1 : Int32)), .val (.int (0 : Int32)), .val (.int (0 : Int32)), .val (.int (1 : Int32)), .val (.int (0 : Int32))] [(.int (1 : Int32)), (.int (1 : Int32))])) t
        refine XS.icmpNo X56.here hx rfl (hb hby at_128) rfl (teq (by decide : (1 : Int32) = (1 : Int32))).2 ?_
        show Steps p.tables e below (T56.setTop (mkF m 131 #[.val (.int p0), .val (.int p1), .val (.int (1 : Int32)), .val (.int (1 : Int32)), .val (.ref wAE), .val (.int (0 : Int32)), .val (.int (1 : Int32)), .val (.int (0 : Int32)), .val (.int (0 : Int32)), .val (.int (1 : Int32)), .val (.int (0 : Int32))] [])) t
        refine XS.iload X56.here hx rfl (hb hby at_131) rfl ?_
        show Steps p.tables e below (T56.setTop (mkF m 133 #[.val (.int p0), .val (.int p1), .val (.int (1 : Int32)), .val (.int (1 : Int32)), .val (.ref wAE), .val (.int (0 : Int32)), .val (.int (1 : Int32)), .val (.int (0 : Int32)), .val (.int (0 : Int32)), .val (.int (1 : Int32)), .val (.int (0 : Int32))] [(.int (0 : Int32))])) t
        refine XS.iload X56.here hx rfl (hb hby at_133) rfl ?_
        show Steps p.tables e below (T56.setTop (mkF m 135 #[.val (.int p0), .val (.int p1), .val (.int (1 : Int32)), .val (.int (1 : Int32)), .val (.ref wAE), .val (.int (0 : Int32)), .val (.int (1 : Int32)), .val (.int (0 : Int32)), .val (.int (0 : Int32)), .val (.int (1 : Int32)), .val (.int (0 : Int32))] [(.int (0 : Int32)), (.int (0 : Int32))])) t
        refine XS.icmpNo X56.here hx rfl (hb hby at_135) rfl (teq (by decide : (0 : Int32) = (0 : Int32))).2 ?_
        show Steps p.tables e below (T56.setTop (mkF m 138 #[.val (.int p0), .val (.int p1), .val (.int (1 : Int32)), .val (.int (1 : Int32)), .val (.ref wAE), .val (.int (0 : Int32)), .val (.int (1 : Int32)), .val (.int (0 : Int32)), .val (.int (0 : Int32)), .val (.int (1 : Int32)), .val (.int (0 : Int32))] [])) t
        refine XS.iconst X56.here hx rfl (hb hby at_138) ?_
        show Steps p.tables e below (T56.setTop (mkF m 139 #[.val (.int p0), .val (.int p1), .val (.int (1 : Int32)), .val (.int (1 : Int32)), .val (.ref wAE), .val (.int (0 : Int32)), .val (.int (1 : Int32)), .val (.int (0 : Int32)), .val (.int (0 : Int32)), .val (.int (1 : Int32)), .val (.int (0 : Int32))] [(.int (1 : Int32))])) t
        refine XS.goto X56.here hx rfl (pc0 := 139) (pc' := 143) rfl (hb hby at_139) (by decide) (by decide) ?_
        exact k
      obtain ⟨fs, hr, hrun, hended, hW, hsame⟩ := X56.leave (v := some (.int (1 : Int32))) (fun h => by rw [Bd.returns] at h; cases h)
      refine ⟨_, _, k58 _ ?_, hrun, hended, _, _, rfl, ?_, ⟨_, rfl⟩, hW, hsame.mono (by decide) (by decide)⟩
      · exact retN X56 hx (t := .boolean) Bd.returns (by simp) (hb hby at_143) hr
      · show Q0 Z p0 p1 wAR wAE wAA h0 n0 _ T56.heap _
        rw [e56]
        exact ⟨congrArg (fun z => some (Value.int z)) (show f0 p0 p1 = (1 : Int32) from (by unfold f0; rw [if_neg hc3_2, if_neg hc15_32])).symm, N47⟩
theorem own_law (a b : Int32) : f0 a b = 1 := by
  unfold f0
  repeat (first | rfl | split)
theorem own_const {s : State} {args : Array Value} {C n d : String} {z : Int32} (hx : (Cond.exactly (.static C n d) C).before args s = true) (hz : (Cond.eq (.field (.static C n d) "java/lang/Enum" "ordinal" "I") (.int z)).before args s = true)
    (wi : (Cond.initialized C).before args s = true) (wl : (Cond.laysStatic C n d).before args s = true) : ∃ a, Sta s s.heap C n d (.ref a) ∧ Fld s s.heap a "java/lang/Enum" "ordinal" "I" (.int z) := by
  obtain ⟨a3, c3, cell3, k3, e1, -⟩ := Cond.exactly_spec hx
  have e2 := Cond.eq_int hz rfl
  exact ⟨a3, Sta.start e1 (Or.inr ⟨wi, wl⟩), Fld.start ((fld_at e1).symm.trans e2)⟩

set_option maxRecDepth 65536 in
set_option maxHeartbeats 40000000 in
theorem comes_1 {Post : Tables → Env → Array Value → State → Outcome → State → Prop} (hpost : ∀ tb e args s v u, (limb_1_1.after args s (.returned v) u = true ∧ limb_1_2.after args s (.returned v) u = true ∧ True) → FrameEnd s (.returned v) u (Jvm.fieldLocs frame_1_writes args s ++ Jvm.arrayLocs frame_1_arrays args s ++ Jvm.staticLocs frame_1_statics s) 0 0 → Post tb e args s (.returned v) u) :
    ArmFor flags0 classFile x code maxLocals ret World_1 tables_1 room_1 Calls_1 rest_1 Pre_1 Post := by
  intro l hfl _ _ p e ha hc hk s m args below hf hA hF happ hP
  obtain ⟨hcalls, hrest, hpre⟩ := hP
  obtain ⟨-, -, -, hnamed, -, -, -, hat⟩ := (Spec.applies_iff hf).mp happ
  obtain ⟨hg, hn⟩ := and_e (Cond.before_iff.mp (show (Jvm.Cond.and given_1 narrow_1).before args s = true from hpre))
  obtain ⟨u1, u2⟩ := and_e hg
  obtain ⟨u3, u4⟩ := and_e u2
  obtain ⟨w0, w1, rfl⟩ : ∃ w0 w1 : Value, args = #[w0, w1] := by
    have hs : args.size = 2 := by simpa [Cond.value, given_1] using u1
    obtain ⟨L⟩ := args
    match L, hs with
    | [w0, w1], _ => exact ⟨w0, w1, rfl⟩
  have hw := fun d (hd : d ∈ tables_1) => atoms_spec (ws := Jvm.Cond.code x code maxLocals ret :: tables_1) hat d (List.mem_cons_of_mem _ hd)
  have hfit : Fit s := fun {y c} hc i hi => by
    obtain ⟨ha, rfl⟩ := Array.getElem?_eq_some_iff.mp hc
    have q := List.all_eq_true.mp ((Array.all_eq_true_iff_forall_mem.mp hF) _ (Array.getElem_mem ha)) i (List.mem_range.mpr hi)
    simpa [Array.getElem?_eq_getElem hi] using q
  obtain ⟨i0, ei0⟩ := is_v u3
  obtain rfl : w0 = (.int i0) := Option.some.inj ei0
  obtain ⟨i1, ei1⟩ := is_v u4
  obtain rfl : w1 = (.int i1) := Option.some.inj ei1
  obtain ⟨y1, y2⟩ := and_e hn
  obtain ⟨y3, y4⟩ := and_e y2
  obtain ⟨y5, y6⟩ := and_e y4
  obtain ⟨y7, y8⟩ := and_e y6
  obtain ⟨y9, y10⟩ := and_e y8
  obtain ⟨wAR, S_AR, O_AR⟩ := own_const (Cond.before_iff.mpr y1) (Cond.before_iff.mpr y5) (hw _ (List.mem_of_getElem? (i := 2) rfl)) (hw _ (List.mem_of_getElem? (i := 5) rfl))
  obtain ⟨wAE, S_AE, O_AE⟩ := own_const (Cond.before_iff.mpr y3) (Cond.before_iff.mpr y7) (hw _ (List.mem_of_getElem? (i := 2) rfl)) (hw _ (List.mem_of_getElem? (i := 8) rfl))
  obtain ⟨wAA, S_AA, O_AA⟩ := own_const (Cond.before_iff.mpr y9) (Cond.before_iff.mpr y10) (hw _ (List.mem_of_getElem? (i := 2) rfl)) (hw _ (List.mem_of_getElem? (i := 10) rfl))
  obtain ⟨n, o, h1, h2, h3, v, L, rfl, ⟨hv, N⟩, hq⟩ := rm0 l s _ hw tables_1 i0 i1 wAR wAE wAA s.heap s.heap.size (Nat.le_refl _) S_AR S_AE S_AA (O_AR.ne O_AE (by decide)) (O_AR.ne O_AA (by decide)) (O_AE.ne O_AR (by decide)) (O_AE.ne O_AA (by decide)) (O_AA.ne O_AR (by decide)) (O_AA.ne O_AE (by decide)) p e ha hc hk s m _ below hf ((Spec.applies_iff_loose hf).mp happ).1 ⟨rfl, State.Warmed39.refl s, rfl⟩ trivial
  rw [own_law i0 i1] at hv
  subst hv
  refine ⟨n, _, h1, h2, h3, hpost _ _ _ _ _ _ ⟨Cond.after_iff.mpr rfl, Cond.after_iff.mpr (eq_i res_at (Term.int_eval (1)) rfl), trivial⟩ ⟨hq.1, hq.2.1, (hq.2.2.sift fun y hy => Or.inr (N y hy)).mono (by decide) (by decide)⟩⟩
theorem main_1_1 : Claimed_1_1 := comes_1 fun _ _ _ _ _ _ h hF => ⟨h.1, hF⟩
theorem main_1_2 : Claimed_1_2 := comes_1 fun _ _ _ _ _ _ h hF => ⟨h.2.1, hF⟩
end Jvm.Pilot.@@N@@
namespace Jvm.Pilot.@@N@@
open Jvm Jvm.ClassFile Sem Op Lib Jvm.Free Jvm.Stand Jvm.Pilot.@@N@@.Jvm.D
/-! MADE BY PROGRAM (witnessworld.py) out of the Statement's table words and the real class files: 12 classes; the members and pool entries that the words name. The judged class is class 1, her method 1. -/
namespace start1
open Jvm.ClassFile
def u (s : String) : CpInfo := .utf8 (stringToUtf16 s)
/-- a pool by its gaps: so many unusable entries, then the entry; so many at the end -/
def gap : Nat → List CpInfo → List CpInfo
  | 0, r => r
  | n + 1, r => .unusable :: gap n r
def poolList (es : List (Nat × CpInfo)) (last : Nat) : List CpInfo := es.foldr (fun e r => gap e.1 (e.2 :: r)) (gap last [])
def pool (es : List (Nat × CpInfo)) (last : Nat) : Array CpInfo := ⟨poolList es last⟩
def fileOf (pool : Array CpInfo) (this : Nat) (attrs : Array Attribute := #[]) (ms : Array MethodInfo := #[]) (fl : Nat := 33) (sup : Nat := 0) (ifs : Array Nat := #[]) (fds : Array FieldInfo := #[]) : ClassFile where
  minorVersion := 0
  majorVersion := 65
  constantPool := pool
  accessFlags := fl
  thisClass := this
  superClass := sup
  interfaces := ifs
  fields := fds
  methods := ms
  attributes := attrs
def plain (name : String) (sup : Option ClassId) : Class where
  name := name
  kind := .ordinary
  loader := none
  accessFlags := 33
  super := sup
  interfaces := #[]
  cf := none
  fields := #[]
  methods := #[]
  instanceTypes := #[]
  staticTypes := #[]
  resolved := #[]
  callSites := []
  init := .initialized
  statics := none
  mirror := none

def pool0 : Array CpInfo := pool [(5, u "<init>"), (0, u "()V"), (1, .class_ 10), (1, u "java/lang/Object")] 113

def k0m0 : Method := { name := "<init>", desc := "()V", sig := { parameters := [], returnType := none }, accessFlags := 1, code := none }
/-- java/lang/Object -/
def k0 : Class := { plain "java/lang/Object" none with
  accessFlags := 33
  interfaces := #[]
  cf := some (fileOf pool0 8 #[] #[{ accessFlags := 1, nameIndex := 5, descriptorIndex := 6, attributes := #[] }] 33 0 #[] #[])
  fields := #[]
  methods := #[k0m0]
  instanceTypes := #[]
  staticTypes := #[]
  resolved := Array.replicate 124 none
  statics := none }

def pool1 : Array CpInfo := pool [(2, .class_ 4), (1, u "java/lang/Object"), (0, u "<init>"), (0, u "()V"), (0, .methodref 8 9), (0, .class_ 10), (0, .nameAndType 11 12), (0, u "com/example/dosewire/dosewire/rules/AckCode"), (0, u "of"), (0, u "(ZZ)Lcom/example/dosewire/dosewire/rules/AckCode;"), (0, .fieldref 8 14), (0, .nameAndType 15 16), (0, u "AR"), (0, u "Lcom/example/dosewire/dosewire/rules/AckCode;"), (0, .fieldref 8 18), (0, .nameAndType 19 16), (0, u "AE"), (0, .fieldref 8 21), (0, .nameAndType 22 16), (0, u "AA"), (0, .class_ 24), (0, u "com/example/dosewire/dosewire/rules/AckCodeOfPinLaw"), (2, u "law"), (0, u "(II)Z")] 3

def k1m0 : Method := { name := "<init>", desc := "()V", sig := { parameters := [], returnType := none }, accessFlags := 1, code := none }
def k1c1 : Code := { maxStack := 2, maxLocals := 11, code := code, exceptionTable := #[], attributes := #[] }
def k1m1 : Method := { name := "law", desc := "(II)Z", sig := { parameters := [.int, .int], returnType := some .boolean }, accessFlags := 9, code := some k1c1 }
/-- com/example/dosewire/dosewire/rules/AckCodeOfPinLaw -/
def k1 : Class := { plain "com/example/dosewire/dosewire/rules/AckCodeOfPinLaw" (some 0) with
  accessFlags := 49
  interfaces := #[]
  cf := some (fileOf pool1 23 #[] #[{ accessFlags := 1, nameIndex := 5, descriptorIndex := 6, attributes := #[] }, { accessFlags := 9, nameIndex := 27, descriptorIndex := 28, attributes := #[] }] 49 2 #[] #[])
  fields := #[]
  methods := #[k1m0, k1m1]
  instanceTypes := #[]
  staticTypes := #[]
  resolved := Array.replicate 32 none
  statics := none }

def pool2 : Array CpInfo := pool [(1, .class_ 2), (0, u "java/lang/constant/Constable"), (0, .class_ 4), (0, u "java/lang/Object")] 6

/-- java/lang/constant/Constable -/
def k2 : Class := { plain "java/lang/constant/Constable" (some 0) with
  accessFlags := 1537
  interfaces := #[]
  cf := some (fileOf pool2 1 #[] #[] 1537 3 #[] #[])
  fields := #[]
  methods := #[]
  instanceTypes := #[]
  staticTypes := #[]
  resolved := Array.replicate 11 none
  statics := none }

def pool3 : Array CpInfo := pool [(1, .class_ 2), (0, u "java/lang/Comparable"), (0, .class_ 4), (0, u "java/lang/Object")] 7

/-- java/lang/Comparable -/
def k3 : Class := { plain "java/lang/Comparable" (some 0) with
  accessFlags := 1537
  interfaces := #[]
  cf := some (fileOf pool3 1 #[] #[] 1537 3 #[] #[])
  fields := #[]
  methods := #[]
  instanceTypes := #[]
  staticTypes := #[]
  resolved := Array.replicate 12 none
  statics := none }

def pool4 : Array CpInfo := pool [(1, .class_ 2), (0, u "java/io/Serializable"), (0, .class_ 4), (0, u "java/lang/Object")] 2

/-- java/io/Serializable -/
def k4 : Class := { plain "java/io/Serializable" (some 0) with
  accessFlags := 1537
  interfaces := #[]
  cf := some (fileOf pool4 1 #[] #[] 1537 3 #[] #[])
  fields := #[]
  methods := #[]
  instanceTypes := #[]
  staticTypes := #[]
  resolved := Array.replicate 7 none
  statics := none }

def pool5 : Array CpInfo := pool [(2, .class_ 4), (1, u "java/lang/Enum"), (0, u "name"), (0, u "Ljava/lang/String;"), (2, u "ordinal"), (0, u "I"), (1, .class_ 14), (1, u "java/lang/Object"), (4, u "hash"), (86, .class_ 108), (1, u "java/lang/Enum$EnumDesc"), (2, .class_ 112), (0, u "java/lang/constant/Constable"), (0, .class_ 114), (0, u "java/lang/Comparable"), (0, .class_ 116), (0, u "java/io/Serializable")] 87

/-- java/lang/Enum -/
def k5 : Class := { plain "java/lang/Enum" (some 0) with
  accessFlags := 1057
  interfaces := #[2, 3, 4]
  cf := some (fileOf pool5 2 #[.nestMembers #[106]] #[] 1057 12 #[111, 113, 115] #[{ accessFlags := 18, nameIndex := 5, descriptorIndex := 6, attributes := #[] }, { accessFlags := 18, nameIndex := 9, descriptorIndex := 10, attributes := #[] }, { accessFlags := 2, nameIndex := 19, descriptorIndex := 10, attributes := #[] }])
  fields := #[{ name := "name", type := (.object "java/lang/String"), accessFlags := 18, slot := 0, constantValue := 0 }, { name := "ordinal", type := .int, accessFlags := 18, slot := 1, constantValue := 0 }, { name := "hash", type := .int, accessFlags := 2, slot := 2, constantValue := 0 }]
  methods := #[]
  instanceTypes := #[(.object "java/lang/String"), .int, .int]
  staticTypes := #[]
  resolved := Array.replicate 204 none
  statics := none }

def pool6 : Array CpInfo := pool [(1, .class_ 2), (0, u "com/example/dosewire/dosewire/rules/AckCode"), (0, .fieldref 1 4), (0, .nameAndType 5 6), (0, u "AA"), (0, u "Lcom/example/dosewire/dosewire/rules/AckCode;"), (0, .fieldref 1 8), (0, .nameAndType 9 6), (0, u "AE"), (0, .fieldref 1 11), (0, .nameAndType 12 6), (0, u "AR"), (2, u "$VALUES"), (0, u "[Lcom/example/dosewire/dosewire/rules/AckCode;"), (6, .class_ 25), (1, u "java/lang/Enum"), (21, u "of"), (0, u "(ZZ)Lcom/example/dosewire/dosewire/rules/AckCode;")] 5

def k6c0 : Code := { maxStack := 1, maxLocals := 2, code := prog_72_method_4_code, exceptionTable := #[], attributes := #[] }
def k6m0 : Method := { name := "of", desc := "(ZZ)Lcom/example/dosewire/dosewire/rules/AckCode;", sig := { parameters := [.boolean, .boolean], returnType := some (.object "com/example/dosewire/dosewire/rules/AckCode") }, accessFlags := 9, code := some k6c0 }
/-- com/example/dosewire/dosewire/rules/AckCode -/
def k6 : Class := { plain "com/example/dosewire/dosewire/rules/AckCode" (some 5) with
  accessFlags := 16433
  interfaces := #[]
  cf := some (fileOf pool6 1 #[] #[{ accessFlags := 9, nameIndex := 47, descriptorIndex := 48, attributes := #[] }] 16433 23 #[] #[{ accessFlags := 16409, nameIndex := 5, descriptorIndex := 6, attributes := #[] }, { accessFlags := 16409, nameIndex := 9, descriptorIndex := 6, attributes := #[] }, { accessFlags := 16409, nameIndex := 12, descriptorIndex := 6, attributes := #[] }, { accessFlags := 4122, nameIndex := 15, descriptorIndex := 16, attributes := #[] }])
  fields := #[{ name := "AA", type := (.object "com/example/dosewire/dosewire/rules/AckCode"), accessFlags := 16409, slot := 0, constantValue := 0 }, { name := "AE", type := (.object "com/example/dosewire/dosewire/rules/AckCode"), accessFlags := 16409, slot := 1, constantValue := 0 }, { name := "AR", type := (.object "com/example/dosewire/dosewire/rules/AckCode"), accessFlags := 16409, slot := 2, constantValue := 0 }, { name := "$VALUES", type := (.array (.object "com/example/dosewire/dosewire/rules/AckCode")), accessFlags := 4122, slot := 3, constantValue := 0 }]
  methods := #[k6m0]
  instanceTypes := #[(.object "java/lang/String"), .int, .int]
  staticTypes := #[(.object "com/example/dosewire/dosewire/rules/AckCode"), (.object "com/example/dosewire/dosewire/rules/AckCode"), (.object "com/example/dosewire/dosewire/rules/AckCode"), (.array (.object "com/example/dosewire/dosewire/rules/AckCode"))]
  resolved := Array.replicate 54 none
  statics := some 0 }

def pool7 : Array CpInfo := pool [(1, u "java/lang/Cloneable"), (0, .class_ 1), (0, u "java/lang/Object"), (0, .class_ 3)] 3

/-- java/lang/Cloneable -/
def k7 : Class := { plain "java/lang/Cloneable" (some 0) with
  accessFlags := 1537
  interfaces := #[]
  cf := some (fileOf pool7 2 #[] #[] 1537 4 #[] #[])
  fields := #[]
  methods := #[]
  instanceTypes := #[]
  staticTypes := #[]
  resolved := Array.replicate 8 none
  statics := none }

/-- the primitive byte -/
def k8 : Class := { plain "byte" none with kind := .primitive 'B', accessFlags := 0x411 }
/-- [B -/
def k9 : Class := { plain "[B" (some 0) with kind := .array 8 .byte, interfaces := #[7, 4], accessFlags := 1041 }

/-- the primitive int -/
def k10 : Class := { plain "int" none with kind := .primitive 'I', accessFlags := 0x411 }
/-- [I -/
def k11 : Class := { plain "[I" (some 0) with kind := .array 10 .int, interfaces := #[7, 4], accessFlags := 1041 }

def heap : Heap := #[{ cls := 6, slots := #[.ref 3, .ref 2, .ref 1, .null], vm := .statics 6 },
  { cls := 6, slots := #[.null, .int 2, .int 0], vm := .none },
  { cls := 6, slots := #[.null, .int 1, .int 0], vm := .none },
  { cls := 6, slots := #[.null, .int 0, .int 0], vm := .none }]
def classes : Array Class := #[k0, k1, k2, k3, k4, k5, k6, k7, k8, k9, k10, k11]
def interned : List (Array UInt16 × Addr) := []
def slotsUsed : Nat := 13
def theMethod : MethodId := ⟨1, 1⟩
def args0 : Array Value := #[.int 5, .int 7]
def aboutOver (below : List Frame) : State where
  vm := { classes := classes, interned := interned.toArray }
  heap := heap
  slotsUsed := slotsUsed
  threads := #[{ frames := .invoking theMethod args0 :: below }]
def below0 : List Frame := [.native { method := ⟨0, 0⟩, args := #[] }]
def about1 : State := aboutOver below0
def p0 : Program := .bare "" "" ""
def e0 : Env := launch0.env 0 0 0
theorem w_frames : about1.frames = Frame.invoking theMethod args0 :: below0 := rfl
set_option maxRecDepth 65536 in
theorem w_args : argsFit about1.vm theMethod args0 = true := by decide +kernel
set_option maxRecDepth 65536 in
theorem w_heap : heapFits about1 = true := by decide +kernel
set_option maxRecDepth 65536 in
theorem w_runnable : about1.curStatus? = some .runnable := by decide +kernel
set_option maxRecDepth 65536 in
theorem w_alone : about1.alone = true := by decide +kernel
set_option maxRecDepth 65536 in
theorem w_named : about1.methodNamed? x = some theMethod := by decide +kernel
set_option maxRecDepth 65536 in
theorem w_hears : about1.hears theMethod below0 = true := by decide +kernel
set_option maxRecDepth 65536 in
theorem w_ripe : about1.ripe theMethod args0 below0 = true := by decide +kernel
theorem w_running : about1.status = .running := rfl
set_option maxRecDepth 65536 in
theorem w_room : about1.hasRoom e0.platform room_1 = true :=
  launch0.hasRoom_least _ room_1 (by decide +kernel) (by decide +kernel) (by decide +kernel) (by decide +kernel) (by decide +kernel) (by decide +kernel)
theorem allAtoms_all (ts : List Jvm.Cond) (a : Array Jvm.Value) (st : Jvm.State) : (allAtoms ts).before a st = ts.all (fun c => c.before a st) := by
  induction ts with
  | nil => rfl
  | cons c t ih =>
    show (Jvm.Cond.and c (allAtoms t)).before a st = _
    rw [Jvm.Cond.before_and, ih, List.all_cons]
def words1 : List Jvm.Cond := Jvm.Cond.code x code maxLocals ret :: tables_1
/-- a 'code' word, met by the world's own term for the bytes: nothing is compared byte by byte -/
theorem code_word {y : MethodName} {bytes : ByteArray} {mx : Nat} {rt : Option FieldType} {a : Array Value} {s : State} {m : MethodId} {meth : Method} {c : Code} (h1 : s.methodNamed? y = some m) (h2 : s.vm.method? m = some meth) (h3 : meth.code = some c) (h4 : c.code = bytes)
    (h5 : (c.maxLocals == mx && c.exceptionTable.isEmpty && decide (c.maxStack ≤ mostOperands) && decide (meth.sig.returnType = rt) && !meth.locks && decide (parseMethodDescriptor y.desc = some meth.sig)) = true) : (Jvm.Cond.code y bytes mx rt).before a s = true := by
  simp only [Bool.and_eq_true, beq_iff_eq, Bool.not_eq_true', decide_eq_true_eq] at h5
  obtain ⟨⟨⟨⟨⟨g1, g2⟩, g3⟩, g4⟩, g5⟩, g6⟩ := h5
  simp [Cond.before, Cond.holds, Cond.value, h1, h2, h3, h4, g1, g2, g3, g4, g5, g6]
def isCode : Jvm.Cond → Bool
  | .code _ _ _ _ => true
  | _ => false
theorem all_split {L : List Jvm.Cond} {P : Jvm.Cond → Bool} (h1 : L.all (fun c => isCode c || P c) = true) (h2 : ∀ c ∈ L.filter isCode, P c = true) : L.all P = true := by
  refine List.all_eq_true.mpr fun c hc => ?_
  have h := List.all_eq_true.mp h1 c hc
  rcases Bool.eq_false_or_eq_true (isCode c) with hi | hi
  · exact h2 c (List.mem_filter.mpr ⟨hc, hi⟩)
  · simpa [hi] using h
set_option maxRecDepth 65536 in
theorem w_c0 : (Jvm.Cond.code x code maxLocals ret).before args0 about1 = true := code_word (m := ⟨1, 1⟩) (meth := k1m1) (c := k1c1) (by decide +kernel) rfl rfl rfl (by decide +kernel)
set_option maxRecDepth 65536 in
theorem w_c1 : (Jvm.Cond.code ({ cls := "com/example/dosewire/dosewire/rules/AckCode", name := "of", desc := "(ZZ)Lcom/example/dosewire/dosewire/rules/AckCode;" } : Jvm.MethodName) prog_72_method_4_code (2 : Nat) (Option.some (Jvm.ClassFile.FieldType.object "com/example/dosewire/dosewire/rules/AckCode"))).before args0 about1 = true := code_word (m := ⟨6, 0⟩) (meth := k6m0) (c := k6c0) (by decide +kernel) rfl rfl rfl (by decide +kernel)
def codes1 : List Jvm.Cond := [Jvm.Cond.code x code maxLocals ret, Jvm.Cond.code ({ cls := "com/example/dosewire/dosewire/rules/AckCode", name := "of", desc := "(ZZ)Lcom/example/dosewire/dosewire/rules/AckCode;" } : Jvm.MethodName) prog_72_method_4_code (2 : Nat) (Option.some (Jvm.ClassFile.FieldType.object "com/example/dosewire/dosewire/rules/AckCode"))]
set_option maxRecDepth 65536 in
theorem codes_eq : words1.filter isCode = codes1 := rfl
theorem w_codes : ∀ c ∈ words1.filter isCode, c.before args0 about1 = true := by
  rw [codes_eq]
  intro c hc
  simp only [codes1, List.mem_cons, List.not_mem_nil, or_false] at hc
  rcases hc with rfl | rfl
  · exact w_c0
  · exact w_c1
set_option maxRecDepth 65536 in
theorem w_t1 : words1.all (fun c => isCode c || c.before args0 about1) = true := by decide +kernel
theorem w_tables : (allAtoms (Jvm.Cond.code x code maxLocals ret :: tables_1)).before args0 about1 = true := by
  rw [allAtoms_all]
  show words1.all (fun c => c.before args0 about1) = true
  refine all_split ?_ w_codes
  rw [w_t1]
set_option maxRecDepth 65536 in
theorem w_case : (Jvm.Cond.and given_1 narrow_1).before args0 about1 = true := by decide +kernel
theorem w_applies : (headSpec (Jvm.Cond.code x code maxLocals ret :: tables_1) room_1).applies x e0.platform about1 = true :=
  (Spec.applies_iff w_frames).mpr ⟨w_running, w_runnable, w_alone, w_named, w_hears, w_ripe, w_room, w_tables⟩
theorem atStart : AtStart classFile x code maxLocals ret World_1 tables_1 room_1 Calls_1 rest_1 Pre_1 launch0 p0 e0 about1 theMethod args0 below0 :=
  ⟨lists_1, trivial, launch0.admits_env _ _ _, launch0.least_env, fairChoices_fair.cas, fairChoices_fair.clock, w_frames, w_args, w_heap, w_applies, trivial, trivial, w_case⟩
end start1
theorem witness_1 : WitnessClaimed_1 := ⟨start1.p0, start1.e0, start1.about1, start1.theMethod, start1.args0, start1.below0, start1.atStart⟩
end Jvm.Pilot.@@N@@

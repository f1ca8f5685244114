import JvmDerived
import JvmDerived.Pilot.@@N@@Statement
import JvmDerived.Pilot.@@N@@Code
set_option linter.unusedVariables false
set_option linter.unusedSimpArgs false
namespace Jvm.RoadKit
open Sem ClassFile Op Lib Jvm.Stand Jvm.Free Jvm.LawKit
section New
variable {p : Program} {l : Launch} {e : Env} {R : Room} {s : State} {m : MethodId} {args : Array Value} {below : List Frame} {meth : Method} {c : Code} {T : State} {locs : List Loc} {cells slots : Nat}
theorem retI (X : Stand p l e R s m args below meth c T locs cells slots) (hx : p.tables.exec = Jvm.exec) {pc : Nat} {Ls : Array Slot} {z : Int32} {rest : List Value} (hret : meth.sig.returnType = some .int) (hd : decode c.code pc = .ok (.ireturn, 1)) {fs : List Frame}
    (hl : ∀ (f : JFrame) (acts : List Action), f.method = m → f.locked = none → f.entered = [] → (doReturn e (T.setTop f) acts (some (.int z))).1 = T.setFrames fs) : Steps p.tables e below (T.setTop (mkF m pc Ls (.int z :: rest))) (T.setFrames fs) := by
  have hm' : T.vm.method? m = some meth := X.method'
  have hn : narrow .int (.int z) = .int z := rfl
  show Steps p.tables e below (T.setTop { method := m, pc := pc, locals := Ls, stack := _ :: rest, locked := none }) _
  jvm_step X.here [X.here.top, hx, hd, hm', hret, hn]
  first | (intro acts; rw [hl _ acts rfl rfl rfl]) | rw [hl _ _ rfl rfl rfl]
  exact Steps.refl _
end New
end Jvm.RoadKit
@@BLOCK:NumsL.lean.txt@@
namespace Jvm.Pilot.@@N@@
open Jvm Jvm.ClassFile Sem Op Lib Jvm.Free Jvm.Stand Jvm.LawKit Jvm.RoadKit Bundle Jvm.Pilot.@@N@@.Jvm.D
/-- the run comes from A to B -/
abbrev own_Go (p : Program) (e : Env) (below : List Frame) (A B : State) : Prop := ∀ t, Steps p.tables e below B t → Steps p.tables e below A t
theorem pn_0 : plainName "com/example/kontaris/kontaris/GermanBankCodes" = true := by first | (simp [plainName, overriddenIn]; done) | decide +kernel
theorem d1_0 : decode prog_45_method_5_code 0 = .ok (.iload_n 0, 1) := by decide +kernel
theorem d1_1 : decode prog_45_method_5_code 1 = .ok (.bipush 57, 2) := by decide +kernel
theorem d1_3 : decode prog_45_method_5_code 3 = .ok (.if_icmp .gt 10, 3) := by decide +kernel
theorem d1_6 : decode prog_45_method_5_code 6 = .ok (.iload_n 0, 1) := by decide +kernel
theorem d1_7 : decode prog_45_method_5_code 7 = .ok (.bipush 48, 2) := by decide +kernel
theorem d1_9 : decode prog_45_method_5_code 9 = .ok (.isub, 1) := by decide +kernel
theorem d1_10 : decode prog_45_method_5_code 10 = .ok (.goto 10, 3) := by decide +kernel
theorem d1_13 : decode prog_45_method_5_code 13 = .ok (.iload_n 0, 1) := by decide +kernel
theorem d1_14 : decode prog_45_method_5_code 14 = .ok (.bipush 65, 2) := by decide +kernel
theorem d1_16 : decode prog_45_method_5_code 16 = .ok (.isub, 1) := by decide +kernel
theorem d1_17 : decode prog_45_method_5_code 17 = .ok (.bipush 10, 2) := by decide +kernel
theorem d1_19 : decode prog_45_method_5_code 19 = .ok (.iadd, 1) := by decide +kernel
theorem d1_20 : decode prog_45_method_5_code 20 = .ok (.istore_n 2, 1) := by decide +kernel
theorem d1_21 : decode prog_45_method_5_code 21 = .ok (.iload_n 2, 1) := by decide +kernel
theorem d1_22 : decode prog_45_method_5_code 22 = .ok (.bipush 10, 2) := by decide +kernel
theorem d1_24 : decode prog_45_method_5_code 24 = .ok (.imul, 1) := by decide +kernel
theorem d1_25 : decode prog_45_method_5_code 25 = .ok (.iload_n 1, 1) := by decide +kernel
theorem d1_26 : decode prog_45_method_5_code 26 = .ok (.iadd, 1) := by decide +kernel
theorem d1_27 : decode prog_45_method_5_code 27 = .ok (.bipush 48, 2) := by decide +kernel
theorem d1_29 : decode prog_45_method_5_code 29 = .ok (.isub, 1) := by decide +kernel
theorem d1_30 : decode prog_45_method_5_code 30 = .ok (.ireturn, 1) := by decide +kernel
theorem ef_1 (m : MethodId) (p0 : Int32) (p1 : Int32) : entryFrame m #[(.int p0), (.int p1)] 3 = mkF m 0 #[.val (.int p0), .val (.int p1), .unset] [] := by first | (simp [entryFrame, mkF, argsToLocals, Value.category]; done) | rfl
def v1_20 (p0 : Int32) : Int32 := ((p0 - (65 : Int32)) + (10 : Int32))
def f1 (p0 : Int32) (p1 : Int32) : Int32 := (if (57 : Int32) < p0 then ((((v1_20 p0) * (10 : Int32)) + p1) - (48 : Int32)) else ((((p0 - (48 : Int32)) * (10 : Int32)) + p1) - (48 : Int32)))
def Q1 (Z : State) (p0 : Int32) (p1 : Int32) (h0 : Heap) (n0 : Nat) (v : Option Value) (h : Heap) (L : List Loc) : Prop := v = some (.int (f1 p0 p1)) ∧ Fr n0 L ∧ h = h0
set_option maxRecDepth 65536 in
set_option maxHeartbeats 40000000 in
theorem rm1 (l : Launch) (Z : State) (a0 : Array Value) (hw : ∀ d ∈ tables_1, d.before a0 Z = true) (ws : List Jvm.Cond) (p0 : Int32) (p1 : Int32) (h0 : Heap) (n0 : Nat) (Z0 : n0 ≤ h0.size) :
    MetFree l (⟨"com/example/kontaris/kontaris/GermanBankCodes", "methodIndex", "(CC)I"⟩ : MethodName) (head1 (Jvm.Cond.code (⟨"com/example/kontaris/kontaris/GermanBankCodes", "methodIndex", "(CC)I"⟩ : MethodName) prog_45_method_5_code 3 (some .int) :: ws) ({ frames := 0, cells := 0, slots := 0, locals := 0 } : Room)) (fun a U => a = #[(.int p0), (.int p1)] ∧ Z.Warmed39 U.vm ∧ U.heap = h0) (fun _ _ _ _ _ => True) (fun _ U o U' => ∃ v L, o = .returned v ∧ Q1 Z p0 p1 h0 n0 v U'.heap L ∧ FrameEnd U o U' L ({ frames := 0, cells := 0, slots := 0, locals := 0 } : Room).cells ({ frames := 0, cells := 0, slots := 0, locals := 0 } : Room).slots) := by
  refine MetFree.of_bodySF (plainFor_of_name pn_0) hisR ?_
  intro p e s m args below meth c s₁ Bd hml0 hP hK
  obtain ⟨rfl, hZ, hh⟩ := hP
  have hx := Bd.exec
  have hby := Bd.bytes
  have hml : c.maxLocals = 3 := hml0
  have hown : s.vm.findClass "com/example/kontaris/kontaris/GermanBankCodes" = some m.cls := findClass_of_methodNamed Bd.named
  have hnm := (name_of_methodNamed Bd.named Bd.method).1
  have X0 : Stand p l e ({ frames := 0, cells := 0, slots := 0, locals := 0 } : Room) s m #[(.int p0), (.int p1)] below meth c s₁ [] 0 0 := Stand.of_body Bd
  have e0 : s₁.heap = h0 := by rw [← hh, Bd.state]; rfl
  have N0 := Fr.nil n0
  have pre0 : own_Go p e below (s₁.setTop (entryFrame m #[(.int p0), (.int p1)] 3)) (s₁.setTop (mkF m 0 #[.val (.int p0), .val (.int p1), .unset] [])) := fun t k => castTop (ef_1 m p0 p1) k
  have k1 : own_Go p e below (s₁.setTop (entryFrame m #[(.int p0), (.int p1)] 3)) (s₁.setTop (mkF m 3 #[.val (.int p0), .val (.int p1), .unset] [(.int (57 : Int32)), (.int p0)])) := by
    intro t k
    refine pre0 t ?_
    show Steps p.tables e below (s₁.setTop (mkF m 0 #[.val (.int p0), .val (.int p1), .unset] [])) t
    refine XS.iloadN X0.here hx rfl (hb hby d1_0) rfl ?_
    show Steps p.tables e below (s₁.setTop (mkF m 1 #[.val (.int p0), .val (.int p1), .unset] [(.int p0)])) t
    refine XS.bipush X0.here hx rfl (hb hby d1_1) ?_
    exact k
  by_cases hc3_2 : (57 : Int32) < p0
  · have k3 : own_Go p e below (s₁.setTop (entryFrame m #[(.int p0), (.int p1)] 3)) (s₁.setTop (mkF m 30 #[.val (.int p0), .val (.int p1), .val (.int (v1_20 p0))] [(.int ((((v1_20 p0) * (10 : Int32)) + p1) - (48 : Int32)))])) := by
      intro t k
      refine k1 t ?_
      show Steps p.tables e below (s₁.setTop (mkF m 3 #[.val (.int p0), .val (.int p1), .unset] [(.int (57 : Int32)), (.int p0)])) t
      refine XS.icmpYes X0.here hx rfl (pc0 := 3) (pc' := 13) rfl (hb hby d1_3) rfl (tlt hc3_2).2.2.1 (by decide) (by decide) ?_
      show Steps p.tables e below (s₁.setTop (mkF m 13 #[.val (.int p0), .val (.int p1), .unset] [])) t
      refine XS.iloadN X0.here hx rfl (hb hby d1_13) rfl ?_
      show Steps p.tables e below (s₁.setTop (mkF m 14 #[.val (.int p0), .val (.int p1), .unset] [(.int p0)])) t
      refine XS.bipush X0.here hx rfl (hb hby d1_14) ?_
      show Steps p.tables e below (s₁.setTop (mkF m 16 #[.val (.int p0), .val (.int p1), .unset] [(.int (65 : Int32)), (.int p0)])) t
      refine XS.isub X0.here hx rfl (hb hby d1_16) rfl ?_
      show Steps p.tables e below (s₁.setTop (mkF m 17 #[.val (.int p0), .val (.int p1), .unset] [(.int (p0 - (65 : Int32)))])) t
      refine XS.bipush X0.here hx rfl (hb hby d1_17) ?_
      show Steps p.tables e below (s₁.setTop (mkF m 19 #[.val (.int p0), .val (.int p1), .unset] [(.int (10 : Int32)), (.int (p0 - (65 : Int32)))])) t
      refine XS.iadd X0.here hx rfl (hb hby d1_19) rfl ?_
      show Steps p.tables e below (s₁.setTop (mkF m 20 #[.val (.int p0), .val (.int p1), .unset] [(.int ((p0 - (65 : Int32)) + (10 : Int32)))])) t
      refine XS.istoreN X0.here hx rfl (hb hby d1_20) rfl (l' := #[.val (.int p0), .val (.int p1), .val (.int (v1_20 p0))]) rfl ?_
      show Steps p.tables e below (s₁.setTop (mkF m 21 #[.val (.int p0), .val (.int p1), .val (.int (v1_20 p0))] [])) t
      refine XS.iloadN X0.here hx rfl (hb hby d1_21) rfl ?_
      show Steps p.tables e below (s₁.setTop (mkF m 22 #[.val (.int p0), .val (.int p1), .val (.int (v1_20 p0))] [(.int (v1_20 p0))])) t
      refine XS.bipush X0.here hx rfl (hb hby d1_22) ?_
      show Steps p.tables e below (s₁.setTop (mkF m 24 #[.val (.int p0), .val (.int p1), .val (.int (v1_20 p0))] [(.int (10 : Int32)), (.int (v1_20 p0))])) t
      refine XS.imul X0.here hx rfl (hb hby d1_24) rfl ?_
      show Steps p.tables e below (s₁.setTop (mkF m 25 #[.val (.int p0), .val (.int p1), .val (.int (v1_20 p0))] [(.int ((v1_20 p0) * (10 : Int32)))])) t
      refine XS.iloadN X0.here hx rfl (hb hby d1_25) rfl ?_
      show Steps p.tables e below (s₁.setTop (mkF m 26 #[.val (.int p0), .val (.int p1), .val (.int (v1_20 p0))] [(.int p1), (.int ((v1_20 p0) * (10 : Int32)))])) t
      refine XS.iadd X0.here hx rfl (hb hby d1_26) rfl ?_
      show Steps p.tables e below (s₁.setTop (mkF m 27 #[.val (.int p0), .val (.int p1), .val (.int (v1_20 p0))] [(.int (((v1_20 p0) * (10 : Int32)) + p1))])) t
      refine XS.bipush X0.here hx rfl (hb hby d1_27) ?_
      show Steps p.tables e below (s₁.setTop (mkF m 29 #[.val (.int p0), .val (.int p1), .val (.int (v1_20 p0))] [(.int (48 : Int32)), (.int (((v1_20 p0) * (10 : Int32)) + p1))])) t
      refine XS.isub X0.here hx rfl (hb hby d1_29) rfl ?_
      exact k
    obtain ⟨fs, hr, hrun, hended, hW, hsame⟩ := X0.leave (v := some (.int ((((v1_20 p0) * (10 : Int32)) + p1) - (48 : Int32)))) (fun h => by rw [Bd.returns] at h; cases h)
    refine ⟨_, _, k3 _ ?_, hrun, hended, _, _, rfl, ?_, ⟨_, rfl⟩, hW, hsame.mono (by decide) (by decide)⟩
    · exact retI X0 hx Bd.returns (hb hby d1_30) hr
    · show Q1 Z p0 p1 h0 n0 _ s₁.heap _
      rw [e0]
      exact ⟨congrArg (fun z => some (Value.int z)) (show f1 p0 p1 = ((((v1_20 p0) * (10 : Int32)) + p1) - (48 : Int32)) from (by unfold f1; rw [if_pos hc3_2])).symm, N0, rfl⟩
  · have k4 : own_Go p e below (s₁.setTop (entryFrame m #[(.int p0), (.int p1)] 3)) (s₁.setTop (mkF m 30 #[.val (.int p0), .val (.int p1), .val (.int (p0 - (48 : Int32)))] [(.int ((((p0 - (48 : Int32)) * (10 : Int32)) + p1) - (48 : Int32)))])) := by
      intro t k
      refine k1 t ?_
      show Steps p.tables e below (s₁.setTop (mkF m 3 #[.val (.int p0), .val (.int p1), .unset] [(.int (57 : Int32)), (.int p0)])) t
      refine XS.icmpNo X0.here hx rfl (hb hby d1_3) rfl (flt hc3_2).2.2.1 ?_
      show Steps p.tables e below (s₁.setTop (mkF m 6 #[.val (.int p0), .val (.int p1), .unset] [])) t
      refine XS.iloadN X0.here hx rfl (hb hby d1_6) rfl ?_
      show Steps p.tables e below (s₁.setTop (mkF m 7 #[.val (.int p0), .val (.int p1), .unset] [(.int p0)])) t
      refine XS.bipush X0.here hx rfl (hb hby d1_7) ?_
      show Steps p.tables e below (s₁.setTop (mkF m 9 #[.val (.int p0), .val (.int p1), .unset] [(.int (48 : Int32)), (.int p0)])) t
      refine XS.isub X0.here hx rfl (hb hby d1_9) rfl ?_
      show Steps p.tables e below (s₁.setTop (mkF m 10 #[.val (.int p0), .val (.int p1), .unset] [(.int (p0 - (48 : Int32)))])) t
      refine XS.goto X0.here hx rfl (pc0 := 10) (pc' := 20) rfl (hb hby d1_10) (by decide) (by decide) ?_
      show Steps p.tables e below (s₁.setTop (mkF m 20 #[.val (.int p0), .val (.int p1), .unset] [(.int (p0 - (48 : Int32)))])) t
      refine XS.istoreN X0.here hx rfl (hb hby d1_20) rfl (l' := #[.val (.int p0), .val (.int p1), .val (.int (p0 - (48 : Int32)))]) rfl ?_
      show Steps p.tables e below (s₁.setTop (mkF m 21 #[.val (.int p0), .val (.int p1), .val (.int (p0 - (48 : Int32)))] [])) t
      refine XS.iloadN X0.here hx rfl (hb hby d1_21) rfl ?_
      show Steps p.tables e below (s₁.setTop (mkF m 22 #[.val (.int p0), .val (.int p1), .val (.int (p0 - (48 : Int32)))] [(.int (p0 - (48 : Int32)))])) t
      refine XS.bipush X0.here hx rfl (hb hby d1_22) ?_
      show Steps p.tables e below (s₁.setTop (mkF m 24 #[.val (.int p0), .val (.int p1), .val (.int (p0 - (48 : Int32)))] [(.int (10 : Int32)), (.int (p0 - (48 : Int32)))])) t
      refine XS.imul X0.here hx rfl (hb hby d1_24) rfl ?_
      show Steps p.tables e below (s₁.setTop (mkF m 25 #[.val (.int p0), .val (.int p1), .val (.int (p0 - (48 : Int32)))] [(.int ((p0 - (48 : Int32)) * (10 : Int32)))])) t
      refine XS.iloadN X0.here hx rfl (hb hby d1_25) rfl ?_
      show Steps p.tables e below (s₁.setTop (mkF m 26 #[.val (.int p0), .val (.int p1), .val (.int (p0 - (48 : Int32)))] [(.int p1), (.int ((p0 - (48 : Int32)) * (10 : Int32)))])) t
      refine XS.iadd X0.here hx rfl (hb hby d1_26) rfl ?_
      show Steps p.tables e below (s₁.setTop (mkF m 27 #[.val (.int p0), .val (.int p1), .val (.int (p0 - (48 : Int32)))] [(.int (((p0 - (48 : Int32)) * (10 : Int32)) + p1))])) t
      refine XS.bipush X0.here hx rfl (hb hby d1_27) ?_
      show Steps p.tables e below (s₁.setTop (mkF m 29 #[.val (.int p0), .val (.int p1), .val (.int (p0 - (48 : Int32)))] [(.int (48 : Int32)), (.int (((p0 - (48 : Int32)) * (10 : Int32)) + p1))])) t
      refine XS.isub X0.here hx rfl (hb hby d1_29) rfl ?_
      exact k
    obtain ⟨fs, hr, hrun, hended, hW, hsame⟩ := X0.leave (v := some (.int ((((p0 - (48 : Int32)) * (10 : Int32)) + p1) - (48 : Int32)))) (fun h => by rw [Bd.returns] at h; cases h)
    refine ⟨_, _, k4 _ ?_, hrun, hended, _, _, rfl, ?_, ⟨_, rfl⟩, hW, hsame.mono (by decide) (by decide)⟩
    · exact retI X0 hx Bd.returns (hb hby d1_30) hr
    · show Q1 Z p0 p1 h0 n0 _ s₁.heap _
      rw [e0]
      exact ⟨congrArg (fun z => some (Value.int z)) (show f1 p0 p1 = ((((p0 - (48 : Int32)) * (10 : Int32)) + p1) - (48 : Int32)) from (by unfold f1; rw [if_neg hc3_2])).symm, N0, rfl⟩
theorem pn_1 : plainName "com/example/kontaris/kontaris/GermanBankCodesMethodIndexPinLaw" = true := by first | (simp [plainName, overriddenIn]; done) | decide +kernel
theorem pd_0 : parseMethodDescriptor "(CC)I" = some ⟨[.char, .char], some .int⟩ := by decide +kernel
theorem ef_0 (m : MethodId) (p0 : Int32) (p1 : Int32) : entryFrame m #[(.int p0), (.int p1)] maxLocals = mkF m 0 #[.val (.int p0), .val (.int p1), .unset, .unset, .unset, .unset, .unset] [] := by first | (simp [entryFrame, mkF, argsToLocals, Value.category, maxLocals]; done) | rfl
def v0_7 (p0 : Int32) : Int32 := ((p0 &&& (2147483647 : Int32)) % (36 : Int32))
def v0_15 (p1 : Int32) : Int32 := ((p1 &&& (2147483647 : Int32)) % (10 : Int32))
def m0_38_s0 (p0 : Int32) : Int32 := (if (v0_7 p0) < (10 : Int32) then (((48 : Int32) + (v0_7 p0)).toUInt32.toUInt16.toUInt32.toInt32) else (((65 : Int32) + ((v0_7 p0) - (10 : Int32))).toUInt32.toUInt16.toUInt32.toInt32))
def v0_45 (p1 : Int32) : Int32 := (((48 : Int32) + (v0_15 p1)).toUInt32.toUInt16.toUInt32.toInt32)
def v0_54 (p0 : Int32) (p1 : Int32) : Int32 := (f1 (m0_38_s0 p0) (v0_45 p1))
def f0 (p0 : Int32) (p1 : Int32) : Int32 := (if (v0_54 p0 p1) = (((v0_7 p0) * (10 : Int32)) + (v0_15 p1)) then (if (v0_54 p0 p1) < (0 : Int32) then (0 : Int32) else (if (v0_54 p0 p1) < (360 : Int32) then (1 : Int32) else (0 : Int32))) else (0 : Int32))
def Q0 (Z : State) (p0 : Int32) (p1 : Int32) (h0 : Heap) (n0 : Nat) (v : Option Value) (h : Heap) (L : List Loc) : Prop := v = some (.int (f0 p0 p1)) ∧ Fr n0 L
set_option maxRecDepth 65536 in
set_option maxHeartbeats 40000000 in
theorem rm0 (l : Launch) (Z : State) (a0 : Array Value) (hw : ∀ d ∈ tables_1, d.before a0 Z = true) (ws : List Jvm.Cond) (p0 : Int32) (p1 : Int32) (h0 : Heap) (n0 : Nat) (Z0 : n0 ≤ h0.size) :
    MetFree l x (head1 (Jvm.Cond.code x code maxLocals ret :: ws) room_1) (fun a U => a = #[(.int p0), (.int p1)] ∧ Z.Warmed39 U.vm ∧ U.heap = h0) (fun _ _ _ _ _ => True) (fun _ U o U' => ∃ v L, o = .returned v ∧ Q0 Z p0 p1 h0 n0 v U'.heap L ∧ FrameEnd U o U' L room_1.cells room_1.slots) := by
  refine MetFree.of_bodySF (plainFor_of_name pn_1) hisR ?_
  intro p e s m args below meth c s₁ Bd hml0 hP hK
  obtain ⟨rfl, hZ, hh⟩ := hP
  have hx := Bd.exec
  have hby := Bd.bytes
  have hml : c.maxLocals = 7 := hml0
  have hown : s.vm.findClass "com/example/kontaris/kontaris/GermanBankCodesMethodIndexPinLaw" = some m.cls := findClass_of_methodNamed Bd.named
  have hnm := (name_of_methodNamed Bd.named Bd.method).1
  have X0 : Stand p l e room_1 s m #[(.int p0), (.int p1)] below meth c s₁ [] 0 0 := Stand.of_body Bd
  have e0 : s₁.heap = h0 := by rw [← hh, Bd.state]; rfl
  have N0 := Fr.nil n0
  have pre0 : own_Go p e below (s₁.setTop (entryFrame m #[(.int p0), (.int p1)] maxLocals)) (s₁.setTop (mkF m 0 #[.val (.int p0), .val (.int p1), .unset, .unset, .unset, .unset, .unset] [])) := fun t k => castTop (ef_0 m p0 p1) k
  have k1 : own_Go p e below (s₁.setTop (entryFrame m #[(.int p0), (.int p1)] maxLocals)) (s₁.setTop (mkF m 19 #[.val (.int p0), .val (.int p1), .val (.int (v0_7 p0)), .val (.int (v0_15 p1)), .unset, .unset, .unset] [(.int (10 : Int32)), (.int (v0_7 p0))])) := by
    intro t k
    refine pre0 t ?_
    show Steps p.tables e below (s₁.setTop (mkF m 0 #[.val (.int p0), .val (.int p1), .unset, .unset, .unset, .unset, .unset] [])) t
    refine XS.iloadN X0.here hx rfl (hb hby at_0) rfl ?_
    show Steps p.tables e below (s₁.setTop (mkF m 1 #[.val (.int p0), .val (.int p1), .unset, .unset, .unset, .unset, .unset] [(.int p0)])) t
    refine X0.ldcInt hx hown (mvT hZ (hw _ (List.mem_of_getElem? (i := 0) rfl))) (g := (mkF m 1 #[.val (.int p0), .val (.int p1), .unset, .unset, .unset, .unset, .unset] [(.int p0)])) rfl (hb hby at_1) _ ?_
    show Steps p.tables e below (s₁.setTop (mkF m 3 #[.val (.int p0), .val (.int p1), .unset, .unset, .unset, .unset, .unset] [(.int (2147483647 : Int32)), (.int p0)])) t
    refine XS.iand X0.here hx rfl (hb hby at_3) rfl ?_
    show Steps p.tables e below (s₁.setTop (mkF m 4 #[.val (.int p0), .val (.int p1), .unset, .unset, .unset, .unset, .unset] [(.int (p0 &&& (2147483647 : Int32)))])) t
    refine XS.bipush X0.here hx rfl (hb hby at_4) ?_
    show Steps p.tables e below (s₁.setTop (mkF m 6 #[.val (.int p0), .val (.int p1), .unset, .unset, .unset, .unset, .unset] [(.int (36 : Int32)), (.int (p0 &&& (2147483647 : Int32)))])) t
    refine iremM X0 hx rfl (hb hby at_6) rfl (by decide) ?_
    show Steps p.tables e below (s₁.setTop (mkF m 7 #[.val (.int p0), .val (.int p1), .unset, .unset, .unset, .unset, .unset] [(.int ((p0 &&& (2147483647 : Int32)) % (36 : Int32)))])) t
    refine XS.istoreN X0.here hx rfl (hb hby at_7) rfl (l' := #[.val (.int p0), .val (.int p1), .val (.int (v0_7 p0)), .unset, .unset, .unset, .unset]) rfl ?_
    show Steps p.tables e below (s₁.setTop (mkF m 8 #[.val (.int p0), .val (.int p1), .val (.int (v0_7 p0)), .unset, .unset, .unset, .unset] [])) t
    refine XS.iloadN X0.here hx rfl (hb hby at_8) rfl ?_
    show Steps p.tables e below (s₁.setTop (mkF m 9 #[.val (.int p0), .val (.int p1), .val (.int (v0_7 p0)), .unset, .unset, .unset, .unset] [(.int p1)])) t
    refine X0.ldcInt hx hown (mvT hZ (hw _ (List.mem_of_getElem? (i := 0) rfl))) (g := (mkF m 9 #[.val (.int p0), .val (.int p1), .val (.int (v0_7 p0)), .unset, .unset, .unset, .unset] [(.int p1)])) rfl (hb hby at_9) _ ?_
    show Steps p.tables e below (s₁.setTop (mkF m 11 #[.val (.int p0), .val (.int p1), .val (.int (v0_7 p0)), .unset, .unset, .unset, .unset] [(.int (2147483647 : Int32)), (.int p1)])) t
    refine XS.iand X0.here hx rfl (hb hby at_11) rfl ?_
    show Steps p.tables e below (s₁.setTop (mkF m 12 #[.val (.int p0), .val (.int p1), .val (.int (v0_7 p0)), .unset, .unset, .unset, .unset] [(.int (p1 &&& (2147483647 : Int32)))])) t
    refine XS.bipush X0.here hx rfl (hb hby at_12) ?_
    show Steps p.tables e below (s₁.setTop (mkF m 14 #[.val (.int p0), .val (.int p1), .val (.int (v0_7 p0)), .unset, .unset, .unset, .unset] [(.int (10 : Int32)), (.int (p1 &&& (2147483647 : Int32)))])) t
    refine iremM X0 hx rfl (hb hby at_14) rfl (by decide) ?_
    show Steps p.tables e below (s₁.setTop (mkF m 15 #[.val (.int p0), .val (.int p1), .val (.int (v0_7 p0)), .unset, .unset, .unset, .unset] [(.int ((p1 &&& (2147483647 : Int32)) % (10 : Int32)))])) t
    refine XS.istoreN X0.here hx rfl (hb hby at_15) rfl (l' := #[.val (.int p0), .val (.int p1), .val (.int (v0_7 p0)), .val (.int (v0_15 p1)), .unset, .unset, .unset]) rfl ?_
    show Steps p.tables e below (s₁.setTop (mkF m 16 #[.val (.int p0), .val (.int p1), .val (.int (v0_7 p0)), .val (.int (v0_15 p1)), .unset, .unset, .unset] [])) t
    refine XS.iloadN X0.here hx rfl (hb hby at_16) rfl ?_
    show Steps p.tables e below (s₁.setTop (mkF m 17 #[.val (.int p0), .val (.int p1), .val (.int (v0_7 p0)), .val (.int (v0_15 p1)), .unset, .unset, .unset] [(.int (v0_7 p0))])) t
    refine XS.bipush X0.here hx rfl (hb hby at_17) ?_
    exact k
  have k2 : own_Go p e below (s₁.setTop (entryFrame m #[(.int p0), (.int p1)] maxLocals)) (s₁.setTop (mkF m 38 #[.val (.int p0), .val (.int p1), .val (.int (v0_7 p0)), .val (.int (v0_15 p1)), .unset, .unset, .unset] [(.int (m0_38_s0 p0))])) := by
    by_cases hc19_3 : (v0_7 p0) < (10 : Int32)
    · have k4 : own_Go p e below (s₁.setTop (entryFrame m #[(.int p0), (.int p1)] maxLocals)) (s₁.setTop (mkF m 38 #[.val (.int p0), .val (.int p1), .val (.int (v0_7 p0)), .val (.int (v0_15 p1)), .unset, .unset, .unset] [(.int (((48 : Int32) + (v0_7 p0)).toUInt32.toUInt16.toUInt32.toInt32))])) := by
        intro t k
        refine k1 t ?_
        show Steps p.tables e below (s₁.setTop (mkF m 19 #[.val (.int p0), .val (.int p1), .val (.int (v0_7 p0)), .val (.int (v0_15 p1)), .unset, .unset, .unset] [(.int (10 : Int32)), (.int (v0_7 p0))])) t
        refine XS.icmpNo X0.here hx rfl (hb hby at_19) rfl (tlt hc19_3).2.1 ?_
        show Steps p.tables e below (s₁.setTop (mkF m 22 #[.val (.int p0), .val (.int p1), .val (.int (v0_7 p0)), .val (.int (v0_15 p1)), .unset, .unset, .unset] [])) t
        refine XS.bipush X0.here hx rfl (hb hby at_22) ?_
        show Steps p.tables e below (s₁.setTop (mkF m 24 #[.val (.int p0), .val (.int p1), .val (.int (v0_7 p0)), .val (.int (v0_15 p1)), .unset, .unset, .unset] [(.int (48 : Int32))])) t
        refine XS.iloadN X0.here hx rfl (hb hby at_24) rfl ?_
        show Steps p.tables e below (s₁.setTop (mkF m 25 #[.val (.int p0), .val (.int p1), .val (.int (v0_7 p0)), .val (.int (v0_15 p1)), .unset, .unset, .unset] [(.int (v0_7 p0)), (.int (48 : Int32))])) t
        refine XS.iadd X0.here hx rfl (hb hby at_25) rfl ?_
        show Steps p.tables e below (s₁.setTop (mkF m 26 #[.val (.int p0), .val (.int p1), .val (.int (v0_7 p0)), .val (.int (v0_15 p1)), .unset, .unset, .unset] [(.int ((48 : Int32) + (v0_7 p0)))])) t
        refine XS.i2c X0.here hx rfl (hb hby at_26) rfl ?_
        show Steps p.tables e below (s₁.setTop (mkF m 27 #[.val (.int p0), .val (.int p1), .val (.int (v0_7 p0)), .val (.int (v0_15 p1)), .unset, .unset, .unset] [(.int (((48 : Int32) + (v0_7 p0)).toUInt32.toUInt16.toUInt32.toInt32))])) t
        refine XS.goto X0.here hx rfl (pc0 := 27) (pc' := 38) rfl (hb hby at_27) (by decide) (by decide) ?_
        exact k
      exact (by rw [show (m0_38_s0 p0) = (((48 : Int32) + (v0_7 p0)).toUInt32.toUInt16.toUInt32.toInt32) from (by unfold m0_38_s0; rw [if_pos hc19_3])]; exact k4)
    · have k5 : own_Go p e below (s₁.setTop (entryFrame m #[(.int p0), (.int p1)] maxLocals)) (s₁.setTop (mkF m 38 #[.val (.int p0), .val (.int p1), .val (.int (v0_7 p0)), .val (.int (v0_15 p1)), .unset, .unset, .unset] [(.int (((65 : Int32) + ((v0_7 p0) - (10 : Int32))).toUInt32.toUInt16.toUInt32.toInt32))])) := by
        intro t k
        refine k1 t ?_
        show Steps p.tables e below (s₁.setTop (mkF m 19 #[.val (.int p0), .val (.int p1), .val (.int (v0_7 p0)), .val (.int (v0_15 p1)), .unset, .unset, .unset] [(.int (10 : Int32)), (.int (v0_7 p0))])) t
        refine XS.icmpYes X0.here hx rfl (pc0 := 19) (pc' := 30) rfl (hb hby at_19) rfl (flt hc19_3).2.1 (by decide) (by decide) ?_
        show Steps p.tables e below (s₁.setTop (mkF m 30 #[.val (.int p0), .val (.int p1), .val (.int (v0_7 p0)), .val (.int (v0_15 p1)), .unset, .unset, .unset] [])) t
        refine XS.bipush X0.here hx rfl (hb hby at_30) ?_
        show Steps p.tables e below (s₁.setTop (mkF m 32 #[.val (.int p0), .val (.int p1), .val (.int (v0_7 p0)), .val (.int (v0_15 p1)), .unset, .unset, .unset] [(.int (65 : Int32))])) t
        refine XS.iloadN X0.here hx rfl (hb hby at_32) rfl ?_
        show Steps p.tables e below (s₁.setTop (mkF m 33 #[.val (.int p0), .val (.int p1), .val (.int (v0_7 p0)), .val (.int (v0_15 p1)), .unset, .unset, .unset] [(.int (v0_7 p0)), (.int (65 : Int32))])) t
        refine XS.bipush X0.here hx rfl (hb hby at_33) ?_
        show Steps p.tables e below (s₁.setTop (mkF m 35 #[.val (.int p0), .val (.int p1), .val (.int (v0_7 p0)), .val (.int (v0_15 p1)), .unset, .unset, .unset] [(.int (10 : Int32)), (.int (v0_7 p0)), (.int (65 : Int32))])) t
        refine XS.isub X0.here hx rfl (hb hby at_35) rfl ?_
        show Steps p.tables e below (s₁.setTop (mkF m 36 #[.val (.int p0), .val (.int p1), .val (.int (v0_7 p0)), .val (.int (v0_15 p1)), .unset, .unset, .unset] [(.int ((v0_7 p0) - (10 : Int32))), (.int (65 : Int32))])) t
        refine XS.iadd X0.here hx rfl (hb hby at_36) rfl ?_
        show Steps p.tables e below (s₁.setTop (mkF m 37 #[.val (.int p0), .val (.int p1), .val (.int (v0_7 p0)), .val (.int (v0_15 p1)), .unset, .unset, .unset] [(.int ((65 : Int32) + ((v0_7 p0) - (10 : Int32))))])) t
        refine XS.i2c X0.here hx rfl (hb hby at_37) rfl ?_
        exact k
      exact (by rw [show (m0_38_s0 p0) = (((65 : Int32) + ((v0_7 p0) - (10 : Int32))).toUInt32.toUInt16.toUInt32.toInt32) from (by unfold m0_38_s0; rw [if_neg hc19_3])]; exact k5)
  have k6 : own_Go p e below (s₁.setTop (entryFrame m #[(.int p0), (.int p1)] maxLocals)) (s₁.setTop (mkF m 51 #[.val (.int p0), .val (.int p1), .val (.int (v0_7 p0)), .val (.int (v0_15 p1)), .val (.int (m0_38_s0 p0)), .val (.int (v0_45 p1)), .unset] [(.int (v0_45 p1)), (.int (m0_38_s0 p0))])) := by
    intro t k
    refine k2 t ?_
    show Steps p.tables e below (s₁.setTop (mkF m 38 #[.val (.int p0), .val (.int p1), .val (.int (v0_7 p0)), .val (.int (v0_15 p1)), .unset, .unset, .unset] [(.int (m0_38_s0 p0))])) t
    refine XS.istore X0.here hx rfl (hb hby at_38) rfl (l' := #[.val (.int p0), .val (.int p1), .val (.int (v0_7 p0)), .val (.int (v0_15 p1)), .val (.int (m0_38_s0 p0)), .unset, .unset]) rfl ?_
    show Steps p.tables e below (s₁.setTop (mkF m 40 #[.val (.int p0), .val (.int p1), .val (.int (v0_7 p0)), .val (.int (v0_15 p1)), .val (.int (m0_38_s0 p0)), .unset, .unset] [])) t
    refine XS.bipush X0.here hx rfl (hb hby at_40) ?_
    show Steps p.tables e below (s₁.setTop (mkF m 42 #[.val (.int p0), .val (.int p1), .val (.int (v0_7 p0)), .val (.int (v0_15 p1)), .val (.int (m0_38_s0 p0)), .unset, .unset] [(.int (48 : Int32))])) t
    refine XS.iloadN X0.here hx rfl (hb hby at_42) rfl ?_
    show Steps p.tables e below (s₁.setTop (mkF m 43 #[.val (.int p0), .val (.int p1), .val (.int (v0_7 p0)), .val (.int (v0_15 p1)), .val (.int (m0_38_s0 p0)), .unset, .unset] [(.int (v0_15 p1)), (.int (48 : Int32))])) t
    refine XS.iadd X0.here hx rfl (hb hby at_43) rfl ?_
    show Steps p.tables e below (s₁.setTop (mkF m 44 #[.val (.int p0), .val (.int p1), .val (.int (v0_7 p0)), .val (.int (v0_15 p1)), .val (.int (m0_38_s0 p0)), .unset, .unset] [(.int ((48 : Int32) + (v0_15 p1)))])) t
    refine XS.i2c X0.here hx rfl (hb hby at_44) rfl ?_
    show Steps p.tables e below (s₁.setTop (mkF m 45 #[.val (.int p0), .val (.int p1), .val (.int (v0_7 p0)), .val (.int (v0_15 p1)), .val (.int (m0_38_s0 p0)), .unset, .unset] [(.int (((48 : Int32) + (v0_15 p1)).toUInt32.toUInt16.toUInt32.toInt32))])) t
    refine XS.istore X0.here hx rfl (hb hby at_45) rfl (l' := #[.val (.int p0), .val (.int p1), .val (.int (v0_7 p0)), .val (.int (v0_15 p1)), .val (.int (m0_38_s0 p0)), .val (.int (v0_45 p1)), .unset]) rfl ?_
    show Steps p.tables e below (s₁.setTop (mkF m 47 #[.val (.int p0), .val (.int p1), .val (.int (v0_7 p0)), .val (.int (v0_15 p1)), .val (.int (m0_38_s0 p0)), .val (.int (v0_45 p1)), .unset] [])) t
    refine XS.iload X0.here hx rfl (hb hby at_47) rfl ?_
    show Steps p.tables e below (s₁.setTop (mkF m 49 #[.val (.int p0), .val (.int p1), .val (.int (v0_7 p0)), .val (.int (v0_15 p1)), .val (.int (m0_38_s0 p0)), .val (.int (v0_45 p1)), .unset] [(.int (m0_38_s0 p0))])) t
    refine XS.iload X0.here hx rfl (hb hby at_49) rfl ?_
    exact k
  obtain ⟨_, _, ⟨T7, L7, kk7, n7⟩, -, X7, ⟨Lc7, hQ7, l7, y7, z7⟩, st7⟩ := Jvm.LawKit.callS X0 hx (y := (⟨"com/example/kontaris/kontaris/GermanBankCodes", "methodIndex", "(CC)I"⟩ : MethodName)) hown (mvT hZ (hw _ (List.mem_of_getElem? (i := 1) rfl))) (mvT hZ (hw _ (List.mem_of_getElem? (i := 2) rfl))) (mvT hZ (hw _ (List.mem_of_getElem? (i := 3) rfl))) (mvT hZ (hw _ (List.mem_of_getElem? (i := 4) rfl))) (by decide) (backOf (W := 0) (rm1 l Z a0 hw [] (m0_38_s0 p0) (v0_45 p1)  h0 n0 Z0 ) hZ (hw _ (List.mem_of_getElem? (i := 4) rfl)) (hw _ (List.mem_of_getElem? (i := 3) rfl)) (by decide) (by decide)) (g := (mkF m 51 #[.val (.int p0), .val (.int p1), .val (.int (v0_7 p0)), .val (.int (v0_15 p1)), .val (.int (m0_38_s0 p0)), .val (.int (v0_45 p1)), .unset] [(.int (v0_45 p1)), (.int (m0_38_s0 p0))])) rfl (by rw [hml]; rfl) (argsL := [(.int (m0_38_s0 p0)), (.int (v0_45 p1))]) (rest := []) (lenOf pd_0 rfl) rfl (by show 2 * 0 + _ ≤ _; exact Nat.le_of_eq rfl) (hb hby at_51) (fun _ _ => ⟨rfl, e0, (by decide : 0 + 0 ≤ _), (by decide : 0 + 0 ≤ _)⟩)
  dsimp only [Pt.U, Pt.locs, Pt.cells, Pt.slots] at X7 l7 y7 z7 st7 hQ7
  subst l7 y7 z7
  obtain ⟨rfl, N7q, eh7⟩ := hQ7
  have N7 := Fr.app N0 N7q
  have k8 : own_Go p e below (s₁.setTop (entryFrame m #[(.int p0), (.int p1)] maxLocals)) (T7.setTop (mkF m 54 #[.val (.int p0), .val (.int p1), .val (.int (v0_7 p0)), .val (.int (v0_15 p1)), .val (.int (m0_38_s0 p0)), .val (.int (v0_45 p1)), .unset] [(.int (f1 (m0_38_s0 p0) (v0_45 p1)))])) := fun t k => k6 t (st7 t k)
  have k9 : own_Go p e below (s₁.setTop (entryFrame m #[(.int p0), (.int p1)] maxLocals)) (T7.setTop (mkF m 64 #[.val (.int p0), .val (.int p1), .val (.int (v0_7 p0)), .val (.int (v0_15 p1)), .val (.int (m0_38_s0 p0)), .val (.int (v0_45 p1)), .val (.int (v0_54 p0 p1))] [(.int (((v0_7 p0) * (10 : Int32)) + (v0_15 p1))), (.int (v0_54 p0 p1))])) := by
    intro t k
    refine k8 t ?_
    show Steps p.tables e below (T7.setTop (mkF m 54 #[.val (.int p0), .val (.int p1), .val (.int (v0_7 p0)), .val (.int (v0_15 p1)), .val (.int (m0_38_s0 p0)), .val (.int (v0_45 p1)), .unset] [(.int (f1 (m0_38_s0 p0) (v0_45 p1)))])) t
    refine XS.istore X7.here hx rfl (hb hby at_54) rfl (l' := #[.val (.int p0), .val (.int p1), .val (.int (v0_7 p0)), .val (.int (v0_15 p1)), .val (.int (m0_38_s0 p0)), .val (.int (v0_45 p1)), .val (.int (v0_54 p0 p1))]) rfl ?_
    show Steps p.tables e below (T7.setTop (mkF m 56 #[.val (.int p0), .val (.int p1), .val (.int (v0_7 p0)), .val (.int (v0_15 p1)), .val (.int (m0_38_s0 p0)), .val (.int (v0_45 p1)), .val (.int (v0_54 p0 p1))] [])) t
    refine XS.iload X7.here hx rfl (hb hby at_56) rfl ?_
    show Steps p.tables e below (T7.setTop (mkF m 58 #[.val (.int p0), .val (.int p1), .val (.int (v0_7 p0)), .val (.int (v0_15 p1)), .val (.int (m0_38_s0 p0)), .val (.int (v0_45 p1)), .val (.int (v0_54 p0 p1))] [(.int (v0_54 p0 p1))])) t
    refine XS.iloadN X7.here hx rfl (hb hby at_58) rfl ?_
    show Steps p.tables e below (T7.setTop (mkF m 59 #[.val (.int p0), .val (.int p1), .val (.int (v0_7 p0)), .val (.int (v0_15 p1)), .val (.int (m0_38_s0 p0)), .val (.int (v0_45 p1)), .val (.int (v0_54 p0 p1))] [(.int (v0_7 p0)), (.int (v0_54 p0 p1))])) t
    refine XS.bipush X7.here hx rfl (hb hby at_59) ?_
    show Steps p.tables e below (T7.setTop (mkF m 61 #[.val (.int p0), .val (.int p1), .val (.int (v0_7 p0)), .val (.int (v0_15 p1)), .val (.int (m0_38_s0 p0)), .val (.int (v0_45 p1)), .val (.int (v0_54 p0 p1))] [(.int (10 : Int32)), (.int (v0_7 p0)), (.int (v0_54 p0 p1))])) t
    refine XS.imul X7.here hx rfl (hb hby at_61) rfl ?_
    show Steps p.tables e below (T7.setTop (mkF m 62 #[.val (.int p0), .val (.int p1), .val (.int (v0_7 p0)), .val (.int (v0_15 p1)), .val (.int (m0_38_s0 p0)), .val (.int (v0_45 p1)), .val (.int (v0_54 p0 p1))] [(.int ((v0_7 p0) * (10 : Int32))), (.int (v0_54 p0 p1))])) t
    refine XS.iloadN X7.here hx rfl (hb hby at_62) rfl ?_
    show Steps p.tables e below (T7.setTop (mkF m 63 #[.val (.int p0), .val (.int p1), .val (.int (v0_7 p0)), .val (.int (v0_15 p1)), .val (.int (m0_38_s0 p0)), .val (.int (v0_45 p1)), .val (.int (v0_54 p0 p1))] [(.int (v0_15 p1)), (.int ((v0_7 p0) * (10 : Int32))), (.int (v0_54 p0 p1))])) t
    refine XS.iadd X7.here hx rfl (hb hby at_63) rfl ?_
    exact k
  by_cases hc64_10 : (v0_54 p0 p1) = (((v0_7 p0) * (10 : Int32)) + (v0_15 p1))
  · have k11 : own_Go p e below (s₁.setTop (entryFrame m #[(.int p0), (.int p1)] maxLocals)) (T7.setTop (mkF m 69 #[.val (.int p0), .val (.int p1), .val (.int (v0_7 p0)), .val (.int (v0_15 p1)), .val (.int (m0_38_s0 p0)), .val (.int (v0_45 p1)), .val (.int (v0_54 p0 p1))] [(.int (v0_54 p0 p1))])) := by
      intro t k
      refine k9 t ?_
      show Steps p.tables e below (T7.setTop (mkF m 64 #[.val (.int p0), .val (.int p1), .val (.int (v0_7 p0)), .val (.int (v0_15 p1)), .val (.int (m0_38_s0 p0)), .val (.int (v0_45 p1)), .val (.int (v0_54 p0 p1))] [(.int (((v0_7 p0) * (10 : Int32)) + (v0_15 p1))), (.int (v0_54 p0 p1))])) t
      refine XS.icmpNo X7.here hx rfl (hb hby at_64) rfl (teq hc64_10).2 ?_
      show Steps p.tables e below (T7.setTop (mkF m 67 #[.val (.int p0), .val (.int p1), .val (.int (v0_7 p0)), .val (.int (v0_15 p1)), .val (.int (m0_38_s0 p0)), .val (.int (v0_45 p1)), .val (.int (v0_54 p0 p1))] [])) t
      refine XS.iload X7.here hx rfl (hb hby at_67) rfl ?_
      exact k
    by_cases hc69_12 : (v0_54 p0 p1) < (0 : Int32)
    · have k13 : own_Go p e below (s₁.setTop (entryFrame m #[(.int p0), (.int p1)] maxLocals)) (T7.setTop (mkF m 85 #[.val (.int p0), .val (.int p1), .val (.int (v0_7 p0)), .val (.int (v0_15 p1)), .val (.int (m0_38_s0 p0)), .val (.int (v0_45 p1)), .val (.int (v0_54 p0 p1))] [(.int (0 : Int32))])) := by
        intro t k
        refine k11 t ?_
        show Steps p.tables e below (T7.setTop (mkF m 69 #[.val (.int p0), .val (.int p1), .val (.int (v0_7 p0)), .val (.int (v0_15 p1)), .val (.int (m0_38_s0 p0)), .val (.int (v0_45 p1)), .val (.int (v0_54 p0 p1))] [(.int (v0_54 p0 p1))])) t
        refine XS.ifYes X7.here hx rfl (pc0 := 69) (pc' := 84) rfl (hb hby at_69) rfl ((if0 _ _).trans (tlt hc69_12).1) (by decide) (by decide) ?_
        show Steps p.tables e below (T7.setTop (mkF m 84 #[.val (.int p0), .val (.int p1), .val (.int (v0_7 p0)), .val (.int (v0_15 p1)), .val (.int (m0_38_s0 p0)), .val (.int (v0_45 p1)), .val (.int (v0_54 p0 p1))] [])) t
        refine XS.iconst X7.here hx rfl (hb hby at_84) ?_
        exact k
      obtain ⟨fs, hr, hrun, hended, hW, hsame⟩ := X7.leave (v := some (.int (0 : Int32))) (fun h => by rw [Bd.returns] at h; cases h)
      refine ⟨_, _, k13 _ ?_, hrun, hended, _, _, rfl, ?_, ⟨_, rfl⟩, hW, hsame.mono (by decide) (by decide)⟩
      · exact retN X7 hx (t := .boolean) Bd.returns (by simp) (hb hby at_85) hr
      · show Q0 Z p0 p1 h0 n0 _ T7.heap _
        rw [eh7]
        exact ⟨congrArg (fun z => some (Value.int z)) (show f0 p0 p1 = (0 : Int32) from (by unfold f0; rw [if_pos hc64_10, if_pos hc69_12])).symm, N7⟩
    · have k14 : own_Go p e below (s₁.setTop (entryFrame m #[(.int p0), (.int p1)] maxLocals)) (T7.setTop (mkF m 77 #[.val (.int p0), .val (.int p1), .val (.int (v0_7 p0)), .val (.int (v0_15 p1)), .val (.int (m0_38_s0 p0)), .val (.int (v0_45 p1)), .val (.int (v0_54 p0 p1))] [(.int (360 : Int32)), (.int (v0_54 p0 p1))])) := by
        intro t k
        refine k11 t ?_
        show Steps p.tables e below (T7.setTop (mkF m 69 #[.val (.int p0), .val (.int p1), .val (.int (v0_7 p0)), .val (.int (v0_15 p1)), .val (.int (m0_38_s0 p0)), .val (.int (v0_45 p1)), .val (.int (v0_54 p0 p1))] [(.int (v0_54 p0 p1))])) t
        refine XS.ifNo X7.here hx rfl (hb hby at_69) rfl ((if0 _ _).trans (flt hc69_12).1) ?_
        show Steps p.tables e below (T7.setTop (mkF m 72 #[.val (.int p0), .val (.int p1), .val (.int (v0_7 p0)), .val (.int (v0_15 p1)), .val (.int (m0_38_s0 p0)), .val (.int (v0_45 p1)), .val (.int (v0_54 p0 p1))] [])) t
        refine XS.iload X7.here hx rfl (hb hby at_72) rfl ?_
        show Steps p.tables e below (T7.setTop (mkF m 74 #[.val (.int p0), .val (.int p1), .val (.int (v0_7 p0)), .val (.int (v0_15 p1)), .val (.int (m0_38_s0 p0)), .val (.int (v0_45 p1)), .val (.int (v0_54 p0 p1))] [(.int (v0_54 p0 p1))])) t
        refine XS.sipush X7.here hx rfl (hb hby at_74) ?_
        exact k
      by_cases hc77_15 : (v0_54 p0 p1) < (360 : Int32)
      · have k16 : own_Go p e below (s₁.setTop (entryFrame m #[(.int p0), (.int p1)] maxLocals)) (T7.setTop (mkF m 85 #[.val (.int p0), .val (.int p1), .val (.int (v0_7 p0)), .val (.int (v0_15 p1)), .val (.int (m0_38_s0 p0)), .val (.int (v0_45 p1)), .val (.int (v0_54 p0 p1))] [(.int (1 : Int32))])) := by
          intro t k
          refine k14 t ?_
          show Steps p.tables e below (T7.setTop (mkF m 77 #[.val (.int p0), .val (.int p1), .val (.int (v0_7 p0)), .val (.int (v0_15 p1)), .val (.int (m0_38_s0 p0)), .val (.int (v0_45 p1)), .val (.int (v0_54 p0 p1))] [(.int (360 : Int32)), (.int (v0_54 p0 p1))])) t
          refine XS.icmpNo X7.here hx rfl (hb hby at_77) rfl (tlt hc77_15).2.1 ?_
          show Steps p.tables e below (T7.setTop (mkF m 80 #[.val (.int p0), .val (.int p1), .val (.int (v0_7 p0)), .val (.int (v0_15 p1)), .val (.int (m0_38_s0 p0)), .val (.int (v0_45 p1)), .val (.int (v0_54 p0 p1))] [])) t
          refine XS.iconst X7.here hx rfl (hb hby at_80) ?_
          show Steps p.tables e below (T7.setTop (mkF m 81 #[.val (.int p0), .val (.int p1), .val (.int (v0_7 p0)), .val (.int (v0_15 p1)), .val (.int (m0_38_s0 p0)), .val (.int (v0_45 p1)), .val (.int (v0_54 p0 p1))] [(.int (1 : Int32))])) t
          refine XS.goto X7.here hx rfl (pc0 := 81) (pc' := 85) rfl (hb hby at_81) (by decide) (by decide) ?_
          exact k
        obtain ⟨fs, hr, hrun, hended, hW, hsame⟩ := X7.leave (v := some (.int (1 : Int32))) (fun h => by rw [Bd.returns] at h; cases h)
        refine ⟨_, _, k16 _ ?_, hrun, hended, _, _, rfl, ?_, ⟨_, rfl⟩, hW, hsame.mono (by decide) (by decide)⟩
        · exact retN X7 hx (t := .boolean) Bd.returns (by simp) (hb hby at_85) hr
        · show Q0 Z p0 p1 h0 n0 _ T7.heap _
          rw [eh7]
          exact ⟨congrArg (fun z => some (Value.int z)) (show f0 p0 p1 = (1 : Int32) from (by unfold f0; rw [if_pos hc64_10, if_neg hc69_12, if_pos hc77_15])).symm, N7⟩
      · have k17 : own_Go p e below (s₁.setTop (entryFrame m #[(.int p0), (.int p1)] maxLocals)) (T7.setTop (mkF m 85 #[.val (.int p0), .val (.int p1), .val (.int (v0_7 p0)), .val (.int (v0_15 p1)), .val (.int (m0_38_s0 p0)), .val (.int (v0_45 p1)), .val (.int (v0_54 p0 p1))] [(.int (0 : Int32))])) := by
          intro t k
          refine k14 t ?_
          show Steps p.tables e below (T7.setTop (mkF m 77 #[.val (.int p0), .val (.int p1), .val (.int (v0_7 p0)), .val (.int (v0_15 p1)), .val (.int (m0_38_s0 p0)), .val (.int (v0_45 p1)), .val (.int (v0_54 p0 p1))] [(.int (360 : Int32)), (.int (v0_54 p0 p1))])) t
          refine XS.icmpYes X7.here hx rfl (pc0 := 77) (pc' := 84) rfl (hb hby at_77) rfl (flt hc77_15).2.1 (by decide) (by decide) ?_
          show Steps p.tables e below (T7.setTop (mkF m 84 #[.val (.int p0), .val (.int p1), .val (.int (v0_7 p0)), .val (.int (v0_15 p1)), .val (.int (m0_38_s0 p0)), .val (.int (v0_45 p1)), .val (.int (v0_54 p0 p1))] [])) t
          refine XS.iconst X7.here hx rfl (hb hby at_84) ?_
          exact k
        obtain ⟨fs, hr, hrun, hended, hW, hsame⟩ := X7.leave (v := some (.int (0 : Int32))) (fun h => by rw [Bd.returns] at h; cases h)
        refine ⟨_, _, k17 _ ?_, hrun, hended, _, _, rfl, ?_, ⟨_, rfl⟩, hW, hsame.mono (by decide) (by decide)⟩
        · exact retN X7 hx (t := .boolean) Bd.returns (by simp) (hb hby at_85) hr
        · show Q0 Z p0 p1 h0 n0 _ T7.heap _
          rw [eh7]
          exact ⟨congrArg (fun z => some (Value.int z)) (show f0 p0 p1 = (0 : Int32) from (by unfold f0; rw [if_pos hc64_10, if_neg hc69_12, if_neg hc77_15])).symm, N7⟩
  · have k18 : own_Go p e below (s₁.setTop (entryFrame m #[(.int p0), (.int p1)] maxLocals)) (T7.setTop (mkF m 85 #[.val (.int p0), .val (.int p1), .val (.int (v0_7 p0)), .val (.int (v0_15 p1)), .val (.int (m0_38_s0 p0)), .val (.int (v0_45 p1)), .val (.int (v0_54 p0 p1))] [(.int (0 : Int32))])) := by
      intro t k
      refine k9 t ?_
      show Steps p.tables e below (T7.setTop (mkF m 64 #[.val (.int p0), .val (.int p1), .val (.int (v0_7 p0)), .val (.int (v0_15 p1)), .val (.int (m0_38_s0 p0)), .val (.int (v0_45 p1)), .val (.int (v0_54 p0 p1))] [(.int (((v0_7 p0) * (10 : Int32)) + (v0_15 p1))), (.int (v0_54 p0 p1))])) t
      refine XS.icmpYes X7.here hx rfl (pc0 := 64) (pc' := 84) rfl (hb hby at_64) rfl (feq hc64_10).2 (by decide) (by decide) ?_
      show Steps p.tables e below (T7.setTop (mkF m 84 #[.val (.int p0), .val (.int p1), .val (.int (v0_7 p0)), .val (.int (v0_15 p1)), .val (.int (m0_38_s0 p0)), .val (.int (v0_45 p1)), .val (.int (v0_54 p0 p1))] [])) t
      refine XS.iconst X7.here hx rfl (hb hby at_84) ?_
      exact k
    obtain ⟨fs, hr, hrun, hended, hW, hsame⟩ := X7.leave (v := some (.int (0 : Int32))) (fun h => by rw [Bd.returns] at h; cases h)
    refine ⟨_, _, k18 _ ?_, hrun, hended, _, _, rfl, ?_, ⟨_, rfl⟩, hW, hsame.mono (by decide) (by decide)⟩
    · exact retN X7 hx (t := .boolean) Bd.returns (by simp) (hb hby at_85) hr
    · show Q0 Z p0 p1 h0 n0 _ T7.heap _
      rw [eh7]
      exact ⟨congrArg (fun z => some (Value.int z)) (show f0 p0 p1 = (0 : Int32) from (by unfold f0; rw [if_neg hc64_10])).symm, N7⟩
theorem own_of_range (x : Int32) (n : Nat) (hn : n ≤ 1000) (h0 : 0 ≤ x.toInt) (h1 : x.toInt < n) : ∃ k, k < n ∧ x = Int32.ofNat k := by
  refine ⟨x.toInt.toNat, by omega, ?_⟩
  apply Int32.toInt_inj.mp
  rw [Int32.toInt_ofNat_of_lt (by omega)]
  omega
theorem own_rem (x m : Int32) (hm : 0 < m.toInt) : 0 ≤ ((x &&& 2147483647) % m).toInt ∧ ((x &&& 2147483647) % m).toInt < m.toInt := by
  have e := Jvm.Kit.i32_mask x 2147483647 (k := 31) (by decide) (by decide)
  have h0 : 0 ≤ (x &&& 2147483647).toInt := by rw [e]; omega
  rw [Jvm.Kit.i32_rem_nonneg h0]
  exact ⟨Int.emod_nonneg _ (by omega), Int.emod_lt_of_pos _ hm⟩
def own_M (u : Int32) : Int32 := if u < (10 : Int32) then (((48 : Int32) + u).toUInt32.toUInt16.toUInt32.toInt32) else (((65 : Int32) + (u - (10 : Int32))).toUInt32.toUInt16.toUInt32.toInt32)
def own_N (d : Int32) : Int32 := (((48 : Int32) + d).toUInt32.toUInt16.toUInt32.toInt32)
def own_g (u d : Int32) : Int32 := (if f1 (own_M u) (own_N d) = u * (10 : Int32) + d then (if f1 (own_M u) (own_N d) < (0 : Int32) then (0 : Int32) else (if f1 (own_M u) (own_N d) < (360 : Int32) then (1 : Int32) else (0 : Int32))) else (0 : Int32))
theorem own_fin : ∀ n, n < 36 → ∀ k, k < 10 → own_g (Int32.ofNat n) (Int32.ofNat k) = 1 := by decide +kernel
theorem own_law (a b : Int32) : f0 a b = 1 := by
  obtain ⟨h0, h1⟩ := own_rem a 36 (by decide)
  obtain ⟨h2, h3⟩ := own_rem b 10 (by decide)
  obtain ⟨n, hn, e1⟩ := own_of_range _ 36 (by decide) h0 h1
  obtain ⟨k, hk, e2⟩ := own_of_range _ 10 (by decide) h2 h3
  have q := own_fin n hn k hk
  rw [← e1, ← e2] at q
  exact q

set_option maxRecDepth 65536 in
set_option maxHeartbeats 40000000 in
theorem comes_1 {Post : Tables → Env → Array Value → State → Outcome → State → Prop} (hpost : ∀ tb e args s v u, (limb_1_1.after args s (.returned v) u = true ∧ limb_1_2.after args s (.returned v) u = true ∧ True) → FrameEnd s (.returned v) u (Jvm.fieldLocs frame_1_writes args s ++ Jvm.arrayLocs frame_1_arrays args s ++ Jvm.staticLocs frame_1_statics s) 0 0 → Post tb e args s (.returned v) u) :
    ArmFor flags0 classFile x code maxLocals ret World_1 tables_1 room_1 Calls_1 rest_1 Pre_1 Post := by
  intro l hfl _ _ p e ha hc hk s m args below hf hA hF happ hP
  obtain ⟨hcalls, hrest, hpre⟩ := hP
  obtain ⟨-, -, -, hnamed, -, -, -, hat⟩ := (Spec.applies_iff hf).mp happ
  obtain ⟨hg, hn⟩ := and_e (Cond.before_iff.mp (show (Jvm.Cond.and given_1 narrow_1).before args s = true from hpre))
  obtain ⟨u1, u2⟩ := and_e hg
  obtain ⟨u3, u4⟩ := and_e u2
  obtain ⟨w0, w1, rfl⟩ : ∃ w0 w1 : Value, args = #[w0, w1] := by
    have hs : args.size = 2 := by simpa [Cond.value, given_1] using u1
    obtain ⟨L⟩ := args
    match L, hs with
    | [w0, w1], _ => exact ⟨w0, w1, rfl⟩
  have hw := fun d (hd : d ∈ tables_1) => atoms_spec (ws := Jvm.Cond.code x code maxLocals ret :: tables_1) hat d (List.mem_cons_of_mem _ hd)
  have hfit : Fit s := fun {y c} hc i hi => by
    obtain ⟨ha, rfl⟩ := Array.getElem?_eq_some_iff.mp hc
    have q := List.all_eq_true.mp ((Array.all_eq_true_iff_forall_mem.mp hF) _ (Array.getElem_mem ha)) i (List.mem_range.mpr hi)
    simpa [Array.getElem?_eq_getElem hi] using q
  obtain ⟨i0, ei0⟩ := is_v u3
  obtain rfl : w0 = (.int i0) := Option.some.inj ei0
  obtain ⟨i1, ei1⟩ := is_v u4
  obtain rfl : w1 = (.int i1) := Option.some.inj ei1
  obtain ⟨n, o, h1, h2, h3, v, L, rfl, ⟨hv, N⟩, hq⟩ := rm0 l s _ hw tables_1 i0 i1  s.heap s.heap.size (Nat.le_refl _)  p e ha hc hk s m _ below hf ((Spec.applies_iff_loose hf).mp happ).1 ⟨rfl, State.Warmed39.refl s, rfl⟩ trivial
  rw [own_law i0 i1] at hv
  subst hv
  refine ⟨n, _, h1, h2, h3, hpost _ _ _ _ _ _ ⟨Cond.after_iff.mpr rfl, Cond.after_iff.mpr (eq_i res_at (Term.int_eval (1)) rfl), trivial⟩ ⟨hq.1, hq.2.1, (hq.2.2.sift fun y hy => Or.inr (N y hy)).mono (by decide) (by decide)⟩⟩
theorem main_1_1 : Claimed_1_1 := comes_1 fun _ _ _ _ _ _ h hF => ⟨h.1, hF⟩
theorem main_1_2 : Claimed_1_2 := comes_1 fun _ _ _ _ _ _ h hF => ⟨h.2.1, hF⟩
end Jvm.Pilot.@@N@@
namespace Jvm.Pilot.@@N@@
open Jvm Jvm.ClassFile Sem Op Lib Jvm.Free Jvm.Stand Jvm.Pilot.@@N@@.Jvm.D
/-! MADE BY PROGRAM (witnessworld.py) out of the Statement's table words and the real class files: 10 classes; the members and pool entries that the words name. The judged class is class 1, her method 1. -/
namespace start1
open Jvm.ClassFile
def u (s : String) : CpInfo := .utf8 (stringToUtf16 s)
/-- a pool by its gaps: so many unusable entries, then the entry; so many at the end -/
def gap : Nat → List CpInfo → List CpInfo
  | 0, r => r
  | n + 1, r => .unusable :: gap n r
def poolList (es : List (Nat × CpInfo)) (last : Nat) : List CpInfo := es.foldr (fun e r => gap e.1 (e.2 :: r)) (gap last [])
def pool (es : List (Nat × CpInfo)) (last : Nat) : Array CpInfo := ⟨poolList es last⟩
def fileOf (pool : Array CpInfo) (this : Nat) (attrs : Array Attribute := #[]) (ms : Array MethodInfo := #[]) (fl : Nat := 33) (sup : Nat := 0) (ifs : Array Nat := #[]) (fds : Array FieldInfo := #[]) : ClassFile where
  minorVersion := 0
  majorVersion := 65
  constantPool := pool
  accessFlags := fl
  thisClass := this
  superClass := sup
  interfaces := ifs
  fields := fds
  methods := ms
  attributes := attrs
def plain (name : String) (sup : Option ClassId) : Class where
  name := name
  kind := .ordinary
  loader := none
  accessFlags := 33
  super := sup
  interfaces := #[]
  cf := none
  fields := #[]
  methods := #[]
  instanceTypes := #[]
  staticTypes := #[]
  resolved := #[]
  callSites := []
  init := .initialized
  statics := none
  mirror := none

def pool0 : Array CpInfo := pool [(5, u "<init>"), (0, u "()V"), (1, .class_ 10), (1, u "java/lang/Object")] 113

def k0m0 : Method := { name := "<init>", desc := "()V", sig := { parameters := [], returnType := none }, accessFlags := 1, code := none }
/-- java/lang/Object -/
def k0 : Class := { plain "java/lang/Object" none with
  accessFlags := 33
  interfaces := #[]
  cf := some (fileOf pool0 8 #[] #[{ accessFlags := 1, nameIndex := 5, descriptorIndex := 6, attributes := #[] }] 33 0 #[] #[])
  fields := #[]
  methods := #[k0m0]
  instanceTypes := #[]
  staticTypes := #[]
  resolved := Array.replicate 124 none
  statics := none }

def pool1 : Array CpInfo := pool [(2, .class_ 4), (1, u "java/lang/Object"), (0, u "<init>"), (0, u "()V"), (0, .integer 2147483647), (0, .methodref 9 10), (0, .class_ 11), (0, .nameAndType 12 13), (0, u "com/example/kontaris/kontaris/GermanBankCodes"), (0, u "methodIndex"), (0, u "(CC)I"), (0, .class_ 15), (0, u "com/example/kontaris/kontaris/GermanBankCodesMethodIndexPinLaw"), (2, u "law"), (0, u "(II)Z")] 3

def k1m0 : Method := { name := "<init>", desc := "()V", sig := { parameters := [], returnType := none }, accessFlags := 1, code := none }
def k1c1 : Code := { maxStack := 3, maxLocals := 7, code := code, exceptionTable := #[], attributes := #[] }
def k1m1 : Method := { name := "law", desc := "(II)Z", sig := { parameters := [.int, .int], returnType := some .boolean }, accessFlags := 9, code := some k1c1 }
/-- com/example/kontaris/kontaris/GermanBankCodesMethodIndexPinLaw -/
def k1 : Class := { plain "com/example/kontaris/kontaris/GermanBankCodesMethodIndexPinLaw" (some 0) with
  accessFlags := 49
  interfaces := #[]
  cf := some (fileOf pool1 14 #[] #[{ accessFlags := 1, nameIndex := 5, descriptorIndex := 6, attributes := #[] }, { accessFlags := 9, nameIndex := 18, descriptorIndex := 19, attributes := #[] }] 49 2 #[] #[])
  fields := #[]
  methods := #[k1m0, k1m1]
  instanceTypes := #[]
  staticTypes := #[]
  resolved := Array.replicate 23 none
  statics := none }

def pool2 : Array CpInfo := pool [(1, .class_ 2), (0, u "com/example/kontaris/kontaris/BankDirectory"), (0, .class_ 4), (0, u "java/lang/Object"), (5, .class_ 11), (0, u "com/example/kontaris/kontaris/BankDirectory$Bank")] 2

/-- com/example/kontaris/kontaris/BankDirectory -/
def k2 : Class := { plain "com/example/kontaris/kontaris/BankDirectory" (some 0) with
  accessFlags := 1536
  interfaces := #[]
  cf := some (fileOf pool2 1 #[.nestMembers #[10]] #[] 1536 3 #[] #[])
  fields := #[]
  methods := #[]
  instanceTypes := #[]
  staticTypes := #[]
  resolved := Array.replicate 14 none
  statics := none }

def pool3 : Array CpInfo := pool [(2, .class_ 4), (1, u "java/lang/Object"), (3, .class_ 10), (1, u "com/example/kontaris/kontaris/GermanBankCodes"), (0, u "bankCodes"), (0, u "[I"), (2, u "methods"), (0, u "[S"), (2, u "firstRecords"), (2, u "ownRecords"), (2, u "records"), (0, u "[J"), (2, u "names"), (0, u "[Ljava/lang/String;"), (2, u "bics"), (99, u "methodIndex"), (0, u "(CC)I"), (83, u "FILE"), (0, u "Lcom/example/kontaris/kontaris/DataFile;"), (0, .class_ 221), (0, u "com/example/kontaris/kontaris/BankDirectory"), (2, u "NO_METHOD"), (0, u "I"), (2, u "METHOD_INDEXES"), (1, u "BANK_CODE_LENGTH"), (1, u "RECORD_LENGTH"), (1, u "NOT_THE_FILE"), (0, u "Ljava/lang/String;"), (2, u "EMPTY"), (0, u "NUMBER_BITS")] 67

def k3c0 : Code := { maxStack := 2, maxLocals := 3, code := prog_45_method_5_code, exceptionTable := #[], attributes := #[] }
def k3m0 : Method := { name := "methodIndex", desc := "(CC)I", sig := { parameters := [.char, .char], returnType := some .int }, accessFlags := 8, code := some k3c0 }
/-- com/example/kontaris/kontaris/GermanBankCodes -/
def k3 : Class := { plain "com/example/kontaris/kontaris/GermanBankCodes" (some 0) with
  accessFlags := 48
  interfaces := #[2]
  cf := some (fileOf pool3 8 #[] #[{ accessFlags := 8, nameIndex := 133, descriptorIndex := 134, attributes := #[] }] 48 2 #[220] #[{ accessFlags := 24, nameIndex := 218, descriptorIndex := 219, attributes := #[] }, { accessFlags := 24, nameIndex := 224, descriptorIndex := 225, attributes := #[] }, { accessFlags := 24, nameIndex := 228, descriptorIndex := 225, attributes := #[] }, { accessFlags := 24, nameIndex := 230, descriptorIndex := 225, attributes := #[] }, { accessFlags := 26, nameIndex := 232, descriptorIndex := 225, attributes := #[] }, { accessFlags := 26, nameIndex := 234, descriptorIndex := 235, attributes := #[] }, { accessFlags := 26, nameIndex := 238, descriptorIndex := 225, attributes := #[] }, { accessFlags := 26, nameIndex := 239, descriptorIndex := 225, attributes := #[] }, { accessFlags := 18, nameIndex := 11, descriptorIndex := 12, attributes := #[] }, { accessFlags := 18, nameIndex := 15, descriptorIndex := 16, attributes := #[] }, { accessFlags := 18, nameIndex := 19, descriptorIndex := 12, attributes := #[] }, { accessFlags := 18, nameIndex := 22, descriptorIndex := 12, attributes := #[] }, { accessFlags := 18, nameIndex := 25, descriptorIndex := 26, attributes := #[] }, { accessFlags := 18, nameIndex := 29, descriptorIndex := 30, attributes := #[] }, { accessFlags := 18, nameIndex := 33, descriptorIndex := 30, attributes := #[] }])
  fields := #[{ name := "FILE", type := (.object "com/example/kontaris/kontaris/DataFile"), accessFlags := 24, slot := 0, constantValue := 0 }, { name := "NO_METHOD", type := .int, accessFlags := 24, slot := 1, constantValue := 0 }, { name := "METHOD_INDEXES", type := .int, accessFlags := 24, slot := 2, constantValue := 0 }, { name := "BANK_CODE_LENGTH", type := .int, accessFlags := 24, slot := 3, constantValue := 0 }, { name := "RECORD_LENGTH", type := .int, accessFlags := 26, slot := 4, constantValue := 0 }, { name := "NOT_THE_FILE", type := (.object "java/lang/String"), accessFlags := 26, slot := 5, constantValue := 0 }, { name := "EMPTY", type := .int, accessFlags := 26, slot := 6, constantValue := 0 }, { name := "NUMBER_BITS", type := .int, accessFlags := 26, slot := 7, constantValue := 0 }, { name := "bankCodes", type := (.array .int), accessFlags := 18, slot := 0, constantValue := 0 }, { name := "methods", type := (.array .short), accessFlags := 18, slot := 1, constantValue := 0 }, { name := "firstRecords", type := (.array .int), accessFlags := 18, slot := 2, constantValue := 0 }, { name := "ownRecords", type := (.array .int), accessFlags := 18, slot := 3, constantValue := 0 }, { name := "records", type := (.array .long), accessFlags := 18, slot := 4, constantValue := 0 }, { name := "names", type := (.array (.object "java/lang/String")), accessFlags := 18, slot := 5, constantValue := 0 }, { name := "bics", type := (.array (.object "java/lang/String")), accessFlags := 18, slot := 6, constantValue := 0 }]
  methods := #[k3m0]
  instanceTypes := #[(.array .int), (.array .short), (.array .int), (.array .int), (.array .long), (.array (.object "java/lang/String")), (.array (.object "java/lang/String"))]
  staticTypes := #[(.object "com/example/kontaris/kontaris/DataFile"), .int, .int, .int, .int, (.object "java/lang/String"), .int, .int]
  resolved := Array.replicate 307 none
  statics := none }

def pool4 : Array CpInfo := pool [(1, u "java/lang/Cloneable"), (0, .class_ 1), (0, u "java/lang/Object"), (0, .class_ 3)] 3

/-- java/lang/Cloneable -/
def k4 : Class := { plain "java/lang/Cloneable" (some 0) with
  accessFlags := 1537
  interfaces := #[]
  cf := some (fileOf pool4 2 #[] #[] 1537 4 #[] #[])
  fields := #[]
  methods := #[]
  instanceTypes := #[]
  staticTypes := #[]
  resolved := Array.replicate 8 none
  statics := none }

def pool5 : Array CpInfo := pool [(1, u "java/io/Serializable"), (0, .class_ 1), (0, u "java/lang/Object"), (0, .class_ 3)] 3

/-- java/io/Serializable -/
def k5 : Class := { plain "java/io/Serializable" (some 0) with
  accessFlags := 1537
  interfaces := #[]
  cf := some (fileOf pool5 2 #[] #[] 1537 4 #[] #[])
  fields := #[]
  methods := #[]
  instanceTypes := #[]
  staticTypes := #[]
  resolved := Array.replicate 8 none
  statics := none }

/-- the primitive byte -/
def k6 : Class := { plain "byte" none with kind := .primitive 'B', accessFlags := 0x411 }
/-- [B -/
def k7 : Class := { plain "[B" (some 0) with kind := .array 6 .byte, interfaces := #[4, 5], accessFlags := 1041 }

/-- the primitive int -/
def k8 : Class := { plain "int" none with kind := .primitive 'I', accessFlags := 0x411 }
/-- [I -/
def k9 : Class := { plain "[I" (some 0) with kind := .array 8 .int, interfaces := #[4, 5], accessFlags := 1041 }

def heap : Heap := #[]
def classes : Array Class := #[k0, k1, k2, k3, k4, k5, k6, k7, k8, k9]
def interned : List (Array UInt16 × Addr) := []
def slotsUsed : Nat := 0
def theMethod : MethodId := ⟨1, 1⟩
def args0 : Array Value := #[.int 5, .int 7]
def aboutOver (below : List Frame) : State where
  vm := { classes := classes, interned := interned.toArray }
  heap := heap
  slotsUsed := slotsUsed
  threads := #[{ frames := .invoking theMethod args0 :: below }]
def below0 : List Frame := [.native { method := ⟨0, 0⟩, args := #[] }]
def about1 : State := aboutOver below0
def p0 : Program := .bare "" "" ""
def e0 : Env := launch0.env 0 0 0
theorem w_frames : about1.frames = Frame.invoking theMethod args0 :: below0 := rfl
set_option maxRecDepth 65536 in
theorem w_args : argsFit about1.vm theMethod args0 = true := by decide +kernel
set_option maxRecDepth 65536 in
theorem w_heap : heapFits about1 = true := by decide +kernel
set_option maxRecDepth 65536 in
theorem w_runnable : about1.curStatus? = some .runnable := by decide +kernel
set_option maxRecDepth 65536 in
theorem w_alone : about1.alone = true := by decide +kernel
set_option maxRecDepth 65536 in
theorem w_named : about1.methodNamed? x = some theMethod := by decide +kernel
set_option maxRecDepth 65536 in
theorem w_hears : about1.hears theMethod below0 = true := by decide +kernel
set_option maxRecDepth 65536 in
theorem w_ripe : about1.ripe theMethod args0 below0 = true := by decide +kernel
theorem w_running : about1.status = .running := rfl
set_option maxRecDepth 65536 in
theorem w_room : about1.hasRoom e0.platform room_1 = true :=
  launch0.hasRoom_least _ room_1 (by decide +kernel) (by decide +kernel) (by decide +kernel) (by decide +kernel) (by decide +kernel) (by decide +kernel)
theorem allAtoms_all (ts : List Jvm.Cond) (a : Array Jvm.Value) (st : Jvm.State) : (allAtoms ts).before a st = ts.all (fun c => c.before a st) := by
  induction ts with
  | nil => rfl
  | cons c t ih =>
    show (Jvm.Cond.and c (allAtoms t)).before a st = _
    rw [Jvm.Cond.before_and, ih, List.all_cons]
def words1 : List Jvm.Cond := Jvm.Cond.code x code maxLocals ret :: tables_1
/-- a 'code' word, met by the world's own term for the bytes: nothing is compared byte by byte -/
theorem code_word {y : MethodName} {bytes : ByteArray} {mx : Nat} {rt : Option FieldType} {a : Array Value} {s : State} {m : MethodId} {meth : Method} {c : Code} (h1 : s.methodNamed? y = some m) (h2 : s.vm.method? m = some meth) (h3 : meth.code = some c) (h4 : c.code = bytes)
    (h5 : (c.maxLocals == mx && c.exceptionTable.isEmpty && decide (c.maxStack ≤ mostOperands) && decide (meth.sig.returnType = rt) && !meth.locks && decide (parseMethodDescriptor y.desc = some meth.sig)) = true) : (Jvm.Cond.code y bytes mx rt).before a s = true := by
  simp only [Bool.and_eq_true, beq_iff_eq, Bool.not_eq_true', decide_eq_true_eq] at h5
  obtain ⟨⟨⟨⟨⟨g1, g2⟩, g3⟩, g4⟩, g5⟩, g6⟩ := h5
  simp [Cond.before, Cond.holds, Cond.value, h1, h2, h3, h4, g1, g2, g3, g4, g5, g6]
def isCode : Jvm.Cond → Bool
  | .code _ _ _ _ => true
  | _ => false
theorem all_split {L : List Jvm.Cond} {P : Jvm.Cond → Bool} (h1 : L.all (fun c => isCode c || P c) = true) (h2 : ∀ c ∈ L.filter isCode, P c = true) : L.all P = true := by
  refine List.all_eq_true.mpr fun c hc => ?_
  have h := List.all_eq_true.mp h1 c hc
  rcases Bool.eq_false_or_eq_true (isCode c) with hi | hi
  · exact h2 c (List.mem_filter.mpr ⟨hc, hi⟩)
  · simpa [hi] using h
set_option maxRecDepth 65536 in
theorem w_c0 : (Jvm.Cond.code x code maxLocals ret).before args0 about1 = true := code_word (m := ⟨1, 1⟩) (meth := k1m1) (c := k1c1) (by decide +kernel) rfl rfl rfl (by decide +kernel)
set_option maxRecDepth 65536 in
theorem w_c1 : (Jvm.Cond.code ({ cls := "com/example/kontaris/kontaris/GermanBankCodes", name := "methodIndex", desc := "(CC)I" } : Jvm.MethodName) prog_45_method_5_code (3 : Nat) (Option.some Jvm.ClassFile.FieldType.int)).before args0 about1 = true := code_word (m := ⟨3, 0⟩) (meth := k3m0) (c := k3c0) (by decide +kernel) rfl rfl rfl (by decide +kernel)
def codes1 : List Jvm.Cond := [Jvm.Cond.code x code maxLocals ret, Jvm.Cond.code ({ cls := "com/example/kontaris/kontaris/GermanBankCodes", name := "methodIndex", desc := "(CC)I" } : Jvm.MethodName) prog_45_method_5_code (3 : Nat) (Option.some Jvm.ClassFile.FieldType.int)]
set_option maxRecDepth 65536 in
theorem codes_eq : words1.filter isCode = codes1 := rfl
theorem w_codes : ∀ c ∈ words1.filter isCode, c.before args0 about1 = true := by
  rw [codes_eq]
  intro c hc
  simp only [codes1, List.mem_cons, List.not_mem_nil, or_false] at hc
  rcases hc with rfl | rfl
  · exact w_c0
  · exact w_c1
set_option maxRecDepth 65536 in
theorem w_t1 : words1.all (fun c => isCode c || c.before args0 about1) = true := by decide +kernel
theorem w_tables : (allAtoms (Jvm.Cond.code x code maxLocals ret :: tables_1)).before args0 about1 = true := by
  rw [allAtoms_all]
  show words1.all (fun c => c.before args0 about1) = true
  refine all_split ?_ w_codes
  rw [w_t1]
set_option maxRecDepth 65536 in
theorem w_case : (Jvm.Cond.and given_1 narrow_1).before args0 about1 = true := by decide +kernel
theorem w_applies : (headSpec (Jvm.Cond.code x code maxLocals ret :: tables_1) room_1).applies x e0.platform about1 = true :=
  (Spec.applies_iff w_frames).mpr ⟨w_running, w_runnable, w_alone, w_named, w_hears, w_ripe, w_room, w_tables⟩
theorem atStart : AtStart classFile x code maxLocals ret World_1 tables_1 room_1 Calls_1 rest_1 Pre_1 launch0 p0 e0 about1 theMethod args0 below0 :=
  ⟨lists_1, trivial, launch0.admits_env _ _ _, launch0.least_env, fairChoices_fair.cas, fairChoices_fair.clock, w_frames, w_args, w_heap, w_applies, trivial, trivial, w_case⟩
end start1
theorem witness_1 : WitnessClaimed_1 := ⟨start1.p0, start1.e0, start1.about1, start1.theMethod, start1.args0, start1.below0, start1.atStart⟩
end Jvm.Pilot.@@N@@

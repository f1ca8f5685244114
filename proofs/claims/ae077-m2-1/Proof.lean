import JvmDerived
import JvmDerived.Pilot.@@N@@Statement
import JvmDerived.Pilot.@@N@@Code
set_option linter.unusedVariables false
set_option linter.unusedSimpArgs false
namespace Jvm.RoadKit
open Sem ClassFile Op Lib Jvm.Stand Jvm.Free Jvm.LawKit
section New
variable {p : Program} {l : Launch} {e : Env} {R : Room} {s : State} {m : MethodId} {args : Array Value} {below : List Frame} {meth : Method} {c : Code} {T : State} {locs : List Loc} {cells slots : Nat}
theorem retI (X : Stand p l e R s m args below meth c T locs cells slots) (hx : p.tables.exec = Jvm.exec) {pc : Nat} {Ls : Array Slot} {z : Int32} {rest : List Value} (hret : meth.sig.returnType = some .int) (hd : decode c.code pc = .ok (.ireturn, 1)) {fs : List Frame}
    (hl : ∀ (f : JFrame) (acts : List Action), f.method = m → f.locked = none → f.entered = [] → (doReturn e (T.setTop f) acts (some (.int z))).1 = T.setFrames fs) : Steps p.tables e below (T.setTop (mkF m pc Ls (.int z :: rest))) (T.setFrames fs) := by
  have hm' : T.vm.method? m = some meth := X.method'
  have hn : narrow .int (.int z) = .int z := rfl
  show Steps p.tables e below (T.setTop { method := m, pc := pc, locals := Ls, stack := _ :: rest, locked := none }) _
  jvm_step X.here [X.here.top, hx, hd, hm', hret, hn]
  first | (intro acts; rw [hl _ acts rfl rfl rfl]) | rw [hl _ _ rfl rfl rfl]
  exact Steps.refl _
theorem retJ (X : Stand p l e R s m args below meth c T locs cells slots) (hx : p.tables.exec = Jvm.exec) {pc : Nat} {Ls : Array Slot} {z : Int64} {rest : List Value} (hret : meth.sig.returnType = some .long) (hd : decode c.code pc = .ok (.lreturn, 1)) {fs : List Frame}
    (hl : ∀ (f : JFrame) (acts : List Action), f.method = m → f.locked = none → f.entered = [] → (doReturn e (T.setTop f) acts (some (.long z))).1 = T.setFrames fs) : Steps p.tables e below (T.setTop (mkF m pc Ls (.long z :: rest))) (T.setFrames fs) := by
  have hm' : T.vm.method? m = some meth := X.method'
  have hn : narrow .long (.long z) = .long z := rfl
  show Steps p.tables e below (T.setTop { method := m, pc := pc, locals := Ls, stack := _ :: rest, locked := none }) _
  jvm_step X.here [X.here.top, hx, hd, hm', hret, hn]
  first | (intro acts; rw [hl _ acts rfl rfl rfl]) | rw [hl _ _ rfl rfl rfl]
  exact Steps.refl _
end New
end Jvm.RoadKit
@@BLOCK:NumsL.lean.txt@@
namespace Jvm.Pilot.@@N@@
open Jvm Jvm.ClassFile Sem Op Lib Jvm.Free Jvm.Stand Jvm.LawKit Jvm.RoadKit Bundle Jvm.Pilot.@@N@@.Jvm.D
/-- the run comes from A to B -/
abbrev own_Go (p : Program) (e : Env) (below : List Frame) (A B : State) : Prop := ∀ t, Steps p.tables e below B t → Steps p.tables e below A t
theorem pn_0 : plainName "com/example/segmentry/segmentry/io/Delimiters" = true := by first | (simp [plainName, overriddenIn]; done) | decide +kernel
theorem d1_0 : decode prog_18_method_2_code 0 = .ok (.iload_n 0, 1) := by decide +kernel
theorem d1_1 : decode prog_18_method_2_code 1 = .ok (.bipush 65, 2) := by decide +kernel
theorem d1_3 : decode prog_18_method_2_code 3 = .ok (.if_icmp .lt 9, 3) := by decide +kernel
theorem d1_6 : decode prog_18_method_2_code 6 = .ok (.iload_n 0, 1) := by decide +kernel
theorem d1_7 : decode prog_18_method_2_code 7 = .ok (.bipush 90, 2) := by decide +kernel
theorem d1_9 : decode prog_18_method_2_code 9 = .ok (.if_icmp .le 15, 3) := by decide +kernel
theorem d1_12 : decode prog_18_method_2_code 12 = .ok (.iload_n 0, 1) := by decide +kernel
theorem d1_13 : decode prog_18_method_2_code 13 = .ok (.bipush 97, 2) := by decide +kernel
theorem d1_15 : decode prog_18_method_2_code 15 = .ok (.if_icmp .lt 13, 3) := by decide +kernel
theorem d1_18 : decode prog_18_method_2_code 18 = .ok (.iload_n 0, 1) := by decide +kernel
theorem d1_19 : decode prog_18_method_2_code 19 = .ok (.bipush 122, 2) := by decide +kernel
theorem d1_21 : decode prog_18_method_2_code 21 = .ok (.if_icmp .gt 7, 3) := by decide +kernel
theorem d1_24 : decode prog_18_method_2_code 24 = .ok (.iconst 1, 1) := by decide +kernel
theorem d1_25 : decode prog_18_method_2_code 25 = .ok (.goto 4, 3) := by decide +kernel
theorem d1_28 : decode prog_18_method_2_code 28 = .ok (.iconst 0, 1) := by decide +kernel
theorem d1_29 : decode prog_18_method_2_code 29 = .ok (.istore_n 1, 1) := by decide +kernel
theorem d1_30 : decode prog_18_method_2_code 30 = .ok (.iload_n 1, 1) := by decide +kernel
theorem d1_31 : decode prog_18_method_2_code 31 = .ok (.ifCond .ne 25, 3) := by decide +kernel
theorem d1_34 : decode prog_18_method_2_code 34 = .ok (.iload_n 0, 1) := by decide +kernel
theorem d1_35 : decode prog_18_method_2_code 35 = .ok (.bipush 48, 2) := by decide +kernel
theorem d1_37 : decode prog_18_method_2_code 37 = .ok (.if_icmp .lt 9, 3) := by decide +kernel
theorem d1_40 : decode prog_18_method_2_code 40 = .ok (.iload_n 0, 1) := by decide +kernel
theorem d1_41 : decode prog_18_method_2_code 41 = .ok (.bipush 57, 2) := by decide +kernel
theorem d1_43 : decode prog_18_method_2_code 43 = .ok (.if_icmp .le 13, 3) := by decide +kernel
theorem d1_46 : decode prog_18_method_2_code 46 = .ok (.iload_n 0, 1) := by decide +kernel
theorem d1_47 : decode prog_18_method_2_code 47 = .ok (.bipush 32, 2) := by decide +kernel
theorem d1_49 : decode prog_18_method_2_code 49 = .ok (.if_icmp .eq 7, 3) := by decide +kernel
theorem d1_52 : decode prog_18_method_2_code 52 = .ok (.iconst 1, 1) := by decide +kernel
theorem d1_53 : decode prog_18_method_2_code 53 = .ok (.goto 4, 3) := by decide +kernel
theorem d1_56 : decode prog_18_method_2_code 56 = .ok (.iconst 0, 1) := by decide +kernel
theorem d1_57 : decode prog_18_method_2_code 57 = .ok (.ireturn, 1) := by decide +kernel
theorem ef_1 (m : MethodId) (p0 : Int32) : entryFrame m #[(.int p0)] 2 = mkF m 0 #[.val (.int p0), .unset] [] := by first | (simp [entryFrame, mkF, argsToLocals, Value.category]; done) | rfl
def f1 (p0 : Int32) : Int32 := (if p0 < (65 : Int32) then (if p0 < (97 : Int32) then (if p0 < (48 : Int32) then (if p0 = (32 : Int32) then (0 : Int32) else (1 : Int32)) else (if (57 : Int32) < p0 then (if p0 = (32 : Int32) then (0 : Int32) else (1 : Int32)) else (0 : Int32))) else (if (122 : Int32) < p0 then (if p0 < (48 : Int32) then (if p0 = (32 : Int32) then (0 : Int32) else (1 : Int32)) else (if (57 : Int32) < p0 then (if p0 = (32 : Int32) then (0 : Int32) else (1 : Int32)) else (0 : Int32))) else (0 : Int32))) else (if (90 : Int32) < p0 then (if p0 < (97 : Int32) then (if p0 < (48 : Int32) then (if p0 = (32 : Int32) then (0 : Int32) else (1 : Int32)) else (if (57 : Int32) < p0 then (if p0 = (32 : Int32) then (0 : Int32) else (1 : Int32)) else (0 : Int32))) else (if (122 : Int32) < p0 then (if p0 < (48 : Int32) then (if p0 = (32 : Int32) then (0 : Int32) else (1 : Int32)) else (if (57 : Int32) < p0 then (if p0 = (32 : Int32) then (0 : Int32) else (1 : Int32)) else (0 : Int32))) else (0 : Int32))) else (0 : Int32)))
def Q1 (Z : State) (p0 : Int32) (h0 : Heap) (n0 : Nat) (v : Option Value) (h : Heap) (L : List Loc) : Prop := v = some (.int (f1 p0)) ∧ Fr n0 L ∧ h = h0
set_option maxRecDepth 65536 in
set_option maxHeartbeats 40000000 in
theorem rm1 (l : Launch) (Z : State) (a0 : Array Value) (hw : ∀ d ∈ tables_1, d.before a0 Z = true) (ws : List Jvm.Cond) (p0 : Int32) (h0 : Heap) (n0 : Nat) (Z0 : n0 ≤ h0.size) :
    MetFree l (⟨"com/example/segmentry/segmentry/io/Delimiters", "canBe", "(I)Z"⟩ : MethodName) (head1 (Jvm.Cond.code (⟨"com/example/segmentry/segmentry/io/Delimiters", "canBe", "(I)Z"⟩ : MethodName) prog_18_method_2_code 2 (some .boolean) :: ws) ({ frames := 0, cells := 0, slots := 0, locals := 0 } : Room)) (fun a U => a = #[(.int p0)] ∧ Z.Warmed39 U.vm ∧ U.heap = h0) (fun _ _ _ _ _ => True) (fun _ U o U' => ∃ v L, o = .returned v ∧ Q1 Z p0 h0 n0 v U'.heap L ∧ FrameEnd U o U' L ({ frames := 0, cells := 0, slots := 0, locals := 0 } : Room).cells ({ frames := 0, cells := 0, slots := 0, locals := 0 } : Room).slots) := by
  refine MetFree.of_bodySF (plainFor_of_name pn_0) hisR ?_
  intro p e s m args below meth c s₁ Bd hml0 hP hK
  obtain ⟨rfl, hZ, hh⟩ := hP
  have hx := Bd.exec
  have hby := Bd.bytes
  have hml : c.maxLocals = 2 := hml0
  have hown : s.vm.findClass "com/example/segmentry/segmentry/io/Delimiters" = some m.cls := findClass_of_methodNamed Bd.named
  have hnm := (name_of_methodNamed Bd.named Bd.method).1
  have X0 : Stand p l e ({ frames := 0, cells := 0, slots := 0, locals := 0 } : Room) s m #[(.int p0)] below meth c s₁ [] 0 0 := Stand.of_body Bd
  have e0 : s₁.heap = h0 := by rw [← hh, Bd.state]; rfl
  have N0 := Fr.nil n0
  have pre0 : own_Go p e below (s₁.setTop (entryFrame m #[(.int p0)] 2)) (s₁.setTop (mkF m 0 #[.val (.int p0), .unset] [])) := fun t k => castTop (ef_1 m p0) k
  have k1 : own_Go p e below (s₁.setTop (entryFrame m #[(.int p0)] 2)) (s₁.setTop (mkF m 3 #[.val (.int p0), .unset] [(.int (65 : Int32)), (.int p0)])) := by
    intro t k
    refine pre0 t ?_
    show Steps p.tables e below (s₁.setTop (mkF m 0 #[.val (.int p0), .unset] [])) t
    refine XS.iloadN X0.here hx rfl (hb hby d1_0) rfl ?_
    show Steps p.tables e below (s₁.setTop (mkF m 1 #[.val (.int p0), .unset] [(.int p0)])) t
    refine XS.bipush X0.here hx rfl (hb hby d1_1) ?_
    exact k
  by_cases hc3_2 : p0 < (65 : Int32)
  · have k3 : own_Go p e below (s₁.setTop (entryFrame m #[(.int p0)] 2)) (s₁.setTop (mkF m 15 #[.val (.int p0), .unset] [(.int (97 : Int32)), (.int p0)])) := by
      intro t k
      refine k1 t ?_
      show Steps p.tables e below (s₁.setTop (mkF m 3 #[.val (.int p0), .unset] [(.int (65 : Int32)), (.int p0)])) t
      refine XS.icmpYes X0.here hx rfl (pc0 := 3) (pc' := 12) rfl (hb hby d1_3) rfl (tlt hc3_2).1 (by decide) (by decide) ?_
      show Steps p.tables e below (s₁.setTop (mkF m 12 #[.val (.int p0), .unset] [])) t
      refine XS.iloadN X0.here hx rfl (hb hby d1_12) rfl ?_
      show Steps p.tables e below (s₁.setTop (mkF m 13 #[.val (.int p0), .unset] [(.int p0)])) t
      refine XS.bipush X0.here hx rfl (hb hby d1_13) ?_
      exact k
    by_cases hc15_4 : p0 < (97 : Int32)
    · have k5 : own_Go p e below (s₁.setTop (entryFrame m #[(.int p0)] 2)) (s₁.setTop (mkF m 37 #[.val (.int p0), .val (.int (0 : Int32))] [(.int (48 : Int32)), (.int p0)])) := by
        intro t k
        refine k3 t ?_
        show Steps p.tables e below (s₁.setTop (mkF m 15 #[.val (.int p0), .unset] [(.int (97 : Int32)), (.int p0)])) t
        refine XS.icmpYes X0.here hx rfl (pc0 := 15) (pc' := 28) rfl (hb hby d1_15) rfl (tlt hc15_4).1 (by decide) (by decide) ?_
        show Steps p.tables e below (s₁.setTop (mkF m 28 #[.val (.int p0), .unset] [])) t
        refine XS.iconst X0.here hx rfl (hb hby d1_28) ?_
        show Steps p.tables e below (s₁.setTop (mkF m 29 #[.val (.int p0), .unset] [(.int (0 : Int32))])) t
        refine XS.istoreN X0.here hx rfl (hb hby d1_29) rfl (l' := #[.val (.int p0), .val (.int (0 : Int32))]) rfl ?_
        show Steps p.tables e below (s₁.setTop (mkF m 30 #[.val (.int p0), .val (.int (0 : Int32))] [])) t
        refine XS.iloadN X0.here hx rfl (hb hby d1_30) rfl ?_
        show Steps p.tables e below (s₁.setTop (mkF m 31 #[.val (.int p0), .val (.int (0 : Int32))] [(.int (0 : Int32))])) t
        refine XS.ifNo X0.here hx rfl (hb hby d1_31) rfl ((if0 _ _).trans (teq (by decide : (0 : Int32) = (0 : Int32))).2) ?_
        show Steps p.tables e below (s₁.setTop (mkF m 34 #[.val (.int p0), .val (.int (0 : Int32))] [])) t
        refine XS.iloadN X0.here hx rfl (hb hby d1_34) rfl ?_
        show Steps p.tables e below (s₁.setTop (mkF m 35 #[.val (.int p0), .val (.int (0 : Int32))] [(.int p0)])) t
        refine XS.bipush X0.here hx rfl (hb hby d1_35) ?_
        exact k
      by_cases hc37_6 : p0 < (48 : Int32)
      · have k7 : own_Go p e below (s₁.setTop (entryFrame m #[(.int p0)] 2)) (s₁.setTop (mkF m 49 #[.val (.int p0), .val (.int (0 : Int32))] [(.int (32 : Int32)), (.int p0)])) := by
          intro t k
          refine k5 t ?_
          show Steps p.tables e below (s₁.setTop (mkF m 37 #[.val (.int p0), .val (.int (0 : Int32))] [(.int (48 : Int32)), (.int p0)])) t
          refine XS.icmpYes X0.here hx rfl (pc0 := 37) (pc' := 46) rfl (hb hby d1_37) rfl (tlt hc37_6).1 (by decide) (by decide) ?_
          show Steps p.tables e below (s₁.setTop (mkF m 46 #[.val (.int p0), .val (.int (0 : Int32))] [])) t
          refine XS.iloadN X0.here hx rfl (hb hby d1_46) rfl ?_
          show Steps p.tables e below (s₁.setTop (mkF m 47 #[.val (.int p0), .val (.int (0 : Int32))] [(.int p0)])) t
          refine XS.bipush X0.here hx rfl (hb hby d1_47) ?_
          exact k
        by_cases hc49_8 : p0 = (32 : Int32)
        · have k9 : own_Go p e below (s₁.setTop (entryFrame m #[(.int p0)] 2)) (s₁.setTop (mkF m 57 #[.val (.int p0), .val (.int (0 : Int32))] [(.int (0 : Int32))])) := by
            intro t k
            refine k7 t ?_
            show Steps p.tables e below (s₁.setTop (mkF m 49 #[.val (.int p0), .val (.int (0 : Int32))] [(.int (32 : Int32)), (.int p0)])) t
            refine XS.icmpYes X0.here hx rfl (pc0 := 49) (pc' := 56) rfl (hb hby d1_49) rfl (teq hc49_8).1 (by decide) (by decide) ?_
            show Steps p.tables e below (s₁.setTop (mkF m 56 #[.val (.int p0), .val (.int (0 : Int32))] [])) t
            refine XS.iconst X0.here hx rfl (hb hby d1_56) ?_
            exact k
          obtain ⟨fs, hr, hrun, hended, hW, hsame⟩ := X0.leave (v := some (.int (0 : Int32))) (fun h => by rw [Bd.returns] at h; cases h)
          refine ⟨_, _, k9 _ ?_, hrun, hended, _, _, rfl, ?_, ⟨_, rfl⟩, hW, hsame.mono (by decide) (by decide)⟩
          · exact retN X0 hx (t := .boolean) Bd.returns (by simp) (hb hby d1_57) hr
          · show Q1 Z p0 h0 n0 _ s₁.heap _
            rw [e0]
            exact ⟨congrArg (fun z => some (Value.int z)) (show f1 p0 = (0 : Int32) from (by unfold f1; rw [if_pos hc3_2, if_pos hc15_4, if_pos hc37_6, if_pos hc49_8])).symm, N0, rfl⟩
        · have k10 : own_Go p e below (s₁.setTop (entryFrame m #[(.int p0)] 2)) (s₁.setTop (mkF m 57 #[.val (.int p0), .val (.int (0 : Int32))] [(.int (1 : Int32))])) := by
            intro t k
            refine k7 t ?_
            show Steps p.tables e below (s₁.setTop (mkF m 49 #[.val (.int p0), .val (.int (0 : Int32))] [(.int (32 : Int32)), (.int p0)])) t
            refine XS.icmpNo X0.here hx rfl (hb hby d1_49) rfl (feq hc49_8).1 ?_
            show Steps p.tables e below (s₁.setTop (mkF m 52 #[.val (.int p0), .val (.int (0 : Int32))] [])) t
            refine XS.iconst X0.here hx rfl (hb hby d1_52) ?_
            show Steps p.tables e below (s₁.setTop (mkF m 53 #[.val (.int p0), .val (.int (0 : Int32))] [(.int (1 : Int32))])) t
            refine XS.goto X0.here hx rfl (pc0 := 53) (pc' := 57) rfl (hb hby d1_53) (by decide) (by decide) ?_
            exact k
          obtain ⟨fs, hr, hrun, hended, hW, hsame⟩ := X0.leave (v := some (.int (1 : Int32))) (fun h => by rw [Bd.returns] at h; cases h)
          refine ⟨_, _, k10 _ ?_, hrun, hended, _, _, rfl, ?_, ⟨_, rfl⟩, hW, hsame.mono (by decide) (by decide)⟩
          · exact retN X0 hx (t := .boolean) Bd.returns (by simp) (hb hby d1_57) hr
          · show Q1 Z p0 h0 n0 _ s₁.heap _
            rw [e0]
            exact ⟨congrArg (fun z => some (Value.int z)) (show f1 p0 = (1 : Int32) from (by unfold f1; rw [if_pos hc3_2, if_pos hc15_4, if_pos hc37_6, if_neg hc49_8])).symm, N0, rfl⟩
      · have k11 : own_Go p e below (s₁.setTop (entryFrame m #[(.int p0)] 2)) (s₁.setTop (mkF m 43 #[.val (.int p0), .val (.int (0 : Int32))] [(.int (57 : Int32)), (.int p0)])) := by
          intro t k
          refine k5 t ?_
          show Steps p.tables e below (s₁.setTop (mkF m 37 #[.val (.int p0), .val (.int (0 : Int32))] [(.int (48 : Int32)), (.int p0)])) t
          refine XS.icmpNo X0.here hx rfl (hb hby d1_37) rfl (flt hc37_6).1 ?_
          show Steps p.tables e below (s₁.setTop (mkF m 40 #[.val (.int p0), .val (.int (0 : Int32))] [])) t
          refine XS.iloadN X0.here hx rfl (hb hby d1_40) rfl ?_
          show Steps p.tables e below (s₁.setTop (mkF m 41 #[.val (.int p0), .val (.int (0 : Int32))] [(.int p0)])) t
          refine XS.bipush X0.here hx rfl (hb hby d1_41) ?_
          exact k
        by_cases hc43_12 : (57 : Int32) < p0
        · have k13 : own_Go p e below (s₁.setTop (entryFrame m #[(.int p0)] 2)) (s₁.setTop (mkF m 49 #[.val (.int p0), .val (.int (0 : Int32))] [(.int (32 : Int32)), (.int p0)])) := by
            intro t k
            refine k11 t ?_
            show Steps p.tables e below (s₁.setTop (mkF m 43 #[.val (.int p0), .val (.int (0 : Int32))] [(.int (57 : Int32)), (.int p0)])) t
            refine XS.icmpNo X0.here hx rfl (hb hby d1_43) rfl (tlt hc43_12).2.2.2 ?_
            show Steps p.tables e below (s₁.setTop (mkF m 46 #[.val (.int p0), .val (.int (0 : Int32))] [])) t
            refine XS.iloadN X0.here hx rfl (hb hby d1_46) rfl ?_
            show Steps p.tables e below (s₁.setTop (mkF m 47 #[.val (.int p0), .val (.int (0 : Int32))] [(.int p0)])) t
            refine XS.bipush X0.here hx rfl (hb hby d1_47) ?_
            exact k
          by_cases hc49_14 : p0 = (32 : Int32)
          · have k15 : own_Go p e below (s₁.setTop (entryFrame m #[(.int p0)] 2)) (s₁.setTop (mkF m 57 #[.val (.int p0), .val (.int (0 : Int32))] [(.int (0 : Int32))])) := by
              intro t k
              refine k13 t ?_
              show Steps p.tables e below (s₁.setTop (mkF m 49 #[.val (.int p0), .val (.int (0 : Int32))] [(.int (32 : Int32)), (.int p0)])) t
              refine XS.icmpYes X0.here hx rfl (pc0 := 49) (pc' := 56) rfl (hb hby d1_49) rfl (teq hc49_14).1 (by decide) (by decide) ?_
              show Steps p.tables e below (s₁.setTop (mkF m 56 #[.val (.int p0), .val (.int (0 : Int32))] [])) t
              refine XS.iconst X0.here hx rfl (hb hby d1_56) ?_
              exact k
            obtain ⟨fs, hr, hrun, hended, hW, hsame⟩ := X0.leave (v := some (.int (0 : Int32))) (fun h => by rw [Bd.returns] at h; cases h)
            refine ⟨_, _, k15 _ ?_, hrun, hended, _, _, rfl, ?_, ⟨_, rfl⟩, hW, hsame.mono (by decide) (by decide)⟩
            · exact retN X0 hx (t := .boolean) Bd.returns (by simp) (hb hby d1_57) hr
            · show Q1 Z p0 h0 n0 _ s₁.heap _
              rw [e0]
              exact ⟨congrArg (fun z => some (Value.int z)) (show f1 p0 = (0 : Int32) from (by unfold f1; rw [if_pos hc3_2, if_pos hc15_4, if_neg hc37_6, if_pos hc43_12, if_pos hc49_14])).symm, N0, rfl⟩
          · have k16 : own_Go p e below (s₁.setTop (entryFrame m #[(.int p0)] 2)) (s₁.setTop (mkF m 57 #[.val (.int p0), .val (.int (0 : Int32))] [(.int (1 : Int32))])) := by
              intro t k
              refine k13 t ?_
              show Steps p.tables e below (s₁.setTop (mkF m 49 #[.val (.int p0), .val (.int (0 : Int32))] [(.int (32 : Int32)), (.int p0)])) t
              refine XS.icmpNo X0.here hx rfl (hb hby d1_49) rfl (feq hc49_14).1 ?_
              show Steps p.tables e below (s₁.setTop (mkF m 52 #[.val (.int p0), .val (.int (0 : Int32))] [])) t
              refine XS.iconst X0.here hx rfl (hb hby d1_52) ?_
              show Steps p.tables e below (s₁.setTop (mkF m 53 #[.val (.int p0), .val (.int (0 : Int32))] [(.int (1 : Int32))])) t
              refine XS.goto X0.here hx rfl (pc0 := 53) (pc' := 57) rfl (hb hby d1_53) (by decide) (by decide) ?_
              exact k
            obtain ⟨fs, hr, hrun, hended, hW, hsame⟩ := X0.leave (v := some (.int (1 : Int32))) (fun h => by rw [Bd.returns] at h; cases h)
            refine ⟨_, _, k16 _ ?_, hrun, hended, _, _, rfl, ?_, ⟨_, rfl⟩, hW, hsame.mono (by decide) (by decide)⟩
            · exact retN X0 hx (t := .boolean) Bd.returns (by simp) (hb hby d1_57) hr
            · show Q1 Z p0 h0 n0 _ s₁.heap _
              rw [e0]
              exact ⟨congrArg (fun z => some (Value.int z)) (show f1 p0 = (1 : Int32) from (by unfold f1; rw [if_pos hc3_2, if_pos hc15_4, if_neg hc37_6, if_pos hc43_12, if_neg hc49_14])).symm, N0, rfl⟩
        · have k17 : own_Go p e below (s₁.setTop (entryFrame m #[(.int p0)] 2)) (s₁.setTop (mkF m 57 #[.val (.int p0), .val (.int (0 : Int32))] [(.int (0 : Int32))])) := by
            intro t k
            refine k11 t ?_
            show Steps p.tables e below (s₁.setTop (mkF m 43 #[.val (.int p0), .val (.int (0 : Int32))] [(.int (57 : Int32)), (.int p0)])) t
            refine XS.icmpYes X0.here hx rfl (pc0 := 43) (pc' := 56) rfl (hb hby d1_43) rfl (flt hc43_12).2.2.2 (by decide) (by decide) ?_
            show Steps p.tables e below (s₁.setTop (mkF m 56 #[.val (.int p0), .val (.int (0 : Int32))] [])) t
            refine XS.iconst X0.here hx rfl (hb hby d1_56) ?_
            exact k
          obtain ⟨fs, hr, hrun, hended, hW, hsame⟩ := X0.leave (v := some (.int (0 : Int32))) (fun h => by rw [Bd.returns] at h; cases h)
          refine ⟨_, _, k17 _ ?_, hrun, hended, _, _, rfl, ?_, ⟨_, rfl⟩, hW, hsame.mono (by decide) (by decide)⟩
          · exact retN X0 hx (t := .boolean) Bd.returns (by simp) (hb hby d1_57) hr
          · show Q1 Z p0 h0 n0 _ s₁.heap _
            rw [e0]
            exact ⟨congrArg (fun z => some (Value.int z)) (show f1 p0 = (0 : Int32) from (by unfold f1; rw [if_pos hc3_2, if_pos hc15_4, if_neg hc37_6, if_neg hc43_12])).symm, N0, rfl⟩
    · have k18 : own_Go p e below (s₁.setTop (entryFrame m #[(.int p0)] 2)) (s₁.setTop (mkF m 21 #[.val (.int p0), .unset] [(.int (122 : Int32)), (.int p0)])) := by
        intro t k
        refine k3 t ?_
        show Steps p.tables e below (s₁.setTop (mkF m 15 #[.val (.int p0), .unset] [(.int (97 : Int32)), (.int p0)])) t
        refine XS.icmpNo X0.here hx rfl (hb hby d1_15) rfl (flt hc15_4).1 ?_
        show Steps p.tables e below (s₁.setTop (mkF m 18 #[.val (.int p0), .unset] [])) t
        refine XS.iloadN X0.here hx rfl (hb hby d1_18) rfl ?_
        show Steps p.tables e below (s₁.setTop (mkF m 19 #[.val (.int p0), .unset] [(.int p0)])) t
        refine XS.bipush X0.here hx rfl (hb hby d1_19) ?_
        exact k
      by_cases hc21_19 : (122 : Int32) < p0
      · have k20 : own_Go p e below (s₁.setTop (entryFrame m #[(.int p0)] 2)) (s₁.setTop (mkF m 37 #[.val (.int p0), .val (.int (0 : Int32))] [(.int (48 : Int32)), (.int p0)])) := by
          intro t k
          refine k18 t ?_
          show Steps p.tables e below (s₁.setTop (mkF m 21 #[.val (.int p0), .unset] [(.int (122 : Int32)), (.int p0)])) t
          refine XS.icmpYes X0.here hx rfl (pc0 := 21) (pc' := 28) rfl (hb hby d1_21) rfl (tlt hc21_19).2.2.1 (by decide) (by decide) ?_
          show Steps p.tables e below (s₁.setTop (mkF m 28 #[.val (.int p0), .unset] [])) t
          refine XS.iconst X0.here hx rfl (hb hby d1_28) ?_
          show Steps p.tables e below (s₁.setTop (mkF m 29 #[.val (.int p0), .unset] [(.int (0 : Int32))])) t
          refine XS.istoreN X0.here hx rfl (hb hby d1_29) rfl (l' := #[.val (.int p0), .val (.int (0 : Int32))]) rfl ?_
          show Steps p.tables e below (s₁.setTop (mkF m 30 #[.val (.int p0), .val (.int (0 : Int32))] [])) t
          refine XS.iloadN X0.here hx rfl (hb hby d1_30) rfl ?_
          show Steps p.tables e below (s₁.setTop (mkF m 31 #[.val (.int p0), .val (.int (0 : Int32))] [(.int (0 : Int32))])) t
          refine XS.ifNo X0.here hx rfl (hb hby d1_31) rfl ((if0 _ _).trans (teq (by decide : (0 : Int32) = (0 : Int32))).2) ?_
          show Steps p.tables e below (s₁.setTop (mkF m 34 #[.val (.int p0), .val (.int (0 : Int32))] [])) t
          refine XS.iloadN X0.here hx rfl (hb hby d1_34) rfl ?_
          show Steps p.tables e below (s₁.setTop (mkF m 35 #[.val (.int p0), .val (.int (0 : Int32))] [(.int p0)])) t
          refine XS.bipush X0.here hx rfl (hb hby d1_35) ?_
          exact k
        by_cases hc37_21 : p0 < (48 : Int32)
        · have k22 : own_Go p e below (s₁.setTop (entryFrame m #[(.int p0)] 2)) (s₁.setTop (mkF m 49 #[.val (.int p0), .val (.int (0 : Int32))] [(.int (32 : Int32)), (.int p0)])) := by
            intro t k
            refine k20 t ?_
            show Steps p.tables e below (s₁.setTop (mkF m 37 #[.val (.int p0), .val (.int (0 : Int32))] [(.int (48 : Int32)), (.int p0)])) t
            refine XS.icmpYes X0.here hx rfl (pc0 := 37) (pc' := 46) rfl (hb hby d1_37) rfl (tlt hc37_21).1 (by decide) (by decide) ?_
            show Steps p.tables e below (s₁.setTop (mkF m 46 #[.val (.int p0), .val (.int (0 : Int32))] [])) t
            refine XS.iloadN X0.here hx rfl (hb hby d1_46) rfl ?_
            show Steps p.tables e below (s₁.setTop (mkF m 47 #[.val (.int p0), .val (.int (0 : Int32))] [(.int p0)])) t
            refine XS.bipush X0.here hx rfl (hb hby d1_47) ?_
            exact k
          by_cases hc49_23 : p0 = (32 : Int32)
          · have k24 : own_Go p e below (s₁.setTop (entryFrame m #[(.int p0)] 2)) (s₁.setTop (mkF m 57 #[.val (.int p0), .val (.int (0 : Int32))] [(.int (0 : Int32))])) := by
              intro t k
              refine k22 t ?_
              show Steps p.tables e below (s₁.setTop (mkF m 49 #[.val (.int p0), .val (.int (0 : Int32))] [(.int (32 : Int32)), (.int p0)])) t
              refine XS.icmpYes X0.here hx rfl (pc0 := 49) (pc' := 56) rfl (hb hby d1_49) rfl (teq hc49_23).1 (by decide) (by decide) ?_
              show Steps p.tables e below (s₁.setTop (mkF m 56 #[.val (.int p0), .val (.int (0 : Int32))] [])) t
              refine XS.iconst X0.here hx rfl (hb hby d1_56) ?_
              exact k
            obtain ⟨fs, hr, hrun, hended, hW, hsame⟩ := X0.leave (v := some (.int (0 : Int32))) (fun h => by rw [Bd.returns] at h; cases h)
            refine ⟨_, _, k24 _ ?_, hrun, hended, _, _, rfl, ?_, ⟨_, rfl⟩, hW, hsame.mono (by decide) (by decide)⟩
            · exact retN X0 hx (t := .boolean) Bd.returns (by simp) (hb hby d1_57) hr
            · show Q1 Z p0 h0 n0 _ s₁.heap _
              rw [e0]
              exact ⟨congrArg (fun z => some (Value.int z)) (show f1 p0 = (0 : Int32) from (by unfold f1; rw [if_pos hc3_2, if_neg hc15_4, if_pos hc21_19, if_pos hc37_21, if_pos hc49_23])).symm, N0, rfl⟩
          · have k25 : own_Go p e below (s₁.setTop (entryFrame m #[(.int p0)] 2)) (s₁.setTop (mkF m 57 #[.val (.int p0), .val (.int (0 : Int32))] [(.int (1 : Int32))])) := by
              intro t k
              refine k22 t ?_
              show Steps p.tables e below (s₁.setTop (mkF m 49 #[.val (.int p0), .val (.int (0 : Int32))] [(.int (32 : Int32)), (.int p0)])) t
              refine XS.icmpNo X0.here hx rfl (hb hby d1_49) rfl (feq hc49_23).1 ?_
              show Steps p.tables e below (s₁.setTop (mkF m 52 #[.val (.int p0), .val (.int (0 : Int32))] [])) t
              refine XS.iconst X0.here hx rfl (hb hby d1_52) ?_
              show Steps p.tables e below (s₁.setTop (mkF m 53 #[.val (.int p0), .val (.int (0 : Int32))] [(.int (1 : Int32))])) t
              refine XS.goto X0.here hx rfl (pc0 := 53) (pc' := 57) rfl (hb hby d1_53) (by decide) (by decide) ?_
              exact k
            obtain ⟨fs, hr, hrun, hended, hW, hsame⟩ := X0.leave (v := some (.int (1 : Int32))) (fun h => by rw [Bd.returns] at h; cases h)
            refine ⟨_, _, k25 _ ?_, hrun, hended, _, _, rfl, ?_, ⟨_, rfl⟩, hW, hsame.mono (by decide) (by decide)⟩
            · exact retN X0 hx (t := .boolean) Bd.returns (by simp) (hb hby d1_57) hr
            · show Q1 Z p0 h0 n0 _ s₁.heap _
              rw [e0]
              exact ⟨congrArg (fun z => some (Value.int z)) (show f1 p0 = (1 : Int32) from (by unfold f1; rw [if_pos hc3_2, if_neg hc15_4, if_pos hc21_19, if_pos hc37_21, if_neg hc49_23])).symm, N0, rfl⟩
        · have k26 : own_Go p e below (s₁.setTop (entryFrame m #[(.int p0)] 2)) (s₁.setTop (mkF m 43 #[.val (.int p0), .val (.int (0 : Int32))] [(.int (57 : Int32)), (.int p0)])) := by
            intro t k
            refine k20 t ?_
            show Steps p.tables e below (s₁.setTop (mkF m 37 #[.val (.int p0), .val (.int (0 : Int32))] [(.int (48 : Int32)), (.int p0)])) t
            refine XS.icmpNo X0.here hx rfl (hb hby d1_37) rfl (flt hc37_21).1 ?_
            show Steps p.tables e below (s₁.setTop (mkF m 40 #[.val (.int p0), .val (.int (0 : Int32))] [])) t
            refine XS.iloadN X0.here hx rfl (hb hby d1_40) rfl ?_
            show Steps p.tables e below (s₁.setTop (mkF m 41 #[.val (.int p0), .val (.int (0 : Int32))] [(.int p0)])) t
            refine XS.bipush X0.here hx rfl (hb hby d1_41) ?_
            exact k
          by_cases hc43_27 : (57 : Int32) < p0
          · have k28 : own_Go p e below (s₁.setTop (entryFrame m #[(.int p0)] 2)) (s₁.setTop (mkF m 49 #[.val (.int p0), .val (.int (0 : Int32))] [(.int (32 : Int32)), (.int p0)])) := by
              intro t k
              refine k26 t ?_
              show Steps p.tables e below (s₁.setTop (mkF m 43 #[.val (.int p0), .val (.int (0 : Int32))] [(.int (57 : Int32)), (.int p0)])) t
              refine XS.icmpNo X0.here hx rfl (hb hby d1_43) rfl (tlt hc43_27).2.2.2 ?_
              show Steps p.tables e below (s₁.setTop (mkF m 46 #[.val (.int p0), .val (.int (0 : Int32))] [])) t
              refine XS.iloadN X0.here hx rfl (hb hby d1_46) rfl ?_
              show Steps p.tables e below (s₁.setTop (mkF m 47 #[.val (.int p0), .val (.int (0 : Int32))] [(.int p0)])) t
              refine XS.bipush X0.here hx rfl (hb hby d1_47) ?_
              exact k
            by_cases hc49_29 : p0 = (32 : Int32)
            · have k30 : own_Go p e below (s₁.setTop (entryFrame m #[(.int p0)] 2)) (s₁.setTop (mkF m 57 #[.val (.int p0), .val (.int (0 : Int32))] [(.int (0 : Int32))])) := by
                intro t k
                refine k28 t ?_
                show Steps p.tables e below (s₁.setTop (mkF m 49 #[.val (.int p0), .val (.int (0 : Int32))] [(.int (32 : Int32)), (.int p0)])) t
                refine XS.icmpYes X0.here hx rfl (pc0 := 49) (pc' := 56) rfl (hb hby d1_49) rfl (teq hc49_29).1 (by decide) (by decide) ?_
                show Steps p.tables e below (s₁.setTop (mkF m 56 #[.val (.int p0), .val (.int (0 : Int32))] [])) t
                refine XS.iconst X0.here hx rfl (hb hby d1_56) ?_
                exact k
              obtain ⟨fs, hr, hrun, hended, hW, hsame⟩ := X0.leave (v := some (.int (0 : Int32))) (fun h => by rw [Bd.returns] at h; cases h)
              refine ⟨_, _, k30 _ ?_, hrun, hended, _, _, rfl, ?_, ⟨_, rfl⟩, hW, hsame.mono (by decide) (by decide)⟩
              · exact retN X0 hx (t := .boolean) Bd.returns (by simp) (hb hby d1_57) hr
              · show Q1 Z p0 h0 n0 _ s₁.heap _
                rw [e0]
                exact ⟨congrArg (fun z => some (Value.int z)) (show f1 p0 = (0 : Int32) from (by unfold f1; rw [if_pos hc3_2, if_neg hc15_4, if_pos hc21_19, if_neg hc37_21, if_pos hc43_27, if_pos hc49_29])).symm, N0, rfl⟩
            · have k31 : own_Go p e below (s₁.setTop (entryFrame m #[(.int p0)] 2)) (s₁.setTop (mkF m 57 #[.val (.int p0), .val (.int (0 : Int32))] [(.int (1 : Int32))])) := by
                intro t k
                refine k28 t ?_
                show Steps p.tables e below (s₁.setTop (mkF m 49 #[.val (.int p0), .val (.int (0 : Int32))] [(.int (32 : Int32)), (.int p0)])) t
                refine XS.icmpNo X0.here hx rfl (hb hby d1_49) rfl (feq hc49_29).1 ?_
                show Steps p.tables e below (s₁.setTop (mkF m 52 #[.val (.int p0), .val (.int (0 : Int32))] [])) t
                refine XS.iconst X0.here hx rfl (hb hby d1_52) ?_
                show Steps p.tables e below (s₁.setTop (mkF m 53 #[.val (.int p0), .val (.int (0 : Int32))] [(.int (1 : Int32))])) t
                refine XS.goto X0.here hx rfl (pc0 := 53) (pc' := 57) rfl (hb hby d1_53) (by decide) (by decide) ?_
                exact k
              obtain ⟨fs, hr, hrun, hended, hW, hsame⟩ := X0.leave (v := some (.int (1 : Int32))) (fun h => by rw [Bd.returns] at h; cases h)
              refine ⟨_, _, k31 _ ?_, hrun, hended, _, _, rfl, ?_, ⟨_, rfl⟩, hW, hsame.mono (by decide) (by decide)⟩
              · exact retN X0 hx (t := .boolean) Bd.returns (by simp) (hb hby d1_57) hr
              · show Q1 Z p0 h0 n0 _ s₁.heap _
                rw [e0]
                exact ⟨congrArg (fun z => some (Value.int z)) (show f1 p0 = (1 : Int32) from (by unfold f1; rw [if_pos hc3_2, if_neg hc15_4, if_pos hc21_19, if_neg hc37_21, if_pos hc43_27, if_neg hc49_29])).symm, N0, rfl⟩
          · have k32 : own_Go p e below (s₁.setTop (entryFrame m #[(.int p0)] 2)) (s₁.setTop (mkF m 57 #[.val (.int p0), .val (.int (0 : Int32))] [(.int (0 : Int32))])) := by
              intro t k
              refine k26 t ?_
              show Steps p.tables e below (s₁.setTop (mkF m 43 #[.val (.int p0), .val (.int (0 : Int32))] [(.int (57 : Int32)), (.int p0)])) t
              refine XS.icmpYes X0.here hx rfl (pc0 := 43) (pc' := 56) rfl (hb hby d1_43) rfl (flt hc43_27).2.2.2 (by decide) (by decide) ?_
              show Steps p.tables e below (s₁.setTop (mkF m 56 #[.val (.int p0), .val (.int (0 : Int32))] [])) t
              refine XS.iconst X0.here hx rfl (hb hby d1_56) ?_
              exact k
            obtain ⟨fs, hr, hrun, hended, hW, hsame⟩ := X0.leave (v := some (.int (0 : Int32))) (fun h => by rw [Bd.returns] at h; cases h)
            refine ⟨_, _, k32 _ ?_, hrun, hended, _, _, rfl, ?_, ⟨_, rfl⟩, hW, hsame.mono (by decide) (by decide)⟩
            · exact retN X0 hx (t := .boolean) Bd.returns (by simp) (hb hby d1_57) hr
            · show Q1 Z p0 h0 n0 _ s₁.heap _
              rw [e0]
              exact ⟨congrArg (fun z => some (Value.int z)) (show f1 p0 = (0 : Int32) from (by unfold f1; rw [if_pos hc3_2, if_neg hc15_4, if_pos hc21_19, if_neg hc37_21, if_neg hc43_27])).symm, N0, rfl⟩
      · have k33 : own_Go p e below (s₁.setTop (entryFrame m #[(.int p0)] 2)) (s₁.setTop (mkF m 57 #[.val (.int p0), .val (.int (1 : Int32))] [(.int (0 : Int32))])) := by
          intro t k
          refine k18 t ?_
          show Steps p.tables e below (s₁.setTop (mkF m 21 #[.val (.int p0), .unset] [(.int (122 : Int32)), (.int p0)])) t
          refine XS.icmpNo X0.here hx rfl (hb hby d1_21) rfl (flt hc21_19).2.2.1 ?_
          show Steps p.tables e below (s₁.setTop (mkF m 24 #[.val (.int p0), .unset] [])) t
          refine XS.iconst X0.here hx rfl (hb hby d1_24) ?_
          show Steps p.tables e below (s₁.setTop (mkF m 25 #[.val (.int p0), .unset] [(.int (1 : Int32))])) t
          refine XS.goto X0.here hx rfl (pc0 := 25) (pc' := 29) rfl (hb hby d1_25) (by decide) (by decide) ?_
          show Steps p.tables e below (s₁.setTop (mkF m 29 #[.val (.int p0), .unset] [(.int (1 : Int32))])) t
          refine XS.istoreN X0.here hx rfl (hb hby d1_29) rfl (l' := #[.val (.int p0), .val (.int (1 : Int32))]) rfl ?_
          show Steps p.tables e below (s₁.setTop (mkF m 30 #[.val (.int p0), .val (.int (1 : Int32))] [])) t
          refine XS.iloadN X0.here hx rfl (hb hby d1_30) rfl ?_
          show Steps p.tables e below (s₁.setTop (mkF m 31 #[.val (.int p0), .val (.int (1 : Int32))] [(.int (1 : Int32))])) t
          refine XS.ifYes X0.here hx rfl (pc0 := 31) (pc' := 56) rfl (hb hby d1_31) rfl ((if0 _ _).trans (feq (by decide : ¬ ((1 : Int32) = (0 : Int32)))).2) (by decide) (by decide) ?_
          show Steps p.tables e below (s₁.setTop (mkF m 56 #[.val (.int p0), .val (.int (1 : Int32))] [])) t
          refine XS.iconst X0.here hx rfl (hb hby d1_56) ?_
          exact k
        obtain ⟨fs, hr, hrun, hended, hW, hsame⟩ := X0.leave (v := some (.int (0 : Int32))) (fun h => by rw [Bd.returns] at h; cases h)
        refine ⟨_, _, k33 _ ?_, hrun, hended, _, _, rfl, ?_, ⟨_, rfl⟩, hW, hsame.mono (by decide) (by decide)⟩
        · exact retN X0 hx (t := .boolean) Bd.returns (by simp) (hb hby d1_57) hr
        · show Q1 Z p0 h0 n0 _ s₁.heap _
          rw [e0]
          exact ⟨congrArg (fun z => some (Value.int z)) (show f1 p0 = (0 : Int32) from (by unfold f1; rw [if_pos hc3_2, if_neg hc15_4, if_neg hc21_19])).symm, N0, rfl⟩
  · have k34 : own_Go p e below (s₁.setTop (entryFrame m #[(.int p0)] 2)) (s₁.setTop (mkF m 9 #[.val (.int p0), .unset] [(.int (90 : Int32)), (.int p0)])) := by
      intro t k
      refine k1 t ?_
      show Steps p.tables e below (s₁.setTop (mkF m 3 #[.val (.int p0), .unset] [(.int (65 : Int32)), (.int p0)])) t
      refine XS.icmpNo X0.here hx rfl (hb hby d1_3) rfl (flt hc3_2).1 ?_
      show Steps p.tables e below (s₁.setTop (mkF m 6 #[.val (.int p0), .unset] [])) t
      refine XS.iloadN X0.here hx rfl (hb hby d1_6) rfl ?_
      show Steps p.tables e below (s₁.setTop (mkF m 7 #[.val (.int p0), .unset] [(.int p0)])) t
      refine XS.bipush X0.here hx rfl (hb hby d1_7) ?_
      exact k
    by_cases hc9_35 : (90 : Int32) < p0
    · have k36 : own_Go p e below (s₁.setTop (entryFrame m #[(.int p0)] 2)) (s₁.setTop (mkF m 15 #[.val (.int p0), .unset] [(.int (97 : Int32)), (.int p0)])) := by
        intro t k
        refine k34 t ?_
        show Steps p.tables e below (s₁.setTop (mkF m 9 #[.val (.int p0), .unset] [(.int (90 : Int32)), (.int p0)])) t
        refine XS.icmpNo X0.here hx rfl (hb hby d1_9) rfl (tlt hc9_35).2.2.2 ?_
        show Steps p.tables e below (s₁.setTop (mkF m 12 #[.val (.int p0), .unset] [])) t
        refine XS.iloadN X0.here hx rfl (hb hby d1_12) rfl ?_
        show Steps p.tables e below (s₁.setTop (mkF m 13 #[.val (.int p0), .unset] [(.int p0)])) t
        refine XS.bipush X0.here hx rfl (hb hby d1_13) ?_
        exact k
      by_cases hc15_37 : p0 < (97 : Int32)
      · have k38 : own_Go p e below (s₁.setTop (entryFrame m #[(.int p0)] 2)) (s₁.setTop (mkF m 37 #[.val (.int p0), .val (.int (0 : Int32))] [(.int (48 : Int32)), (.int p0)])) := by
          intro t k
          refine k36 t ?_
          show Steps p.tables e below (s₁.setTop (mkF m 15 #[.val (.int p0), .unset] [(.int (97 : Int32)), (.int p0)])) t
          refine XS.icmpYes X0.here hx rfl (pc0 := 15) (pc' := 28) rfl (hb hby d1_15) rfl (tlt hc15_37).1 (by decide) (by decide) ?_
          show Steps p.tables e below (s₁.setTop (mkF m 28 #[.val (.int p0), .unset] [])) t
          refine XS.iconst X0.here hx rfl (hb hby d1_28) ?_
          show Steps p.tables e below (s₁.setTop (mkF m 29 #[.val (.int p0), .unset] [(.int (0 : Int32))])) t
          refine XS.istoreN X0.here hx rfl (hb hby d1_29) rfl (l' := #[.val (.int p0), .val (.int (0 : Int32))]) rfl ?_
          show Steps p.tables e below (s₁.setTop (mkF m 30 #[.val (.int p0), .val (.int (0 : Int32))] [])) t
          refine XS.iloadN X0.here hx rfl (hb hby d1_30) rfl ?_
          show Steps p.tables e below (s₁.setTop (mkF m 31 #[.val (.int p0), .val (.int (0 : Int32))] [(.int (0 : Int32))])) t
          refine XS.ifNo X0.here hx rfl (hb hby d1_31) rfl ((if0 _ _).trans (teq (by decide : (0 : Int32) = (0 : Int32))).2) ?_
          show Steps p.tables e below (s₁.setTop (mkF m 34 #[.val (.int p0), .val (.int (0 : Int32))] [])) t
          refine XS.iloadN X0.here hx rfl (hb hby d1_34) rfl ?_
          show Steps p.tables e below (s₁.setTop (mkF m 35 #[.val (.int p0), .val (.int (0 : Int32))] [(.int p0)])) t
          refine XS.bipush X0.here hx rfl (hb hby d1_35) ?_
          exact k
        by_cases hc37_39 : p0 < (48 : Int32)
        · have k40 : own_Go p e below (s₁.setTop (entryFrame m #[(.int p0)] 2)) (s₁.setTop (mkF m 49 #[.val (.int p0), .val (.int (0 : Int32))] [(.int (32 : Int32)), (.int p0)])) := by
            intro t k
            refine k38 t ?_
            show Steps p.tables e below (s₁.setTop (mkF m 37 #[.val (.int p0), .val (.int (0 : Int32))] [(.int (48 : Int32)), (.int p0)])) t
            refine XS.icmpYes X0.here hx rfl (pc0 := 37) (pc' := 46) rfl (hb hby d1_37) rfl (tlt hc37_39).1 (by decide) (by decide) ?_
            show Steps p.tables e below (s₁.setTop (mkF m 46 #[.val (.int p0), .val (.int (0 : Int32))] [])) t
            refine XS.iloadN X0.here hx rfl (hb hby d1_46) rfl ?_
            show Steps p.tables e below (s₁.setTop (mkF m 47 #[.val (.int p0), .val (.int (0 : Int32))] [(.int p0)])) t
            refine XS.bipush X0.here hx rfl (hb hby d1_47) ?_
            exact k
          by_cases hc49_41 : p0 = (32 : Int32)
          · have k42 : own_Go p e below (s₁.setTop (entryFrame m #[(.int p0)] 2)) (s₁.setTop (mkF m 57 #[.val (.int p0), .val (.int (0 : Int32))] [(.int (0 : Int32))])) := by
              intro t k
              refine k40 t ?_
              show Steps p.tables e below (s₁.setTop (mkF m 49 #[.val (.int p0), .val (.int (0 : Int32))] [(.int (32 : Int32)), (.int p0)])) t
              refine XS.icmpYes X0.here hx rfl (pc0 := 49) (pc' := 56) rfl (hb hby d1_49) rfl (teq hc49_41).1 (by decide) (by decide) ?_
              show Steps p.tables e below (s₁.setTop (mkF m 56 #[.val (.int p0), .val (.int (0 : Int32))] [])) t
              refine XS.iconst X0.here hx rfl (hb hby d1_56) ?_
              exact k
            obtain ⟨fs, hr, hrun, hended, hW, hsame⟩ := X0.leave (v := some (.int (0 : Int32))) (fun h => by rw [Bd.returns] at h; cases h)
            refine ⟨_, _, k42 _ ?_, hrun, hended, _, _, rfl, ?_, ⟨_, rfl⟩, hW, hsame.mono (by decide) (by decide)⟩
            · exact retN X0 hx (t := .boolean) Bd.returns (by simp) (hb hby d1_57) hr
            · show Q1 Z p0 h0 n0 _ s₁.heap _
              rw [e0]
              exact ⟨congrArg (fun z => some (Value.int z)) (show f1 p0 = (0 : Int32) from (by unfold f1; rw [if_neg hc3_2, if_pos hc9_35, if_pos hc15_37, if_pos hc37_39, if_pos hc49_41])).symm, N0, rfl⟩
          · have k43 : own_Go p e below (s₁.setTop (entryFrame m #[(.int p0)] 2)) (s₁.setTop (mkF m 57 #[.val (.int p0), .val (.int (0 : Int32))] [(.int (1 : Int32))])) := by
              intro t k
              refine k40 t ?_
              show Steps p.tables e below (s₁.setTop (mkF m 49 #[.val (.int p0), .val (.int (0 : Int32))] [(.int (32 : Int32)), (.int p0)])) t
              refine XS.icmpNo X0.here hx rfl (hb hby d1_49) rfl (feq hc49_41).1 ?_
              show Steps p.tables e below (s₁.setTop (mkF m 52 #[.val (.int p0), .val (.int (0 : Int32))] [])) t
              refine XS.iconst X0.here hx rfl (hb hby d1_52) ?_
              show Steps p.tables e below (s₁.setTop (mkF m 53 #[.val (.int p0), .val (.int (0 : Int32))] [(.int (1 : Int32))])) t
              refine XS.goto X0.here hx rfl (pc0 := 53) (pc' := 57) rfl (hb hby d1_53) (by decide) (by decide) ?_
              exact k
            obtain ⟨fs, hr, hrun, hended, hW, hsame⟩ := X0.leave (v := some (.int (1 : Int32))) (fun h => by rw [Bd.returns] at h; cases h)
            refine ⟨_, _, k43 _ ?_, hrun, hended, _, _, rfl, ?_, ⟨_, rfl⟩, hW, hsame.mono (by decide) (by decide)⟩
            · exact retN X0 hx (t := .boolean) Bd.returns (by simp) (hb hby d1_57) hr
            · show Q1 Z p0 h0 n0 _ s₁.heap _
              rw [e0]
              exact ⟨congrArg (fun z => some (Value.int z)) (show f1 p0 = (1 : Int32) from (by unfold f1; rw [if_neg hc3_2, if_pos hc9_35, if_pos hc15_37, if_pos hc37_39, if_neg hc49_41])).symm, N0, rfl⟩
        · have k44 : own_Go p e below (s₁.setTop (entryFrame m #[(.int p0)] 2)) (s₁.setTop (mkF m 43 #[.val (.int p0), .val (.int (0 : Int32))] [(.int (57 : Int32)), (.int p0)])) := by
            intro t k
            refine k38 t ?_
            show Steps p.tables e below (s₁.setTop (mkF m 37 #[.val (.int p0), .val (.int (0 : Int32))] [(.int (48 : Int32)), (.int p0)])) t
            refine XS.icmpNo X0.here hx rfl (hb hby d1_37) rfl (flt hc37_39).1 ?_
            show Steps p.tables e below (s₁.setTop (mkF m 40 #[.val (.int p0), .val (.int (0 : Int32))] [])) t
            refine XS.iloadN X0.here hx rfl (hb hby d1_40) rfl ?_
            show Steps p.tables e below (s₁.setTop (mkF m 41 #[.val (.int p0), .val (.int (0 : Int32))] [(.int p0)])) t
            refine XS.bipush X0.here hx rfl (hb hby d1_41) ?_
            exact k
          by_cases hc43_45 : (57 : Int32) < p0
          · have k46 : own_Go p e below (s₁.setTop (entryFrame m #[(.int p0)] 2)) (s₁.setTop (mkF m 49 #[.val (.int p0), .val (.int (0 : Int32))] [(.int (32 : Int32)), (.int p0)])) := by
              intro t k
              refine k44 t ?_
              show Steps p.tables e below (s₁.setTop (mkF m 43 #[.val (.int p0), .val (.int (0 : Int32))] [(.int (57 : Int32)), (.int p0)])) t
              refine XS.icmpNo X0.here hx rfl (hb hby d1_43) rfl (tlt hc43_45).2.2.2 ?_
              show Steps p.tables e below (s₁.setTop (mkF m 46 #[.val (.int p0), .val (.int (0 : Int32))] [])) t
              refine XS.iloadN X0.here hx rfl (hb hby d1_46) rfl ?_
              show Steps p.tables e below (s₁.setTop (mkF m 47 #[.val (.int p0), .val (.int (0 : Int32))] [(.int p0)])) t
              refine XS.bipush X0.here hx rfl (hb hby d1_47) ?_
              exact k
            by_cases hc49_47 : p0 = (32 : Int32)
            · have k48 : own_Go p e below (s₁.setTop (entryFrame m #[(.int p0)] 2)) (s₁.setTop (mkF m 57 #[.val (.int p0), .val (.int (0 : Int32))] [(.int (0 : Int32))])) := by
                intro t k
                refine k46 t ?_
                show Steps p.tables e below (s₁.setTop (mkF m 49 #[.val (.int p0), .val (.int (0 : Int32))] [(.int (32 : Int32)), (.int p0)])) t
                refine XS.icmpYes X0.here hx rfl (pc0 := 49) (pc' := 56) rfl (hb hby d1_49) rfl (teq hc49_47).1 (by decide) (by decide) ?_
                show Steps p.tables e below (s₁.setTop (mkF m 56 #[.val (.int p0), .val (.int (0 : Int32))] [])) t
                refine XS.iconst X0.here hx rfl (hb hby d1_56) ?_
                exact k
              obtain ⟨fs, hr, hrun, hended, hW, hsame⟩ := X0.leave (v := some (.int (0 : Int32))) (fun h => by rw [Bd.returns] at h; cases h)
              refine ⟨_, _, k48 _ ?_, hrun, hended, _, _, rfl, ?_, ⟨_, rfl⟩, hW, hsame.mono (by decide) (by decide)⟩
              · exact retN X0 hx (t := .boolean) Bd.returns (by simp) (hb hby d1_57) hr
              · show Q1 Z p0 h0 n0 _ s₁.heap _
                rw [e0]
                exact ⟨congrArg (fun z => some (Value.int z)) (show f1 p0 = (0 : Int32) from (by unfold f1; rw [if_neg hc3_2, if_pos hc9_35, if_pos hc15_37, if_neg hc37_39, if_pos hc43_45, if_pos hc49_47])).symm, N0, rfl⟩
            · have k49 : own_Go p e below (s₁.setTop (entryFrame m #[(.int p0)] 2)) (s₁.setTop (mkF m 57 #[.val (.int p0), .val (.int (0 : Int32))] [(.int (1 : Int32))])) := by
                intro t k
                refine k46 t ?_
                show Steps p.tables e below (s₁.setTop (mkF m 49 #[.val (.int p0), .val (.int (0 : Int32))] [(.int (32 : Int32)), (.int p0)])) t
                refine XS.icmpNo X0.here hx rfl (hb hby d1_49) rfl (feq hc49_47).1 ?_
                show Steps p.tables e below (s₁.setTop (mkF m 52 #[.val (.int p0), .val (.int (0 : Int32))] [])) t
                refine XS.iconst X0.here hx rfl (hb hby d1_52) ?_
                show Steps p.tables e below (s₁.setTop (mkF m 53 #[.val (.int p0), .val (.int (0 : Int32))] [(.int (1 : Int32))])) t
                refine XS.goto X0.here hx rfl (pc0 := 53) (pc' := 57) rfl (hb hby d1_53) (by decide) (by decide) ?_
                exact k
              obtain ⟨fs, hr, hrun, hended, hW, hsame⟩ := X0.leave (v := some (.int (1 : Int32))) (fun h => by rw [Bd.returns] at h; cases h)
              refine ⟨_, _, k49 _ ?_, hrun, hended, _, _, rfl, ?_, ⟨_, rfl⟩, hW, hsame.mono (by decide) (by decide)⟩
              · exact retN X0 hx (t := .boolean) Bd.returns (by simp) (hb hby d1_57) hr
              · show Q1 Z p0 h0 n0 _ s₁.heap _
                rw [e0]
                exact ⟨congrArg (fun z => some (Value.int z)) (show f1 p0 = (1 : Int32) from (by unfold f1; rw [if_neg hc3_2, if_pos hc9_35, if_pos hc15_37, if_neg hc37_39, if_pos hc43_45, if_neg hc49_47])).symm, N0, rfl⟩
          · have k50 : own_Go p e below (s₁.setTop (entryFrame m #[(.int p0)] 2)) (s₁.setTop (mkF m 57 #[.val (.int p0), .val (.int (0 : Int32))] [(.int (0 : Int32))])) := by
              intro t k
              refine k44 t ?_
              show Steps p.tables e below (s₁.setTop (mkF m 43 #[.val (.int p0), .val (.int (0 : Int32))] [(.int (57 : Int32)), (.int p0)])) t
              refine XS.icmpYes X0.here hx rfl (pc0 := 43) (pc' := 56) rfl (hb hby d1_43) rfl (flt hc43_45).2.2.2 (by decide) (by decide) ?_
              show Steps p.tables e below (s₁.setTop (mkF m 56 #[.val (.int p0), .val (.int (0 : Int32))] [])) t
              refine XS.iconst X0.here hx rfl (hb hby d1_56) ?_
              exact k
            obtain ⟨fs, hr, hrun, hended, hW, hsame⟩ := X0.leave (v := some (.int (0 : Int32))) (fun h => by rw [Bd.returns] at h; cases h)
            refine ⟨_, _, k50 _ ?_, hrun, hended, _, _, rfl, ?_, ⟨_, rfl⟩, hW, hsame.mono (by decide) (by decide)⟩
            · exact retN X0 hx (t := .boolean) Bd.returns (by simp) (hb hby d1_57) hr
            · show Q1 Z p0 h0 n0 _ s₁.heap _
              rw [e0]
              exact ⟨congrArg (fun z => some (Value.int z)) (show f1 p0 = (0 : Int32) from (by unfold f1; rw [if_neg hc3_2, if_pos hc9_35, if_pos hc15_37, if_neg hc37_39, if_neg hc43_45])).symm, N0, rfl⟩
      · have k51 : own_Go p e below (s₁.setTop (entryFrame m #[(.int p0)] 2)) (s₁.setTop (mkF m 21 #[.val (.int p0), .unset] [(.int (122 : Int32)), (.int p0)])) := by
          intro t k
          refine k36 t ?_
          show Steps p.tables e below (s₁.setTop (mkF m 15 #[.val (.int p0), .unset] [(.int (97 : Int32)), (.int p0)])) t
          refine XS.icmpNo X0.here hx rfl (hb hby d1_15) rfl (flt hc15_37).1 ?_
          show Steps p.tables e below (s₁.setTop (mkF m 18 #[.val (.int p0), .unset] [])) t
          refine XS.iloadN X0.here hx rfl (hb hby d1_18) rfl ?_
          show Steps p.tables e below (s₁.setTop (mkF m 19 #[.val (.int p0), .unset] [(.int p0)])) t
          refine XS.bipush X0.here hx rfl (hb hby d1_19) ?_
          exact k
        by_cases hc21_52 : (122 : Int32) < p0
        · have k53 : own_Go p e below (s₁.setTop (entryFrame m #[(.int p0)] 2)) (s₁.setTop (mkF m 37 #[.val (.int p0), .val (.int (0 : Int32))] [(.int (48 : Int32)), (.int p0)])) := by
            intro t k
            refine k51 t ?_
            show Steps p.tables e below (s₁.setTop (mkF m 21 #[.val (.int p0), .unset] [(.int (122 : Int32)), (.int p0)])) t
            refine XS.icmpYes X0.here hx rfl (pc0 := 21) (pc' := 28) rfl (hb hby d1_21) rfl (tlt hc21_52).2.2.1 (by decide) (by decide) ?_
            show Steps p.tables e below (s₁.setTop (mkF m 28 #[.val (.int p0), .unset] [])) t
            refine XS.iconst X0.here hx rfl (hb hby d1_28) ?_
            show Steps p.tables e below (s₁.setTop (mkF m 29 #[.val (.int p0), .unset] [(.int (0 : Int32))])) t
            refine XS.istoreN X0.here hx rfl (hb hby d1_29) rfl (l' := #[.val (.int p0), .val (.int (0 : Int32))]) rfl ?_
            show Steps p.tables e below (s₁.setTop (mkF m 30 #[.val (.int p0), .val (.int (0 : Int32))] [])) t
            refine XS.iloadN X0.here hx rfl (hb hby d1_30) rfl ?_
            show Steps p.tables e below (s₁.setTop (mkF m 31 #[.val (.int p0), .val (.int (0 : Int32))] [(.int (0 : Int32))])) t
            refine XS.ifNo X0.here hx rfl (hb hby d1_31) rfl ((if0 _ _).trans (teq (by decide : (0 : Int32) = (0 : Int32))).2) ?_
            show Steps p.tables e below (s₁.setTop (mkF m 34 #[.val (.int p0), .val (.int (0 : Int32))] [])) t
            refine XS.iloadN X0.here hx rfl (hb hby d1_34) rfl ?_
            show Steps p.tables e below (s₁.setTop (mkF m 35 #[.val (.int p0), .val (.int (0 : Int32))] [(.int p0)])) t
            refine XS.bipush X0.here hx rfl (hb hby d1_35) ?_
            exact k
          by_cases hc37_54 : p0 < (48 : Int32)
          · have k55 : own_Go p e below (s₁.setTop (entryFrame m #[(.int p0)] 2)) (s₁.setTop (mkF m 49 #[.val (.int p0), .val (.int (0 : Int32))] [(.int (32 : Int32)), (.int p0)])) := by
              intro t k
              refine k53 t ?_
              show Steps p.tables e below (s₁.setTop (mkF m 37 #[.val (.int p0), .val (.int (0 : Int32))] [(.int (48 : Int32)), (.int p0)])) t
              refine XS.icmpYes X0.here hx rfl (pc0 := 37) (pc' := 46) rfl (hb hby d1_37) rfl (tlt hc37_54).1 (by decide) (by decide) ?_
              show Steps p.tables e below (s₁.setTop (mkF m 46 #[.val (.int p0), .val (.int (0 : Int32))] [])) t
              refine XS.iloadN X0.here hx rfl (hb hby d1_46) rfl ?_
              show Steps p.tables e below (s₁.setTop (mkF m 47 #[.val (.int p0), .val (.int (0 : Int32))] [(.int p0)])) t
              refine XS.bipush X0.here hx rfl (hb hby d1_47) ?_
              exact k
            by_cases hc49_56 : p0 = (32 : Int32)
            · have k57 : own_Go p e below (s₁.setTop (entryFrame m #[(.int p0)] 2)) (s₁.setTop (mkF m 57 #[.val (.int p0), .val (.int (0 : Int32))] [(.int (0 : Int32))])) := by
                intro t k
                refine k55 t ?_
                show Steps p.tables e below (s₁.setTop (mkF m 49 #[.val (.int p0), .val (.int (0 : Int32))] [(.int (32 : Int32)), (.int p0)])) t
                refine XS.icmpYes X0.here hx rfl (pc0 := 49) (pc' := 56) rfl (hb hby d1_49) rfl (teq hc49_56).1 (by decide) (by decide) ?_
                show Steps p.tables e below (s₁.setTop (mkF m 56 #[.val (.int p0), .val (.int (0 : Int32))] [])) t
                refine XS.iconst X0.here hx rfl (hb hby d1_56) ?_
                exact k
              obtain ⟨fs, hr, hrun, hended, hW, hsame⟩ := X0.leave (v := some (.int (0 : Int32))) (fun h => by rw [Bd.returns] at h; cases h)
              refine ⟨_, _, k57 _ ?_, hrun, hended, _, _, rfl, ?_, ⟨_, rfl⟩, hW, hsame.mono (by decide) (by decide)⟩
              · exact retN X0 hx (t := .boolean) Bd.returns (by simp) (hb hby d1_57) hr
              · show Q1 Z p0 h0 n0 _ s₁.heap _
                rw [e0]
                exact ⟨congrArg (fun z => some (Value.int z)) (show f1 p0 = (0 : Int32) from (by unfold f1; rw [if_neg hc3_2, if_pos hc9_35, if_neg hc15_37, if_pos hc21_52, if_pos hc37_54, if_pos hc49_56])).symm, N0, rfl⟩
            · have k58 : own_Go p e below (s₁.setTop (entryFrame m #[(.int p0)] 2)) (s₁.setTop (mkF m 57 #[.val (.int p0), .val (.int (0 : Int32))] [(.int (1 : Int32))])) := by
                intro t k
                refine k55 t ?_
                show Steps p.tables e below (s₁.setTop (mkF m 49 #[.val (.int p0), .val (.int (0 : Int32))] [(.int (32 : Int32)), (.int p0)])) t
                refine XS.icmpNo X0.here hx rfl (hb hby d1_49) rfl (feq hc49_56).1 ?_
                show Steps p.tables e below (s₁.setTop (mkF m 52 #[.val (.int p0), .val (.int (0 : Int32))] [])) t
                refine XS.iconst X0.here hx rfl (hb hby d1_52) ?_
                show Steps p.tables e below (s₁.setTop (mkF m 53 #[.val (.int p0), .val (.int (0 : Int32))] [(.int (1 : Int32))])) t
                refine XS.goto X0.here hx rfl (pc0 := 53) (pc' := 57) rfl (hb hby d1_53) (by decide) (by decide) ?_
                exact k
              obtain ⟨fs, hr, hrun, hended, hW, hsame⟩ := X0.leave (v := some (.int (1 : Int32))) (fun h => by rw [Bd.returns] at h; cases h)
              refine ⟨_, _, k58 _ ?_, hrun, hended, _, _, rfl, ?_, ⟨_, rfl⟩, hW, hsame.mono (by decide) (by decide)⟩
              · exact retN X0 hx (t := .boolean) Bd.returns (by simp) (hb hby d1_57) hr
              · show Q1 Z p0 h0 n0 _ s₁.heap _
                rw [e0]
                exact ⟨congrArg (fun z => some (Value.int z)) (show f1 p0 = (1 : Int32) from (by unfold f1; rw [if_neg hc3_2, if_pos hc9_35, if_neg hc15_37, if_pos hc21_52, if_pos hc37_54, if_neg hc49_56])).symm, N0, rfl⟩
          · have k59 : own_Go p e below (s₁.setTop (entryFrame m #[(.int p0)] 2)) (s₁.setTop (mkF m 43 #[.val (.int p0), .val (.int (0 : Int32))] [(.int (57 : Int32)), (.int p0)])) := by
              intro t k
              refine k53 t ?_
              show Steps p.tables e below (s₁.setTop (mkF m 37 #[.val (.int p0), .val (.int (0 : Int32))] [(.int (48 : Int32)), (.int p0)])) t
              refine XS.icmpNo X0.here hx rfl (hb hby d1_37) rfl (flt hc37_54).1 ?_
              show Steps p.tables e below (s₁.setTop (mkF m 40 #[.val (.int p0), .val (.int (0 : Int32))] [])) t
              refine XS.iloadN X0.here hx rfl (hb hby d1_40) rfl ?_
              show Steps p.tables e below (s₁.setTop (mkF m 41 #[.val (.int p0), .val (.int (0 : Int32))] [(.int p0)])) t
              refine XS.bipush X0.here hx rfl (hb hby d1_41) ?_
              exact k
            by_cases hc43_60 : (57 : Int32) < p0
            · have k61 : own_Go p e below (s₁.setTop (entryFrame m #[(.int p0)] 2)) (s₁.setTop (mkF m 49 #[.val (.int p0), .val (.int (0 : Int32))] [(.int (32 : Int32)), (.int p0)])) := by
                intro t k
                refine k59 t ?_
                show Steps p.tables e below (s₁.setTop (mkF m 43 #[.val (.int p0), .val (.int (0 : Int32))] [(.int (57 : Int32)), (.int p0)])) t
                refine XS.icmpNo X0.here hx rfl (hb hby d1_43) rfl (tlt hc43_60).2.2.2 ?_
                show Steps p.tables e below (s₁.setTop (mkF m 46 #[.val (.int p0), .val (.int (0 : Int32))] [])) t
                refine XS.iloadN X0.here hx rfl (hb hby d1_46) rfl ?_
                show Steps p.tables e below (s₁.setTop (mkF m 47 #[.val (.int p0), .val (.int (0 : Int32))] [(.int p0)])) t
                refine XS.bipush X0.here hx rfl (hb hby d1_47) ?_
                exact k
              by_cases hc49_62 : p0 = (32 : Int32)
              · have k63 : own_Go p e below (s₁.setTop (entryFrame m #[(.int p0)] 2)) (s₁.setTop (mkF m 57 #[.val (.int p0), .val (.int (0 : Int32))] [(.int (0 : Int32))])) := by
                  intro t k
                  refine k61 t ?_
                  show Steps p.tables e below (s₁.setTop (mkF m 49 #[.val (.int p0), .val (.int (0 : Int32))] [(.int (32 : Int32)), (.int p0)])) t
                  refine XS.icmpYes X0.here hx rfl (pc0 := 49) (pc' := 56) rfl (hb hby d1_49) rfl (teq hc49_62).1 (by decide) (by decide) ?_
                  show Steps p.tables e below (s₁.setTop (mkF m 56 #[.val (.int p0), .val (.int (0 : Int32))] [])) t
                  refine XS.iconst X0.here hx rfl (hb hby d1_56) ?_
                  exact k
                obtain ⟨fs, hr, hrun, hended, hW, hsame⟩ := X0.leave (v := some (.int (0 : Int32))) (fun h => by rw [Bd.returns] at h; cases h)
                refine ⟨_, _, k63 _ ?_, hrun, hended, _, _, rfl, ?_, ⟨_, rfl⟩, hW, hsame.mono (by decide) (by decide)⟩
                · exact retN X0 hx (t := .boolean) Bd.returns (by simp) (hb hby d1_57) hr
                · show Q1 Z p0 h0 n0 _ s₁.heap _
                  rw [e0]
                  exact ⟨congrArg (fun z => some (Value.int z)) (show f1 p0 = (0 : Int32) from (by unfold f1; rw [if_neg hc3_2, if_pos hc9_35, if_neg hc15_37, if_pos hc21_52, if_neg hc37_54, if_pos hc43_60, if_pos hc49_62])).symm, N0, rfl⟩
              · have k64 : own_Go p e below (s₁.setTop (entryFrame m #[(.int p0)] 2)) (s₁.setTop (mkF m 57 #[.val (.int p0), .val (.int (0 : Int32))] [(.int (1 : Int32))])) := by
                  intro t k
                  refine k61 t ?_
                  show Steps p.tables e below (s₁.setTop (mkF m 49 #[.val (.int p0), .val (.int (0 : Int32))] [(.int (32 : Int32)), (.int p0)])) t
                  refine XS.icmpNo X0.here hx rfl (hb hby d1_49) rfl (feq hc49_62).1 ?_
                  show Steps p.tables e below (s₁.setTop (mkF m 52 #[.val (.int p0), .val (.int (0 : Int32))] [])) t
                  refine XS.iconst X0.here hx rfl (hb hby d1_52) ?_
                  show Steps p.tables e below (s₁.setTop (mkF m 53 #[.val (.int p0), .val (.int (0 : Int32))] [(.int (1 : Int32))])) t
                  refine XS.goto X0.here hx rfl (pc0 := 53) (pc' := 57) rfl (hb hby d1_53) (by decide) (by decide) ?_
                  exact k
                obtain ⟨fs, hr, hrun, hended, hW, hsame⟩ := X0.leave (v := some (.int (1 : Int32))) (fun h => by rw [Bd.returns] at h; cases h)
                refine ⟨_, _, k64 _ ?_, hrun, hended, _, _, rfl, ?_, ⟨_, rfl⟩, hW, hsame.mono (by decide) (by decide)⟩
                · exact retN X0 hx (t := .boolean) Bd.returns (by simp) (hb hby d1_57) hr
                · show Q1 Z p0 h0 n0 _ s₁.heap _
                  rw [e0]
                  exact ⟨congrArg (fun z => some (Value.int z)) (show f1 p0 = (1 : Int32) from (by unfold f1; rw [if_neg hc3_2, if_pos hc9_35, if_neg hc15_37, if_pos hc21_52, if_neg hc37_54, if_pos hc43_60, if_neg hc49_62])).symm, N0, rfl⟩
            · have k65 : own_Go p e below (s₁.setTop (entryFrame m #[(.int p0)] 2)) (s₁.setTop (mkF m 57 #[.val (.int p0), .val (.int (0 : Int32))] [(.int (0 : Int32))])) := by
                intro t k
                refine k59 t ?_
                show Steps p.tables e below (s₁.setTop (mkF m 43 #[.val (.int p0), .val (.int (0 : Int32))] [(.int (57 : Int32)), (.int p0)])) t
                refine XS.icmpYes X0.here hx rfl (pc0 := 43) (pc' := 56) rfl (hb hby d1_43) rfl (flt hc43_60).2.2.2 (by decide) (by decide) ?_
                show Steps p.tables e below (s₁.setTop (mkF m 56 #[.val (.int p0), .val (.int (0 : Int32))] [])) t
                refine XS.iconst X0.here hx rfl (hb hby d1_56) ?_
                exact k
              obtain ⟨fs, hr, hrun, hended, hW, hsame⟩ := X0.leave (v := some (.int (0 : Int32))) (fun h => by rw [Bd.returns] at h; cases h)
              refine ⟨_, _, k65 _ ?_, hrun, hended, _, _, rfl, ?_, ⟨_, rfl⟩, hW, hsame.mono (by decide) (by decide)⟩
              · exact retN X0 hx (t := .boolean) Bd.returns (by simp) (hb hby d1_57) hr
              · show Q1 Z p0 h0 n0 _ s₁.heap _
                rw [e0]
                exact ⟨congrArg (fun z => some (Value.int z)) (show f1 p0 = (0 : Int32) from (by unfold f1; rw [if_neg hc3_2, if_pos hc9_35, if_neg hc15_37, if_pos hc21_52, if_neg hc37_54, if_neg hc43_60])).symm, N0, rfl⟩
        · have k66 : own_Go p e below (s₁.setTop (entryFrame m #[(.int p0)] 2)) (s₁.setTop (mkF m 57 #[.val (.int p0), .val (.int (1 : Int32))] [(.int (0 : Int32))])) := by
            intro t k
            refine k51 t ?_
            show Steps p.tables e below (s₁.setTop (mkF m 21 #[.val (.int p0), .unset] [(.int (122 : Int32)), (.int p0)])) t
            refine XS.icmpNo X0.here hx rfl (hb hby d1_21) rfl (flt hc21_52).2.2.1 ?_
            show Steps p.tables e below (s₁.setTop (mkF m 24 #[.val (.int p0), .unset] [])) t
            refine XS.iconst X0.here hx rfl (hb hby d1_24) ?_
            show Steps p.tables e below (s₁.setTop (mkF m 25 #[.val (.int p0), .unset] [(.int (1 : Int32))])) t
            refine XS.goto X0.here hx rfl (pc0 := 25) (pc' := 29) rfl (hb hby d1_25) (by decide) (by decide) ?_
            show Steps p.tables e below (s₁.setTop (mkF m 29 #[.val (.int p0), .unset] [(.int (1 : Int32))])) t
            refine XS.istoreN X0.here hx rfl (hb hby d1_29) rfl (l' := #[.val (.int p0), .val (.int (1 : Int32))]) rfl ?_
            show Steps p.tables e below (s₁.setTop (mkF m 30 #[.val (.int p0), .val (.int (1 : Int32))] [])) t
            refine XS.iloadN X0.here hx rfl (hb hby d1_30) rfl ?_
            show Steps p.tables e below (s₁.setTop (mkF m 31 #[.val (.int p0), .val (.int (1 : Int32))] [(.int (1 : Int32))])) t
            refine XS.ifYes X0.here hx rfl (pc0 := 31) (pc' := 56) rfl (hb hby d1_31) rfl ((if0 _ _).trans (feq (by decide : ¬ ((1 : Int32) = (0 : Int32)))).2) (by decide) (by decide) ?_
            show Steps p.tables e below (s₁.setTop (mkF m 56 #[.val (.int p0), .val (.int (1 : Int32))] [])) t
            refine XS.iconst X0.here hx rfl (hb hby d1_56) ?_
            exact k
          obtain ⟨fs, hr, hrun, hended, hW, hsame⟩ := X0.leave (v := some (.int (0 : Int32))) (fun h => by rw [Bd.returns] at h; cases h)
          refine ⟨_, _, k66 _ ?_, hrun, hended, _, _, rfl, ?_, ⟨_, rfl⟩, hW, hsame.mono (by decide) (by decide)⟩
          · exact retN X0 hx (t := .boolean) Bd.returns (by simp) (hb hby d1_57) hr
          · show Q1 Z p0 h0 n0 _ s₁.heap _
            rw [e0]
            exact ⟨congrArg (fun z => some (Value.int z)) (show f1 p0 = (0 : Int32) from (by unfold f1; rw [if_neg hc3_2, if_pos hc9_35, if_neg hc15_37, if_neg hc21_52])).symm, N0, rfl⟩
    · have k67 : own_Go p e below (s₁.setTop (entryFrame m #[(.int p0)] 2)) (s₁.setTop (mkF m 57 #[.val (.int p0), .val (.int (1 : Int32))] [(.int (0 : Int32))])) := by
        intro t k
        refine k34 t ?_
        show Steps p.tables e below (s₁.setTop (mkF m 9 #[.val (.int p0), .unset] [(.int (90 : Int32)), (.int p0)])) t
        refine XS.icmpYes X0.here hx rfl (pc0 := 9) (pc' := 24) rfl (hb hby d1_9) rfl (flt hc9_35).2.2.2 (by decide) (by decide) ?_
        show Steps p.tables e below (s₁.setTop (mkF m 24 #[.val (.int p0), .unset] [])) t
        refine XS.iconst X0.here hx rfl (hb hby d1_24) ?_
        show Steps p.tables e below (s₁.setTop (mkF m 25 #[.val (.int p0), .unset] [(.int (1 : Int32))])) t
        refine XS.goto X0.here hx rfl (pc0 := 25) (pc' := 29) rfl (hb hby d1_25) (by decide) (by decide) ?_
        show Steps p.tables e below (s₁.setTop (mkF m 29 #[.val (.int p0), .unset] [(.int (1 : Int32))])) t
        refine XS.istoreN X0.here hx rfl (hb hby d1_29) rfl (l' := #[.val (.int p0), .val (.int (1 : Int32))]) rfl ?_
        show Steps p.tables e below (s₁.setTop (mkF m 30 #[.val (.int p0), .val (.int (1 : Int32))] [])) t
        refine XS.iloadN X0.here hx rfl (hb hby d1_30) rfl ?_
        show Steps p.tables e below (s₁.setTop (mkF m 31 #[.val (.int p0), .val (.int (1 : Int32))] [(.int (1 : Int32))])) t
        refine XS.ifYes X0.here hx rfl (pc0 := 31) (pc' := 56) rfl (hb hby d1_31) rfl ((if0 _ _).trans (feq (by decide : ¬ ((1 : Int32) = (0 : Int32)))).2) (by decide) (by decide) ?_
        show Steps p.tables e below (s₁.setTop (mkF m 56 #[.val (.int p0), .val (.int (1 : Int32))] [])) t
        refine XS.iconst X0.here hx rfl (hb hby d1_56) ?_
        exact k
      obtain ⟨fs, hr, hrun, hended, hW, hsame⟩ := X0.leave (v := some (.int (0 : Int32))) (fun h => by rw [Bd.returns] at h; cases h)
      refine ⟨_, _, k67 _ ?_, hrun, hended, _, _, rfl, ?_, ⟨_, rfl⟩, hW, hsame.mono (by decide) (by decide)⟩
      · exact retN X0 hx (t := .boolean) Bd.returns (by simp) (hb hby d1_57) hr
      · show Q1 Z p0 h0 n0 _ s₁.heap _
        rw [e0]
        exact ⟨congrArg (fun z => some (Value.int z)) (show f1 p0 = (0 : Int32) from (by unfold f1; rw [if_neg hc3_2, if_neg hc9_35])).symm, N0, rfl⟩
theorem pn_1 : plainName "com/example/segmentry/segmentry/io/DelimitersCanBePinLaw" = true := by first | (simp [plainName, overriddenIn]; done) | decide +kernel
theorem d2_0 : decode method_2_code 0 = .ok (.iload_n 0, 1) := by decide +kernel
theorem d2_1 : decode method_2_code 1 = .ok (.bipush 32, 2) := by decide +kernel
theorem d2_3 : decode method_2_code 3 = .ok (.ior, 1) := by decide +kernel
theorem d2_4 : decode method_2_code 4 = .ok (.i2l, 1) := by decide +kernel
theorem d2_5 : decode method_2_code 5 = .ok (.ldc2_w 7, 3) := by decide +kernel
theorem d2_8 : decode method_2_code 8 = .ok (.lsub, 1) := by decide +kernel
theorem d2_9 : decode method_2_code 9 = .ok (.lstore_n 1, 1) := by decide +kernel
theorem d2_10 : decode method_2_code 10 = .ok (.lload_n 1, 1) := by decide +kernel
theorem d2_11 : decode method_2_code 11 = .ok (.lconst 0, 1) := by decide +kernel
theorem d2_12 : decode method_2_code 12 = .ok (.lcmp, 1) := by decide +kernel
theorem d2_13 : decode method_2_code 13 = .ok (.ifCond .lt 15, 3) := by decide +kernel
theorem d2_16 : decode method_2_code 16 = .ok (.lload_n 1, 1) := by decide +kernel
theorem d2_17 : decode method_2_code 17 = .ok (.ldc2_w 9, 3) := by decide +kernel
theorem d2_20 : decode method_2_code 20 = .ok (.lcmp, 1) := by decide +kernel
theorem d2_21 : decode method_2_code 21 = .ok (.ifCond .ge 7, 3) := by decide +kernel
theorem d2_24 : decode method_2_code 24 = .ok (.iconst 1, 1) := by decide +kernel
theorem d2_25 : decode method_2_code 25 = .ok (.goto 4, 3) := by decide +kernel
theorem d2_28 : decode method_2_code 28 = .ok (.iconst 0, 1) := by decide +kernel
theorem d2_29 : decode method_2_code 29 = .ok (.istore_n 3, 1) := by decide +kernel
theorem d2_30 : decode method_2_code 30 = .ok (.iload_n 0, 1) := by decide +kernel
theorem d2_31 : decode method_2_code 31 = .ok (.i2l, 1) := by decide +kernel
theorem d2_32 : decode method_2_code 32 = .ok (.ldc2_w 11, 3) := by decide +kernel
theorem d2_35 : decode method_2_code 35 = .ok (.lsub, 1) := by decide +kernel
theorem d2_36 : decode method_2_code 36 = .ok (.lstore 4, 2) := by decide +kernel
theorem d2_38 : decode method_2_code 38 = .ok (.lload 4, 2) := by decide +kernel
theorem d2_40 : decode method_2_code 40 = .ok (.lconst 0, 1) := by decide +kernel
theorem d2_41 : decode method_2_code 41 = .ok (.lcmp, 1) := by decide +kernel
theorem d2_42 : decode method_2_code 42 = .ok (.ifCond .lt 16, 3) := by decide +kernel
theorem d2_45 : decode method_2_code 45 = .ok (.lload 4, 2) := by decide +kernel
theorem d2_47 : decode method_2_code 47 = .ok (.ldc2_w 13, 3) := by decide +kernel
theorem d2_50 : decode method_2_code 50 = .ok (.lcmp, 1) := by decide +kernel
theorem d2_51 : decode method_2_code 51 = .ok (.ifCond .ge 7, 3) := by decide +kernel
theorem d2_54 : decode method_2_code 54 = .ok (.iconst 1, 1) := by decide +kernel
theorem d2_55 : decode method_2_code 55 = .ok (.goto 4, 3) := by decide +kernel
theorem d2_58 : decode method_2_code 58 = .ok (.iconst 0, 1) := by decide +kernel
theorem d2_59 : decode method_2_code 59 = .ok (.istore 6, 2) := by decide +kernel
theorem d2_61 : decode method_2_code 61 = .ok (.iload_n 3, 1) := by decide +kernel
theorem d2_62 : decode method_2_code 62 = .ok (.ifCond .ne 18, 3) := by decide +kernel
theorem d2_65 : decode method_2_code 65 = .ok (.iload 6, 2) := by decide +kernel
theorem d2_67 : decode method_2_code 67 = .ok (.ifCond .ne 13, 3) := by decide +kernel
theorem d2_70 : decode method_2_code 70 = .ok (.iload_n 0, 1) := by decide +kernel
theorem d2_71 : decode method_2_code 71 = .ok (.bipush 32, 2) := by decide +kernel
theorem d2_73 : decode method_2_code 73 = .ok (.if_icmp .eq 7, 3) := by decide +kernel
theorem d2_76 : decode method_2_code 76 = .ok (.iconst 1, 1) := by decide +kernel
theorem d2_77 : decode method_2_code 77 = .ok (.goto 4, 3) := by decide +kernel
theorem d2_80 : decode method_2_code 80 = .ok (.iconst 0, 1) := by decide +kernel
theorem d2_81 : decode method_2_code 81 = .ok (.ireturn, 1) := by decide +kernel
theorem ef_2 (m : MethodId) (p0 : Int32) : entryFrame m #[(.int p0)] 7 = mkF m 0 #[.val (.int p0), .unset, .unset, .unset, .unset, .unset, .unset] [] := by first | (simp [entryFrame, mkF, argsToLocals, Value.category]; done) | rfl
def v2_9 (p0 : Int32) : Int64 := (((p0 ||| (32 : Int32)).toInt64) - (97 : Int64))
def v2_36 (p0 : Int32) : Int64 := ((p0.toInt64) - (48 : Int64))
def f2 (p0 : Int32) : Int32 := (if (lcmpW (v2_9 p0) (0 : Int64)) < (0 : Int32) then (if (lcmpW (v2_36 p0) (0 : Int64)) < (0 : Int32) then (if p0 = (32 : Int32) then (0 : Int32) else (1 : Int32)) else (if (lcmpW (v2_36 p0) (10 : Int64)) < (0 : Int32) then (0 : Int32) else (if p0 = (32 : Int32) then (0 : Int32) else (1 : Int32)))) else (if (lcmpW (v2_9 p0) (26 : Int64)) < (0 : Int32) then (if (lcmpW (v2_36 p0) (0 : Int64)) < (0 : Int32) then (0 : Int32) else (if (lcmpW (v2_36 p0) (10 : Int64)) < (0 : Int32) then (0 : Int32) else (0 : Int32))) else (if (lcmpW (v2_36 p0) (0 : Int64)) < (0 : Int32) then (if p0 = (32 : Int32) then (0 : Int32) else (1 : Int32)) else (if (lcmpW (v2_36 p0) (10 : Int64)) < (0 : Int32) then (0 : Int32) else (if p0 = (32 : Int32) then (0 : Int32) else (1 : Int32))))))
def Q2 (Z : State) (p0 : Int32) (h0 : Heap) (n0 : Nat) (v : Option Value) (h : Heap) (L : List Loc) : Prop := v = some (.int (f2 p0)) ∧ Fr n0 L ∧ h = h0
set_option maxRecDepth 65536 in
set_option maxHeartbeats 40000000 in
theorem rm2 (l : Launch) (Z : State) (a0 : Array Value) (hw : ∀ d ∈ tables_1, d.before a0 Z = true) (ws : List Jvm.Cond) (p0 : Int32) (h0 : Heap) (n0 : Nat) (Z0 : n0 ≤ h0.size) :
    MetFree l (⟨"com/example/segmentry/segmentry/io/DelimitersCanBePinLaw", "ref", "(I)Z"⟩ : MethodName) (head1 (Jvm.Cond.code (⟨"com/example/segmentry/segmentry/io/DelimitersCanBePinLaw", "ref", "(I)Z"⟩ : MethodName) method_2_code 7 (some .boolean) :: ws) ({ frames := 0, cells := 0, slots := 0, locals := 0 } : Room)) (fun a U => a = #[(.int p0)] ∧ Z.Warmed39 U.vm ∧ U.heap = h0) (fun _ _ _ _ _ => True) (fun _ U o U' => ∃ v L, o = .returned v ∧ Q2 Z p0 h0 n0 v U'.heap L ∧ FrameEnd U o U' L ({ frames := 0, cells := 0, slots := 0, locals := 0 } : Room).cells ({ frames := 0, cells := 0, slots := 0, locals := 0 } : Room).slots) := by
  refine MetFree.of_bodySF (plainFor_of_name pn_1) hisR ?_
  intro p e s m args below meth c s₁ Bd hml0 hP hK
  obtain ⟨rfl, hZ, hh⟩ := hP
  have hx := Bd.exec
  have hby := Bd.bytes
  have hml : c.maxLocals = 7 := hml0
  have hown : s.vm.findClass "com/example/segmentry/segmentry/io/DelimitersCanBePinLaw" = some m.cls := findClass_of_methodNamed Bd.named
  have hnm := (name_of_methodNamed Bd.named Bd.method).1
  have X0 : Stand p l e ({ frames := 0, cells := 0, slots := 0, locals := 0 } : Room) s m #[(.int p0)] below meth c s₁ [] 0 0 := Stand.of_body Bd
  have e0 : s₁.heap = h0 := by rw [← hh, Bd.state]; rfl
  have N0 := Fr.nil n0
  have pre0 : own_Go p e below (s₁.setTop (entryFrame m #[(.int p0)] 7)) (s₁.setTop (mkF m 0 #[.val (.int p0), .unset, .unset, .unset, .unset, .unset, .unset] [])) := fun t k => castTop (ef_2 m p0) k
  have k1 : own_Go p e below (s₁.setTop (entryFrame m #[(.int p0)] 7)) (s₁.setTop (mkF m 13 #[.val (.int p0), .val (.long (v2_9 p0)), .second, .unset, .unset, .unset, .unset] [(.int (lcmpW (v2_9 p0) (0 : Int64)))])) := by
    intro t k
    refine pre0 t ?_
    show Steps p.tables e below (s₁.setTop (mkF m 0 #[.val (.int p0), .unset, .unset, .unset, .unset, .unset, .unset] [])) t
    refine XS.iloadN X0.here hx rfl (hb hby d2_0) rfl ?_
    show Steps p.tables e below (s₁.setTop (mkF m 1 #[.val (.int p0), .unset, .unset, .unset, .unset, .unset, .unset] [(.int p0)])) t
    refine XS.bipush X0.here hx rfl (hb hby d2_1) ?_
    show Steps p.tables e below (s₁.setTop (mkF m 3 #[.val (.int p0), .unset, .unset, .unset, .unset, .unset, .unset] [(.int (32 : Int32)), (.int p0)])) t
    refine XS.ior X0.here hx rfl (hb hby d2_3) rfl ?_
    show Steps p.tables e below (s₁.setTop (mkF m 4 #[.val (.int p0), .unset, .unset, .unset, .unset, .unset, .unset] [(.int (p0 ||| (32 : Int32)))])) t
    refine XS.i2l X0.here hx rfl (hb hby d2_4) rfl ?_
    show Steps p.tables e below (s₁.setTop (mkF m 5 #[.val (.int p0), .unset, .unset, .unset, .unset, .unset, .unset] [(.long ((p0 ||| (32 : Int32)).toInt64))])) t
    refine X0.ldc2Long hx hown (mvT hZ (hw _ (List.mem_of_getElem? (i := 9) rfl))) (g := (mkF m 5 #[.val (.int p0), .unset, .unset, .unset, .unset, .unset, .unset] [(.long ((p0 ||| (32 : Int32)).toInt64))])) rfl (hb hby d2_5) _ ?_
    show Steps p.tables e below (s₁.setTop (mkF m 8 #[.val (.int p0), .unset, .unset, .unset, .unset, .unset, .unset] [(.long (97 : Int64)), (.long ((p0 ||| (32 : Int32)).toInt64))])) t
    refine XS.lsub X0.here hx rfl (hb hby d2_8) rfl ?_
    show Steps p.tables e below (s₁.setTop (mkF m 9 #[.val (.int p0), .unset, .unset, .unset, .unset, .unset, .unset] [(.long (((p0 ||| (32 : Int32)).toInt64) - (97 : Int64)))])) t
    refine XS.lstoreN X0.here hx rfl (hb hby d2_9) rfl (l' := #[.val (.int p0), .val (.long (v2_9 p0)), .second, .unset, .unset, .unset, .unset]) rfl ?_
    show Steps p.tables e below (s₁.setTop (mkF m 10 #[.val (.int p0), .val (.long (v2_9 p0)), .second, .unset, .unset, .unset, .unset] [])) t
    refine XS.lloadN X0.here hx rfl (hb hby d2_10) rfl ?_
    show Steps p.tables e below (s₁.setTop (mkF m 11 #[.val (.int p0), .val (.long (v2_9 p0)), .second, .unset, .unset, .unset, .unset] [(.long (v2_9 p0))])) t
    refine XS.lconst X0.here hx rfl (hb hby d2_11) ?_
    show Steps p.tables e below (s₁.setTop (mkF m 12 #[.val (.int p0), .val (.long (v2_9 p0)), .second, .unset, .unset, .unset, .unset] [(.long (0 : Int64)), (.long (v2_9 p0))])) t
    refine XS.lcmp X0.here hx rfl (hb hby d2_12) rfl ?_
    exact k
  by_cases hc13_2 : (lcmpW (v2_9 p0) (0 : Int64)) < (0 : Int32)
  · have k3 : own_Go p e below (s₁.setTop (entryFrame m #[(.int p0)] 7)) (s₁.setTop (mkF m 42 #[.val (.int p0), .val (.long (v2_9 p0)), .second, .val (.int (0 : Int32)), .val (.long (v2_36 p0)), .second, .unset] [(.int (lcmpW (v2_36 p0) (0 : Int64)))])) := by
      intro t k
      refine k1 t ?_
      show Steps p.tables e below (s₁.setTop (mkF m 13 #[.val (.int p0), .val (.long (v2_9 p0)), .second, .unset, .unset, .unset, .unset] [(.int (lcmpW (v2_9 p0) (0 : Int64)))])) t
      refine XS.ifYes X0.here hx rfl (pc0 := 13) (pc' := 28) rfl (hb hby d2_13) rfl ((if0 _ _).trans (tlt hc13_2).1) (by decide) (by decide) ?_
      show Steps p.tables e below (s₁.setTop (mkF m 28 #[.val (.int p0), .val (.long (v2_9 p0)), .second, .unset, .unset, .unset, .unset] [])) t
      refine XS.iconst X0.here hx rfl (hb hby d2_28) ?_
      show Steps p.tables e below (s₁.setTop (mkF m 29 #[.val (.int p0), .val (.long (v2_9 p0)), .second, .unset, .unset, .unset, .unset] [(.int (0 : Int32))])) t
      refine XS.istoreN X0.here hx rfl (hb hby d2_29) rfl (l' := #[.val (.int p0), .val (.long (v2_9 p0)), .second, .val (.int (0 : Int32)), .unset, .unset, .unset]) rfl ?_
      show Steps p.tables e below (s₁.setTop (mkF m 30 #[.val (.int p0), .val (.long (v2_9 p0)), .second, .val (.int (0 : Int32)), .unset, .unset, .unset] [])) t
      refine XS.iloadN X0.here hx rfl (hb hby d2_30) rfl ?_
      show Steps p.tables e below (s₁.setTop (mkF m 31 #[.val (.int p0), .val (.long (v2_9 p0)), .second, .val (.int (0 : Int32)), .unset, .unset, .unset] [(.int p0)])) t
      refine XS.i2l X0.here hx rfl (hb hby d2_31) rfl ?_
      show Steps p.tables e below (s₁.setTop (mkF m 32 #[.val (.int p0), .val (.long (v2_9 p0)), .second, .val (.int (0 : Int32)), .unset, .unset, .unset] [(.long (p0.toInt64))])) t
      refine X0.ldc2Long hx hown (mvT hZ (hw _ (List.mem_of_getElem? (i := 10) rfl))) (g := (mkF m 32 #[.val (.int p0), .val (.long (v2_9 p0)), .second, .val (.int (0 : Int32)), .unset, .unset, .unset] [(.long (p0.toInt64))])) rfl (hb hby d2_32) _ ?_
      show Steps p.tables e below (s₁.setTop (mkF m 35 #[.val (.int p0), .val (.long (v2_9 p0)), .second, .val (.int (0 : Int32)), .unset, .unset, .unset] [(.long (48 : Int64)), (.long (p0.toInt64))])) t
      refine XS.lsub X0.here hx rfl (hb hby d2_35) rfl ?_
      show Steps p.tables e below (s₁.setTop (mkF m 36 #[.val (.int p0), .val (.long (v2_9 p0)), .second, .val (.int (0 : Int32)), .unset, .unset, .unset] [(.long ((p0.toInt64) - (48 : Int64)))])) t
      refine XS.lstore X0.here hx rfl (hb hby d2_36) rfl (l' := #[.val (.int p0), .val (.long (v2_9 p0)), .second, .val (.int (0 : Int32)), .val (.long (v2_36 p0)), .second, .unset]) rfl ?_
      show Steps p.tables e below (s₁.setTop (mkF m 38 #[.val (.int p0), .val (.long (v2_9 p0)), .second, .val (.int (0 : Int32)), .val (.long (v2_36 p0)), .second, .unset] [])) t
      refine XS.lload X0.here hx rfl (hb hby d2_38) rfl ?_
      show Steps p.tables e below (s₁.setTop (mkF m 40 #[.val (.int p0), .val (.long (v2_9 p0)), .second, .val (.int (0 : Int32)), .val (.long (v2_36 p0)), .second, .unset] [(.long (v2_36 p0))])) t
      refine XS.lconst X0.here hx rfl (hb hby d2_40) ?_
      show Steps p.tables e below (s₁.setTop (mkF m 41 #[.val (.int p0), .val (.long (v2_9 p0)), .second, .val (.int (0 : Int32)), .val (.long (v2_36 p0)), .second, .unset] [(.long (0 : Int64)), (.long (v2_36 p0))])) t
      refine XS.lcmp X0.here hx rfl (hb hby d2_41) rfl ?_
      exact k
    by_cases hc42_4 : (lcmpW (v2_36 p0) (0 : Int64)) < (0 : Int32)
    · have k5 : own_Go p e below (s₁.setTop (entryFrame m #[(.int p0)] 7)) (s₁.setTop (mkF m 73 #[.val (.int p0), .val (.long (v2_9 p0)), .second, .val (.int (0 : Int32)), .val (.long (v2_36 p0)), .second, .val (.int (0 : Int32))] [(.int (32 : Int32)), (.int p0)])) := by
        intro t k
        refine k3 t ?_
        show Steps p.tables e below (s₁.setTop (mkF m 42 #[.val (.int p0), .val (.long (v2_9 p0)), .second, .val (.int (0 : Int32)), .val (.long (v2_36 p0)), .second, .unset] [(.int (lcmpW (v2_36 p0) (0 : Int64)))])) t
        refine XS.ifYes X0.here hx rfl (pc0 := 42) (pc' := 58) rfl (hb hby d2_42) rfl ((if0 _ _).trans (tlt hc42_4).1) (by decide) (by decide) ?_
        show Steps p.tables e below (s₁.setTop (mkF m 58 #[.val (.int p0), .val (.long (v2_9 p0)), .second, .val (.int (0 : Int32)), .val (.long (v2_36 p0)), .second, .unset] [])) t
        refine XS.iconst X0.here hx rfl (hb hby d2_58) ?_
        show Steps p.tables e below (s₁.setTop (mkF m 59 #[.val (.int p0), .val (.long (v2_9 p0)), .second, .val (.int (0 : Int32)), .val (.long (v2_36 p0)), .second, .unset] [(.int (0 : Int32))])) t
        refine XS.istore X0.here hx rfl (hb hby d2_59) rfl (l' := #[.val (.int p0), .val (.long (v2_9 p0)), .second, .val (.int (0 : Int32)), .val (.long (v2_36 p0)), .second, .val (.int (0 : Int32))]) rfl ?_
        show Steps p.tables e below (s₁.setTop (mkF m 61 #[.val (.int p0), .val (.long (v2_9 p0)), .second, .val (.int (0 : Int32)), .val (.long (v2_36 p0)), .second, .val (.int (0 : Int32))] [])) t
        refine XS.iloadN X0.here hx rfl (hb hby d2_61) rfl ?_
        show Steps p.tables e below (s₁.setTop (mkF m 62 #[.val (.int p0), .val (.long (v2_9 p0)), .second, .val (.int (0 : Int32)), .val (.long (v2_36 p0)), .second, .val (.int (0 : Int32))] [(.int (0 : Int32))])) t
        refine XS.ifNo X0.here hx rfl (hb hby d2_62) rfl ((if0 _ _).trans (teq (by decide : (0 : Int32) = (0 : Int32))).2) ?_
        show Steps p.tables e below (s₁.setTop (mkF m 65 #[.val (.int p0), .val (.long (v2_9 p0)), .second, .val (.int (0 : Int32)), .val (.long (v2_36 p0)), .second, .val (.int (0 : Int32))] [])) t
        refine XS.iload X0.here hx rfl (hb hby d2_65) rfl ?_
        show Steps p.tables e below (s₁.setTop (mkF m 67 #[.val (.int p0), .val (.long (v2_9 p0)), .second, .val (.int (0 : Int32)), .val (.long (v2_36 p0)), .second, .val (.int (0 : Int32))] [(.int (0 : Int32))])) t
        refine XS.ifNo X0.here hx rfl (hb hby d2_67) rfl ((if0 _ _).trans (teq (by decide : (0 : Int32) = (0 : Int32))).2) ?_
        show Steps p.tables e below (s₁.setTop (mkF m 70 #[.val (.int p0), .val (.long (v2_9 p0)), .second, .val (.int (0 : Int32)), .val (.long (v2_36 p0)), .second, .val (.int (0 : Int32))] [])) t
        refine XS.iloadN X0.here hx rfl (hb hby d2_70) rfl ?_
        show Steps p.tables e below (s₁.setTop (mkF m 71 #[.val (.int p0), .val (.long (v2_9 p0)), .second, .val (.int (0 : Int32)), .val (.long (v2_36 p0)), .second, .val (.int (0 : Int32))] [(.int p0)])) t
        refine XS.bipush X0.here hx rfl (hb hby d2_71) ?_
        exact k
      by_cases hc73_6 : p0 = (32 : Int32)
      · have k7 : own_Go p e below (s₁.setTop (entryFrame m #[(.int p0)] 7)) (s₁.setTop (mkF m 81 #[.val (.int p0), .val (.long (v2_9 p0)), .second, .val (.int (0 : Int32)), .val (.long (v2_36 p0)), .second, .val (.int (0 : Int32))] [(.int (0 : Int32))])) := by
          intro t k
          refine k5 t ?_
          show Steps p.tables e below (s₁.setTop (mkF m 73 #[.val (.int p0), .val (.long (v2_9 p0)), .second, .val (.int (0 : Int32)), .val (.long (v2_36 p0)), .second, .val (.int (0 : Int32))] [(.int (32 : Int32)), (.int p0)])) t
          refine XS.icmpYes X0.here hx rfl (pc0 := 73) (pc' := 80) rfl (hb hby d2_73) rfl (teq hc73_6).1 (by decide) (by decide) ?_
          show Steps p.tables e below (s₁.setTop (mkF m 80 #[.val (.int p0), .val (.long (v2_9 p0)), .second, .val (.int (0 : Int32)), .val (.long (v2_36 p0)), .second, .val (.int (0 : Int32))] [])) t
          refine XS.iconst X0.here hx rfl (hb hby d2_80) ?_
          exact k
        obtain ⟨fs, hr, hrun, hended, hW, hsame⟩ := X0.leave (v := some (.int (0 : Int32))) (fun h => by rw [Bd.returns] at h; cases h)
        refine ⟨_, _, k7 _ ?_, hrun, hended, _, _, rfl, ?_, ⟨_, rfl⟩, hW, hsame.mono (by decide) (by decide)⟩
        · exact retN X0 hx (t := .boolean) Bd.returns (by simp) (hb hby d2_81) hr
        · show Q2 Z p0 h0 n0 _ s₁.heap _
          rw [e0]
          exact ⟨congrArg (fun z => some (Value.int z)) (show f2 p0 = (0 : Int32) from (by unfold f2; rw [if_pos hc13_2, if_pos hc42_4, if_pos hc73_6])).symm, N0, rfl⟩
      · have k8 : own_Go p e below (s₁.setTop (entryFrame m #[(.int p0)] 7)) (s₁.setTop (mkF m 81 #[.val (.int p0), .val (.long (v2_9 p0)), .second, .val (.int (0 : Int32)), .val (.long (v2_36 p0)), .second, .val (.int (0 : Int32))] [(.int (1 : Int32))])) := by
          intro t k
          refine k5 t ?_
          show Steps p.tables e below (s₁.setTop (mkF m 73 #[.val (.int p0), .val (.long (v2_9 p0)), .second, .val (.int (0 : Int32)), .val (.long (v2_36 p0)), .second, .val (.int (0 : Int32))] [(.int (32 : Int32)), (.int p0)])) t
          refine XS.icmpNo X0.here hx rfl (hb hby d2_73) rfl (feq hc73_6).1 ?_
          show Steps p.tables e below (s₁.setTop (mkF m 76 #[.val (.int p0), .val (.long (v2_9 p0)), .second, .val (.int (0 : Int32)), .val (.long (v2_36 p0)), .second, .val (.int (0 : Int32))] [])) t
          refine XS.iconst X0.here hx rfl (hb hby d2_76) ?_
          show Steps p.tables e below (s₁.setTop (mkF m 77 #[.val (.int p0), .val (.long (v2_9 p0)), .second, .val (.int (0 : Int32)), .val (.long (v2_36 p0)), .second, .val (.int (0 : Int32))] [(.int (1 : Int32))])) t
          refine XS.goto X0.here hx rfl (pc0 := 77) (pc' := 81) rfl (hb hby d2_77) (by decide) (by decide) ?_
          exact k
        obtain ⟨fs, hr, hrun, hended, hW, hsame⟩ := X0.leave (v := some (.int (1 : Int32))) (fun h => by rw [Bd.returns] at h; cases h)
        refine ⟨_, _, k8 _ ?_, hrun, hended, _, _, rfl, ?_, ⟨_, rfl⟩, hW, hsame.mono (by decide) (by decide)⟩
        · exact retN X0 hx (t := .boolean) Bd.returns (by simp) (hb hby d2_81) hr
        · show Q2 Z p0 h0 n0 _ s₁.heap _
          rw [e0]
          exact ⟨congrArg (fun z => some (Value.int z)) (show f2 p0 = (1 : Int32) from (by unfold f2; rw [if_pos hc13_2, if_pos hc42_4, if_neg hc73_6])).symm, N0, rfl⟩
    · have k9 : own_Go p e below (s₁.setTop (entryFrame m #[(.int p0)] 7)) (s₁.setTop (mkF m 51 #[.val (.int p0), .val (.long (v2_9 p0)), .second, .val (.int (0 : Int32)), .val (.long (v2_36 p0)), .second, .unset] [(.int (lcmpW (v2_36 p0) (10 : Int64)))])) := by
        intro t k
        refine k3 t ?_
        show Steps p.tables e below (s₁.setTop (mkF m 42 #[.val (.int p0), .val (.long (v2_9 p0)), .second, .val (.int (0 : Int32)), .val (.long (v2_36 p0)), .second, .unset] [(.int (lcmpW (v2_36 p0) (0 : Int64)))])) t
        refine XS.ifNo X0.here hx rfl (hb hby d2_42) rfl ((if0 _ _).trans (flt hc42_4).1) ?_
        show Steps p.tables e below (s₁.setTop (mkF m 45 #[.val (.int p0), .val (.long (v2_9 p0)), .second, .val (.int (0 : Int32)), .val (.long (v2_36 p0)), .second, .unset] [])) t
        refine XS.lload X0.here hx rfl (hb hby d2_45) rfl ?_
        show Steps p.tables e below (s₁.setTop (mkF m 47 #[.val (.int p0), .val (.long (v2_9 p0)), .second, .val (.int (0 : Int32)), .val (.long (v2_36 p0)), .second, .unset] [(.long (v2_36 p0))])) t
        refine X0.ldc2Long hx hown (mvT hZ (hw _ (List.mem_of_getElem? (i := 12) rfl))) (g := (mkF m 47 #[.val (.int p0), .val (.long (v2_9 p0)), .second, .val (.int (0 : Int32)), .val (.long (v2_36 p0)), .second, .unset] [(.long (v2_36 p0))])) rfl (hb hby d2_47) _ ?_
        show Steps p.tables e below (s₁.setTop (mkF m 50 #[.val (.int p0), .val (.long (v2_9 p0)), .second, .val (.int (0 : Int32)), .val (.long (v2_36 p0)), .second, .unset] [(.long (10 : Int64)), (.long (v2_36 p0))])) t
        refine XS.lcmp X0.here hx rfl (hb hby d2_50) rfl ?_
        exact k
      by_cases hc51_10 : (lcmpW (v2_36 p0) (10 : Int64)) < (0 : Int32)
      · have k11 : own_Go p e below (s₁.setTop (entryFrame m #[(.int p0)] 7)) (s₁.setTop (mkF m 81 #[.val (.int p0), .val (.long (v2_9 p0)), .second, .val (.int (0 : Int32)), .val (.long (v2_36 p0)), .second, .val (.int (1 : Int32))] [(.int (0 : Int32))])) := by
          intro t k
          refine k9 t ?_
          show Steps p.tables e below (s₁.setTop (mkF m 51 #[.val (.int p0), .val (.long (v2_9 p0)), .second, .val (.int (0 : Int32)), .val (.long (v2_36 p0)), .second, .unset] [(.int (lcmpW (v2_36 p0) (10 : Int64)))])) t
          refine XS.ifNo X0.here hx rfl (hb hby d2_51) rfl ((if0 _ _).trans (tlt hc51_10).2.1) ?_
          show Steps p.tables e below (s₁.setTop (mkF m 54 #[.val (.int p0), .val (.long (v2_9 p0)), .second, .val (.int (0 : Int32)), .val (.long (v2_36 p0)), .second, .unset] [])) t
          refine XS.iconst X0.here hx rfl (hb hby d2_54) ?_
          show Steps p.tables e below (s₁.setTop (mkF m 55 #[.val (.int p0), .val (.long (v2_9 p0)), .second, .val (.int (0 : Int32)), .val (.long (v2_36 p0)), .second, .unset] [(.int (1 : Int32))])) t
          refine XS.goto X0.here hx rfl (pc0 := 55) (pc' := 59) rfl (hb hby d2_55) (by decide) (by decide) ?_
          show Steps p.tables e below (s₁.setTop (mkF m 59 #[.val (.int p0), .val (.long (v2_9 p0)), .second, .val (.int (0 : Int32)), .val (.long (v2_36 p0)), .second, .unset] [(.int (1 : Int32))])) t
          refine XS.istore X0.here hx rfl (hb hby d2_59) rfl (l' := #[.val (.int p0), .val (.long (v2_9 p0)), .second, .val (.int (0 : Int32)), .val (.long (v2_36 p0)), .second, .val (.int (1 : Int32))]) rfl ?_
          show Steps p.tables e below (s₁.setTop (mkF m 61 #[.val (.int p0), .val (.long (v2_9 p0)), .second, .val (.int (0 : Int32)), .val (.long (v2_36 p0)), .second, .val (.int (1 : Int32))] [])) t
          refine XS.iloadN X0.here hx rfl (hb hby d2_61) rfl ?_
          show Steps p.tables e below (s₁.setTop (mkF m 62 #[.val (.int p0), .val (.long (v2_9 p0)), .second, .val (.int (0 : Int32)), .val (.long (v2_36 p0)), .second, .val (.int (1 : Int32))] [(.int (0 : Int32))])) t
          refine XS.ifNo X0.here hx rfl (hb hby d2_62) rfl ((if0 _ _).trans (teq (by decide : (0 : Int32) = (0 : Int32))).2) ?_
          show Steps p.tables e below (s₁.setTop (mkF m 65 #[.val (.int p0), .val (.long (v2_9 p0)), .second, .val (.int (0 : Int32)), .val (.long (v2_36 p0)), .second, .val (.int (1 : Int32))] [])) t
          refine XS.iload X0.here hx rfl (hb hby d2_65) rfl ?_
          show Steps p.tables e below (s₁.setTop (mkF m 67 #[.val (.int p0), .val (.long (v2_9 p0)), .second, .val (.int (0 : Int32)), .val (.long (v2_36 p0)), .second, .val (.int (1 : Int32))] [(.int (1 : Int32))])) t
          refine XS.ifYes X0.here hx rfl (pc0 := 67) (pc' := 80) rfl (hb hby d2_67) rfl ((if0 _ _).trans (feq (by decide : ¬ ((1 : Int32) = (0 : Int32)))).2) (by decide) (by decide) ?_
          show Steps p.tables e below (s₁.setTop (mkF m 80 #[.val (.int p0), .val (.long (v2_9 p0)), .second, .val (.int (0 : Int32)), .val (.long (v2_36 p0)), .second, .val (.int (1 : Int32))] [])) t
          refine XS.iconst X0.here hx rfl (hb hby d2_80) ?_
          exact k
        obtain ⟨fs, hr, hrun, hended, hW, hsame⟩ := X0.leave (v := some (.int (0 : Int32))) (fun h => by rw [Bd.returns] at h; cases h)
        refine ⟨_, _, k11 _ ?_, hrun, hended, _, _, rfl, ?_, ⟨_, rfl⟩, hW, hsame.mono (by decide) (by decide)⟩
        · exact retN X0 hx (t := .boolean) Bd.returns (by simp) (hb hby d2_81) hr
        · show Q2 Z p0 h0 n0 _ s₁.heap _
          rw [e0]
          exact ⟨congrArg (fun z => some (Value.int z)) (show f2 p0 = (0 : Int32) from (by unfold f2; rw [if_pos hc13_2, if_neg hc42_4, if_pos hc51_10])).symm, N0, rfl⟩
      · have k12 : own_Go p e below (s₁.setTop (entryFrame m #[(.int p0)] 7)) (s₁.setTop (mkF m 73 #[.val (.int p0), .val (.long (v2_9 p0)), .second, .val (.int (0 : Int32)), .val (.long (v2_36 p0)), .second, .val (.int (0 : Int32))] [(.int (32 : Int32)), (.int p0)])) := by
          intro t k
          refine k9 t ?_
          show Steps p.tables e below (s₁.setTop (mkF m 51 #[.val (.int p0), .val (.long (v2_9 p0)), .second, .val (.int (0 : Int32)), .val (.long (v2_36 p0)), .second, .unset] [(.int (lcmpW (v2_36 p0) (10 : Int64)))])) t
          refine XS.ifYes X0.here hx rfl (pc0 := 51) (pc' := 58) rfl (hb hby d2_51) rfl ((if0 _ _).trans (flt hc51_10).2.1) (by decide) (by decide) ?_
          show Steps p.tables e below (s₁.setTop (mkF m 58 #[.val (.int p0), .val (.long (v2_9 p0)), .second, .val (.int (0 : Int32)), .val (.long (v2_36 p0)), .second, .unset] [])) t
          refine XS.iconst X0.here hx rfl (hb hby d2_58) ?_
          show Steps p.tables e below (s₁.setTop (mkF m 59 #[.val (.int p0), .val (.long (v2_9 p0)), .second, .val (.int (0 : Int32)), .val (.long (v2_36 p0)), .second, .unset] [(.int (0 : Int32))])) t
          refine XS.istore X0.here hx rfl (hb hby d2_59) rfl (l' := #[.val (.int p0), .val (.long (v2_9 p0)), .second, .val (.int (0 : Int32)), .val (.long (v2_36 p0)), .second, .val (.int (0 : Int32))]) rfl ?_
          show Steps p.tables e below (s₁.setTop (mkF m 61 #[.val (.int p0), .val (.long (v2_9 p0)), .second, .val (.int (0 : Int32)), .val (.long (v2_36 p0)), .second, .val (.int (0 : Int32))] [])) t
          refine XS.iloadN X0.here hx rfl (hb hby d2_61) rfl ?_
          show Steps p.tables e below (s₁.setTop (mkF m 62 #[.val (.int p0), .val (.long (v2_9 p0)), .second, .val (.int (0 : Int32)), .val (.long (v2_36 p0)), .second, .val (.int (0 : Int32))] [(.int (0 : Int32))])) t
          refine XS.ifNo X0.here hx rfl (hb hby d2_62) rfl ((if0 _ _).trans (teq (by decide : (0 : Int32) = (0 : Int32))).2) ?_
          show Steps p.tables e below (s₁.setTop (mkF m 65 #[.val (.int p0), .val (.long (v2_9 p0)), .second, .val (.int (0 : Int32)), .val (.long (v2_36 p0)), .second, .val (.int (0 : Int32))] [])) t
          refine XS.iload X0.here hx rfl (hb hby d2_65) rfl ?_
          show Steps p.tables e below (s₁.setTop (mkF m 67 #[.val (.int p0), .val (.long (v2_9 p0)), .second, .val (.int (0 : Int32)), .val (.long (v2_36 p0)), .second, .val (.int (0 : Int32))] [(.int (0 : Int32))])) t
          refine XS.ifNo X0.here hx rfl (hb hby d2_67) rfl ((if0 _ _).trans (teq (by decide : (0 : Int32) = (0 : Int32))).2) ?_
          show Steps p.tables e below (s₁.setTop (mkF m 70 #[.val (.int p0), .val (.long (v2_9 p0)), .second, .val (.int (0 : Int32)), .val (.long (v2_36 p0)), .second, .val (.int (0 : Int32))] [])) t
          refine XS.iloadN X0.here hx rfl (hb hby d2_70) rfl ?_
          show Steps p.tables e below (s₁.setTop (mkF m 71 #[.val (.int p0), .val (.long (v2_9 p0)), .second, .val (.int (0 : Int32)), .val (.long (v2_36 p0)), .second, .val (.int (0 : Int32))] [(.int p0)])) t
          refine XS.bipush X0.here hx rfl (hb hby d2_71) ?_
          exact k
        by_cases hc73_13 : p0 = (32 : Int32)
        · have k14 : own_Go p e below (s₁.setTop (entryFrame m #[(.int p0)] 7)) (s₁.setTop (mkF m 81 #[.val (.int p0), .val (.long (v2_9 p0)), .second, .val (.int (0 : Int32)), .val (.long (v2_36 p0)), .second, .val (.int (0 : Int32))] [(.int (0 : Int32))])) := by
            intro t k
            refine k12 t ?_
            show Steps p.tables e below (s₁.setTop (mkF m 73 #[.val (.int p0), .val (.long (v2_9 p0)), .second, .val (.int (0 : Int32)), .val (.long (v2_36 p0)), .second, .val (.int (0 : Int32))] [(.int (32 : Int32)), (.int p0)])) t
            refine XS.icmpYes X0.here hx rfl (pc0 := 73) (pc' := 80) rfl (hb hby d2_73) rfl (teq hc73_13).1 (by decide) (by decide) ?_
            show Steps p.tables e below (s₁.setTop (mkF m 80 #[.val (.int p0), .val (.long (v2_9 p0)), .second, .val (.int (0 : Int32)), .val (.long (v2_36 p0)), .second, .val (.int (0 : Int32))] [])) t
            refine XS.iconst X0.here hx rfl (hb hby d2_80) ?_
            exact k
          obtain ⟨fs, hr, hrun, hended, hW, hsame⟩ := X0.leave (v := some (.int (0 : Int32))) (fun h => by rw [Bd.returns] at h; cases h)
          refine ⟨_, _, k14 _ ?_, hrun, hended, _, _, rfl, ?_, ⟨_, rfl⟩, hW, hsame.mono (by decide) (by decide)⟩
          · exact retN X0 hx (t := .boolean) Bd.returns (by simp) (hb hby d2_81) hr
          · show Q2 Z p0 h0 n0 _ s₁.heap _
            rw [e0]
            exact ⟨congrArg (fun z => some (Value.int z)) (show f2 p0 = (0 : Int32) from (by unfold f2; rw [if_pos hc13_2, if_neg hc42_4, if_neg hc51_10, if_pos hc73_13])).symm, N0, rfl⟩
        · have k15 : own_Go p e below (s₁.setTop (entryFrame m #[(.int p0)] 7)) (s₁.setTop (mkF m 81 #[.val (.int p0), .val (.long (v2_9 p0)), .second, .val (.int (0 : Int32)), .val (.long (v2_36 p0)), .second, .val (.int (0 : Int32))] [(.int (1 : Int32))])) := by
            intro t k
            refine k12 t ?_
            show Steps p.tables e below (s₁.setTop (mkF m 73 #[.val (.int p0), .val (.long (v2_9 p0)), .second, .val (.int (0 : Int32)), .val (.long (v2_36 p0)), .second, .val (.int (0 : Int32))] [(.int (32 : Int32)), (.int p0)])) t
            refine XS.icmpNo X0.here hx rfl (hb hby d2_73) rfl (feq hc73_13).1 ?_
            show Steps p.tables e below (s₁.setTop (mkF m 76 #[.val (.int p0), .val (.long (v2_9 p0)), .second, .val (.int (0 : Int32)), .val (.long (v2_36 p0)), .second, .val (.int (0 : Int32))] [])) t
            refine XS.iconst X0.here hx rfl (hb hby d2_76) ?_
            show Steps p.tables e below (s₁.setTop (mkF m 77 #[.val (.int p0), .val (.long (v2_9 p0)), .second, .val (.int (0 : Int32)), .val (.long (v2_36 p0)), .second, .val (.int (0 : Int32))] [(.int (1 : Int32))])) t
            refine XS.goto X0.here hx rfl (pc0 := 77) (pc' := 81) rfl (hb hby d2_77) (by decide) (by decide) ?_
            exact k
          obtain ⟨fs, hr, hrun, hended, hW, hsame⟩ := X0.leave (v := some (.int (1 : Int32))) (fun h => by rw [Bd.returns] at h; cases h)
          refine ⟨_, _, k15 _ ?_, hrun, hended, _, _, rfl, ?_, ⟨_, rfl⟩, hW, hsame.mono (by decide) (by decide)⟩
          · exact retN X0 hx (t := .boolean) Bd.returns (by simp) (hb hby d2_81) hr
          · show Q2 Z p0 h0 n0 _ s₁.heap _
            rw [e0]
            exact ⟨congrArg (fun z => some (Value.int z)) (show f2 p0 = (1 : Int32) from (by unfold f2; rw [if_pos hc13_2, if_neg hc42_4, if_neg hc51_10, if_neg hc73_13])).symm, N0, rfl⟩
  · have k16 : own_Go p e below (s₁.setTop (entryFrame m #[(.int p0)] 7)) (s₁.setTop (mkF m 21 #[.val (.int p0), .val (.long (v2_9 p0)), .second, .unset, .unset, .unset, .unset] [(.int (lcmpW (v2_9 p0) (26 : Int64)))])) := by
      intro t k
      refine k1 t ?_
      show Steps p.tables e below (s₁.setTop (mkF m 13 #[.val (.int p0), .val (.long (v2_9 p0)), .second, .unset, .unset, .unset, .unset] [(.int (lcmpW (v2_9 p0) (0 : Int64)))])) t
      refine XS.ifNo X0.here hx rfl (hb hby d2_13) rfl ((if0 _ _).trans (flt hc13_2).1) ?_
      show Steps p.tables e below (s₁.setTop (mkF m 16 #[.val (.int p0), .val (.long (v2_9 p0)), .second, .unset, .unset, .unset, .unset] [])) t
      refine XS.lloadN X0.here hx rfl (hb hby d2_16) rfl ?_
      show Steps p.tables e below (s₁.setTop (mkF m 17 #[.val (.int p0), .val (.long (v2_9 p0)), .second, .unset, .unset, .unset, .unset] [(.long (v2_9 p0))])) t
      refine X0.ldc2Long hx hown (mvT hZ (hw _ (List.mem_of_getElem? (i := 11) rfl))) (g := (mkF m 17 #[.val (.int p0), .val (.long (v2_9 p0)), .second, .unset, .unset, .unset, .unset] [(.long (v2_9 p0))])) rfl (hb hby d2_17) _ ?_
      show Steps p.tables e below (s₁.setTop (mkF m 20 #[.val (.int p0), .val (.long (v2_9 p0)), .second, .unset, .unset, .unset, .unset] [(.long (26 : Int64)), (.long (v2_9 p0))])) t
      refine XS.lcmp X0.here hx rfl (hb hby d2_20) rfl ?_
      exact k
    by_cases hc21_17 : (lcmpW (v2_9 p0) (26 : Int64)) < (0 : Int32)
    · have k18 : own_Go p e below (s₁.setTop (entryFrame m #[(.int p0)] 7)) (s₁.setTop (mkF m 42 #[.val (.int p0), .val (.long (v2_9 p0)), .second, .val (.int (1 : Int32)), .val (.long (v2_36 p0)), .second, .unset] [(.int (lcmpW (v2_36 p0) (0 : Int64)))])) := by
        intro t k
        refine k16 t ?_
        show Steps p.tables e below (s₁.setTop (mkF m 21 #[.val (.int p0), .val (.long (v2_9 p0)), .second, .unset, .unset, .unset, .unset] [(.int (lcmpW (v2_9 p0) (26 : Int64)))])) t
        refine XS.ifNo X0.here hx rfl (hb hby d2_21) rfl ((if0 _ _).trans (tlt hc21_17).2.1) ?_
        show Steps p.tables e below (s₁.setTop (mkF m 24 #[.val (.int p0), .val (.long (v2_9 p0)), .second, .unset, .unset, .unset, .unset] [])) t
        refine XS.iconst X0.here hx rfl (hb hby d2_24) ?_
        show Steps p.tables e below (s₁.setTop (mkF m 25 #[.val (.int p0), .val (.long (v2_9 p0)), .second, .unset, .unset, .unset, .unset] [(.int (1 : Int32))])) t
        refine XS.goto X0.here hx rfl (pc0 := 25) (pc' := 29) rfl (hb hby d2_25) (by decide) (by decide) ?_
        show Steps p.tables e below (s₁.setTop (mkF m 29 #[.val (.int p0), .val (.long (v2_9 p0)), .second, .unset, .unset, .unset, .unset] [(.int (1 : Int32))])) t
        refine XS.istoreN X0.here hx rfl (hb hby d2_29) rfl (l' := #[.val (.int p0), .val (.long (v2_9 p0)), .second, .val (.int (1 : Int32)), .unset, .unset, .unset]) rfl ?_
        show Steps p.tables e below (s₁.setTop (mkF m 30 #[.val (.int p0), .val (.long (v2_9 p0)), .second, .val (.int (1 : Int32)), .unset, .unset, .unset] [])) t
        refine XS.iloadN X0.here hx rfl (hb hby d2_30) rfl ?_
        show Steps p.tables e below (s₁.setTop (mkF m 31 #[.val (.int p0), .val (.long (v2_9 p0)), .second, .val (.int (1 : Int32)), .unset, .unset, .unset] [(.int p0)])) t
        refine XS.i2l X0.here hx rfl (hb hby d2_31) rfl ?_
        show Steps p.tables e below (s₁.setTop (mkF m 32 #[.val (.int p0), .val (.long (v2_9 p0)), .second, .val (.int (1 : Int32)), .unset, .unset, .unset] [(.long (p0.toInt64))])) t
        refine X0.ldc2Long hx hown (mvT hZ (hw _ (List.mem_of_getElem? (i := 10) rfl))) (g := (mkF m 32 #[.val (.int p0), .val (.long (v2_9 p0)), .second, .val (.int (1 : Int32)), .unset, .unset, .unset] [(.long (p0.toInt64))])) rfl (hb hby d2_32) _ ?_
        show Steps p.tables e below (s₁.setTop (mkF m 35 #[.val (.int p0), .val (.long (v2_9 p0)), .second, .val (.int (1 : Int32)), .unset, .unset, .unset] [(.long (48 : Int64)), (.long (p0.toInt64))])) t
        refine XS.lsub X0.here hx rfl (hb hby d2_35) rfl ?_
        show Steps p.tables e below (s₁.setTop (mkF m 36 #[.val (.int p0), .val (.long (v2_9 p0)), .second, .val (.int (1 : Int32)), .unset, .unset, .unset] [(.long ((p0.toInt64) - (48 : Int64)))])) t
        refine XS.lstore X0.here hx rfl (hb hby d2_36) rfl (l' := #[.val (.int p0), .val (.long (v2_9 p0)), .second, .val (.int (1 : Int32)), .val (.long (v2_36 p0)), .second, .unset]) rfl ?_
        show Steps p.tables e below (s₁.setTop (mkF m 38 #[.val (.int p0), .val (.long (v2_9 p0)), .second, .val (.int (1 : Int32)), .val (.long (v2_36 p0)), .second, .unset] [])) t
        refine XS.lload X0.here hx rfl (hb hby d2_38) rfl ?_
        show Steps p.tables e below (s₁.setTop (mkF m 40 #[.val (.int p0), .val (.long (v2_9 p0)), .second, .val (.int (1 : Int32)), .val (.long (v2_36 p0)), .second, .unset] [(.long (v2_36 p0))])) t
        refine XS.lconst X0.here hx rfl (hb hby d2_40) ?_
        show Steps p.tables e below (s₁.setTop (mkF m 41 #[.val (.int p0), .val (.long (v2_9 p0)), .second, .val (.int (1 : Int32)), .val (.long (v2_36 p0)), .second, .unset] [(.long (0 : Int64)), (.long (v2_36 p0))])) t
        refine XS.lcmp X0.here hx rfl (hb hby d2_41) rfl ?_
        exact k
      by_cases hc42_19 : (lcmpW (v2_36 p0) (0 : Int64)) < (0 : Int32)
      · have k20 : own_Go p e below (s₁.setTop (entryFrame m #[(.int p0)] 7)) (s₁.setTop (mkF m 81 #[.val (.int p0), .val (.long (v2_9 p0)), .second, .val (.int (1 : Int32)), .val (.long (v2_36 p0)), .second, .val (.int (0 : Int32))] [(.int (0 : Int32))])) := by
          intro t k
          refine k18 t ?_
          show Steps p.tables e below (s₁.setTop (mkF m 42 #[.val (.int p0), .val (.long (v2_9 p0)), .second, .val (.int (1 : Int32)), .val (.long (v2_36 p0)), .second, .unset] [(.int (lcmpW (v2_36 p0) (0 : Int64)))])) t
          refine XS.ifYes X0.here hx rfl (pc0 := 42) (pc' := 58) rfl (hb hby d2_42) rfl ((if0 _ _).trans (tlt hc42_19).1) (by decide) (by decide) ?_
          show Steps p.tables e below (s₁.setTop (mkF m 58 #[.val (.int p0), .val (.long (v2_9 p0)), .second, .val (.int (1 : Int32)), .val (.long (v2_36 p0)), .second, .unset] [])) t
          refine XS.iconst X0.here hx rfl (hb hby d2_58) ?_
          show Steps p.tables e below (s₁.setTop (mkF m 59 #[.val (.int p0), .val (.long (v2_9 p0)), .second, .val (.int (1 : Int32)), .val (.long (v2_36 p0)), .second, .unset] [(.int (0 : Int32))])) t
          refine XS.istore X0.here hx rfl (hb hby d2_59) rfl (l' := #[.val (.int p0), .val (.long (v2_9 p0)), .second, .val (.int (1 : Int32)), .val (.long (v2_36 p0)), .second, .val (.int (0 : Int32))]) rfl ?_
          show Steps p.tables e below (s₁.setTop (mkF m 61 #[.val (.int p0), .val (.long (v2_9 p0)), .second, .val (.int (1 : Int32)), .val (.long (v2_36 p0)), .second, .val (.int (0 : Int32))] [])) t
          refine XS.iloadN X0.here hx rfl (hb hby d2_61) rfl ?_
          show Steps p.tables e below (s₁.setTop (mkF m 62 #[.val (.int p0), .val (.long (v2_9 p0)), .second, .val (.int (1 : Int32)), .val (.long (v2_36 p0)), .second, .val (.int (0 : Int32))] [(.int (1 : Int32))])) t
          refine XS.ifYes X0.here hx rfl (pc0 := 62) (pc' := 80) rfl (hb hby d2_62) rfl ((if0 _ _).trans (feq (by decide : ¬ ((1 : Int32) = (0 : Int32)))).2) (by decide) (by decide) ?_
          show Steps p.tables e below (s₁.setTop (mkF m 80 #[.val (.int p0), .val (.long (v2_9 p0)), .second, .val (.int (1 : Int32)), .val (.long (v2_36 p0)), .second, .val (.int (0 : Int32))] [])) t
          refine XS.iconst X0.here hx rfl (hb hby d2_80) ?_
          exact k
        obtain ⟨fs, hr, hrun, hended, hW, hsame⟩ := X0.leave (v := some (.int (0 : Int32))) (fun h => by rw [Bd.returns] at h; cases h)
        refine ⟨_, _, k20 _ ?_, hrun, hended, _, _, rfl, ?_, ⟨_, rfl⟩, hW, hsame.mono (by decide) (by decide)⟩
        · exact retN X0 hx (t := .boolean) Bd.returns (by simp) (hb hby d2_81) hr
        · show Q2 Z p0 h0 n0 _ s₁.heap _
          rw [e0]
          exact ⟨congrArg (fun z => some (Value.int z)) (show f2 p0 = (0 : Int32) from (by unfold f2; rw [if_neg hc13_2, if_pos hc21_17, if_pos hc42_19])).symm, N0, rfl⟩
      · have k21 : own_Go p e below (s₁.setTop (entryFrame m #[(.int p0)] 7)) (s₁.setTop (mkF m 51 #[.val (.int p0), .val (.long (v2_9 p0)), .second, .val (.int (1 : Int32)), .val (.long (v2_36 p0)), .second, .unset] [(.int (lcmpW (v2_36 p0) (10 : Int64)))])) := by
          intro t k
          refine k18 t ?_
          show Steps p.tables e below (s₁.setTop (mkF m 42 #[.val (.int p0), .val (.long (v2_9 p0)), .second, .val (.int (1 : Int32)), .val (.long (v2_36 p0)), .second, .unset] [(.int (lcmpW (v2_36 p0) (0 : Int64)))])) t
          refine XS.ifNo X0.here hx rfl (hb hby d2_42) rfl ((if0 _ _).trans (flt hc42_19).1) ?_
          show Steps p.tables e below (s₁.setTop (mkF m 45 #[.val (.int p0), .val (.long (v2_9 p0)), .second, .val (.int (1 : Int32)), .val (.long (v2_36 p0)), .second, .unset] [])) t
          refine XS.lload X0.here hx rfl (hb hby d2_45) rfl ?_
          show Steps p.tables e below (s₁.setTop (mkF m 47 #[.val (.int p0), .val (.long (v2_9 p0)), .second, .val (.int (1 : Int32)), .val (.long (v2_36 p0)), .second, .unset] [(.long (v2_36 p0))])) t
          refine X0.ldc2Long hx hown (mvT hZ (hw _ (List.mem_of_getElem? (i := 12) rfl))) (g := (mkF m 47 #[.val (.int p0), .val (.long (v2_9 p0)), .second, .val (.int (1 : Int32)), .val (.long (v2_36 p0)), .second, .unset] [(.long (v2_36 p0))])) rfl (hb hby d2_47) _ ?_
          show Steps p.tables e below (s₁.setTop (mkF m 50 #[.val (.int p0), .val (.long (v2_9 p0)), .second, .val (.int (1 : Int32)), .val (.long (v2_36 p0)), .second, .unset] [(.long (10 : Int64)), (.long (v2_36 p0))])) t
          refine XS.lcmp X0.here hx rfl (hb hby d2_50) rfl ?_
          exact k
        by_cases hc51_22 : (lcmpW (v2_36 p0) (10 : Int64)) < (0 : Int32)
        · have k23 : own_Go p e below (s₁.setTop (entryFrame m #[(.int p0)] 7)) (s₁.setTop (mkF m 81 #[.val (.int p0), .val (.long (v2_9 p0)), .second, .val (.int (1 : Int32)), .val (.long (v2_36 p0)), .second, .val (.int (1 : Int32))] [(.int (0 : Int32))])) := by
            intro t k
            refine k21 t ?_
            show Steps p.tables e below (s₁.setTop (mkF m 51 #[.val (.int p0), .val (.long (v2_9 p0)), .second, .val (.int (1 : Int32)), .val (.long (v2_36 p0)), .second, .unset] [(.int (lcmpW (v2_36 p0) (10 : Int64)))])) t
            refine XS.ifNo X0.here hx rfl (hb hby d2_51) rfl ((if0 _ _).trans (tlt hc51_22).2.1) ?_
            show Steps p.tables e below (s₁.setTop (mkF m 54 #[.val (.int p0), .val (.long (v2_9 p0)), .second, .val (.int (1 : Int32)), .val (.long (v2_36 p0)), .second, .unset] [])) t
            refine XS.iconst X0.here hx rfl (hb hby d2_54) ?_
            show Steps p.tables e below (s₁.setTop (mkF m 55 #[.val (.int p0), .val (.long (v2_9 p0)), .second, .val (.int (1 : Int32)), .val (.long (v2_36 p0)), .second, .unset] [(.int (1 : Int32))])) t
            refine XS.goto X0.here hx rfl (pc0 := 55) (pc' := 59) rfl (hb hby d2_55) (by decide) (by decide) ?_
            show Steps p.tables e below (s₁.setTop (mkF m 59 #[.val (.int p0), .val (.long (v2_9 p0)), .second, .val (.int (1 : Int32)), .val (.long (v2_36 p0)), .second, .unset] [(.int (1 : Int32))])) t
            refine XS.istore X0.here hx rfl (hb hby d2_59) rfl (l' := #[.val (.int p0), .val (.long (v2_9 p0)), .second, .val (.int (1 : Int32)), .val (.long (v2_36 p0)), .second, .val (.int (1 : Int32))]) rfl ?_
            show Steps p.tables e below (s₁.setTop (mkF m 61 #[.val (.int p0), .val (.long (v2_9 p0)), .second, .val (.int (1 : Int32)), .val (.long (v2_36 p0)), .second, .val (.int (1 : Int32))] [])) t
            refine XS.iloadN X0.here hx rfl (hb hby d2_61) rfl ?_
            show Steps p.tables e below (s₁.setTop (mkF m 62 #[.val (.int p0), .val (.long (v2_9 p0)), .second, .val (.int (1 : Int32)), .val (.long (v2_36 p0)), .second, .val (.int (1 : Int32))] [(.int (1 : Int32))])) t
            refine XS.ifYes X0.here hx rfl (pc0 := 62) (pc' := 80) rfl (hb hby d2_62) rfl ((if0 _ _).trans (feq (by decide : ¬ ((1 : Int32) = (0 : Int32)))).2) (by decide) (by decide) ?_
            show Steps p.tables e below (s₁.setTop (mkF m 80 #[.val (.int p0), .val (.long (v2_9 p0)), .second, .val (.int (1 : Int32)), .val (.long (v2_36 p0)), .second, .val (.int (1 : Int32))] [])) t
            refine XS.iconst X0.here hx rfl (hb hby d2_80) ?_
            exact k
          obtain ⟨fs, hr, hrun, hended, hW, hsame⟩ := X0.leave (v := some (.int (0 : Int32))) (fun h => by rw [Bd.returns] at h; cases h)
          refine ⟨_, _, k23 _ ?_, hrun, hended, _, _, rfl, ?_, ⟨_, rfl⟩, hW, hsame.mono (by decide) (by decide)⟩
          · exact retN X0 hx (t := .boolean) Bd.returns (by simp) (hb hby d2_81) hr
          · show Q2 Z p0 h0 n0 _ s₁.heap _
            rw [e0]
            exact ⟨congrArg (fun z => some (Value.int z)) (show f2 p0 = (0 : Int32) from (by unfold f2; rw [if_neg hc13_2, if_pos hc21_17, if_neg hc42_19, if_pos hc51_22])).symm, N0, rfl⟩
        · have k24 : own_Go p e below (s₁.setTop (entryFrame m #[(.int p0)] 7)) (s₁.setTop (mkF m 81 #[.val (.int p0), .val (.long (v2_9 p0)), .second, .val (.int (1 : Int32)), .val (.long (v2_36 p0)), .second, .val (.int (0 : Int32))] [(.int (0 : Int32))])) := by
            intro t k
            refine k21 t ?_
            show Steps p.tables e below (s₁.setTop (mkF m 51 #[.val (.int p0), .val (.long (v2_9 p0)), .second, .val (.int (1 : Int32)), .val (.long (v2_36 p0)), .second, .unset] [(.int (lcmpW (v2_36 p0) (10 : Int64)))])) t
            refine XS.ifYes X0.here hx rfl (pc0 := 51) (pc' := 58) rfl (hb hby d2_51) rfl ((if0 _ _).trans (flt hc51_22).2.1) (by decide) (by decide) ?_
            show Steps p.tables e below (s₁.setTop (mkF m 58 #[.val (.int p0), .val (.long (v2_9 p0)), .second, .val (.int (1 : Int32)), .val (.long (v2_36 p0)), .second, .unset] [])) t
            refine XS.iconst X0.here hx rfl (hb hby d2_58) ?_
            show Steps p.tables e below (s₁.setTop (mkF m 59 #[.val (.int p0), .val (.long (v2_9 p0)), .second, .val (.int (1 : Int32)), .val (.long (v2_36 p0)), .second, .unset] [(.int (0 : Int32))])) t
            refine XS.istore X0.here hx rfl (hb hby d2_59) rfl (l' := #[.val (.int p0), .val (.long (v2_9 p0)), .second, .val (.int (1 : Int32)), .val (.long (v2_36 p0)), .second, .val (.int (0 : Int32))]) rfl ?_
            show Steps p.tables e below (s₁.setTop (mkF m 61 #[.val (.int p0), .val (.long (v2_9 p0)), .second, .val (.int (1 : Int32)), .val (.long (v2_36 p0)), .second, .val (.int (0 : Int32))] [])) t
            refine XS.iloadN X0.here hx rfl (hb hby d2_61) rfl ?_
            show Steps p.tables e below (s₁.setTop (mkF m 62 #[.val (.int p0), .val (.long (v2_9 p0)), .second, .val (.int (1 : Int32)), .val (.long (v2_36 p0)), .second, .val (.int (0 : Int32))] [(.int (1 : Int32))])) t
            refine XS.ifYes X0.here hx rfl (pc0 := 62) (pc' := 80) rfl (hb hby d2_62) rfl ((if0 _ _).trans (feq (by decide : ¬ ((1 : Int32) = (0 : Int32)))).2) (by decide) (by decide) ?_
            show Steps p.tables e below (s₁.setTop (mkF m 80 #[.val (.int p0), .val (.long (v2_9 p0)), .second, .val (.int (1 : Int32)), .val (.long (v2_36 p0)), .second, .val (.int (0 : Int32))] [])) t
            refine XS.iconst X0.here hx rfl (hb hby d2_80) ?_
            exact k
          obtain ⟨fs, hr, hrun, hended, hW, hsame⟩ := X0.leave (v := some (.int (0 : Int32))) (fun h => by rw [Bd.returns] at h; cases h)
          refine ⟨_, _, k24 _ ?_, hrun, hended, _, _, rfl, ?_, ⟨_, rfl⟩, hW, hsame.mono (by decide) (by decide)⟩
          · exact retN X0 hx (t := .boolean) Bd.returns (by simp) (hb hby d2_81) hr
          · show Q2 Z p0 h0 n0 _ s₁.heap _
            rw [e0]
            exact ⟨congrArg (fun z => some (Value.int z)) (show f2 p0 = (0 : Int32) from (by unfold f2; rw [if_neg hc13_2, if_pos hc21_17, if_neg hc42_19, if_neg hc51_22])).symm, N0, rfl⟩
    · have k25 : own_Go p e below (s₁.setTop (entryFrame m #[(.int p0)] 7)) (s₁.setTop (mkF m 42 #[.val (.int p0), .val (.long (v2_9 p0)), .second, .val (.int (0 : Int32)), .val (.long (v2_36 p0)), .second, .unset] [(.int (lcmpW (v2_36 p0) (0 : Int64)))])) := by
        intro t k
        refine k16 t ?_
        show Steps p.tables e below (s₁.setTop (mkF m 21 #[.val (.int p0), .val (.long (v2_9 p0)), .second, .unset, .unset, .unset, .unset] [(.int (lcmpW (v2_9 p0) (26 : Int64)))])) t
        refine XS.ifYes X0.here hx rfl (pc0 := 21) (pc' := 28) rfl (hb hby d2_21) rfl ((if0 _ _).trans (flt hc21_17).2.1) (by decide) (by decide) ?_
        show Steps p.tables e below (s₁.setTop (mkF m 28 #[.val (.int p0), .val (.long (v2_9 p0)), .second, .unset, .unset, .unset, .unset] [])) t
        refine XS.iconst X0.here hx rfl (hb hby d2_28) ?_
        show Steps p.tables e below (s₁.setTop (mkF m 29 #[.val (.int p0), .val (.long (v2_9 p0)), .second, .unset, .unset, .unset, .unset] [(.int (0 : Int32))])) t
        refine XS.istoreN X0.here hx rfl (hb hby d2_29) rfl (l' := #[.val (.int p0), .val (.long (v2_9 p0)), .second, .val (.int (0 : Int32)), .unset, .unset, .unset]) rfl ?_
        show Steps p.tables e below (s₁.setTop (mkF m 30 #[.val (.int p0), .val (.long (v2_9 p0)), .second, .val (.int (0 : Int32)), .unset, .unset, .unset] [])) t
        refine XS.iloadN X0.here hx rfl (hb hby d2_30) rfl ?_
        show Steps p.tables e below (s₁.setTop (mkF m 31 #[.val (.int p0), .val (.long (v2_9 p0)), .second, .val (.int (0 : Int32)), .unset, .unset, .unset] [(.int p0)])) t
        refine XS.i2l X0.here hx rfl (hb hby d2_31) rfl ?_
        show Steps p.tables e below (s₁.setTop (mkF m 32 #[.val (.int p0), .val (.long (v2_9 p0)), .second, .val (.int (0 : Int32)), .unset, .unset, .unset] [(.long (p0.toInt64))])) t
        refine X0.ldc2Long hx hown (mvT hZ (hw _ (List.mem_of_getElem? (i := 10) rfl))) (g := (mkF m 32 #[.val (.int p0), .val (.long (v2_9 p0)), .second, .val (.int (0 : Int32)), .unset, .unset, .unset] [(.long (p0.toInt64))])) rfl (hb hby d2_32) _ ?_
        show Steps p.tables e below (s₁.setTop (mkF m 35 #[.val (.int p0), .val (.long (v2_9 p0)), .second, .val (.int (0 : Int32)), .unset, .unset, .unset] [(.long (48 : Int64)), (.long (p0.toInt64))])) t
        refine XS.lsub X0.here hx rfl (hb hby d2_35) rfl ?_
        show Steps p.tables e below (s₁.setTop (mkF m 36 #[.val (.int p0), .val (.long (v2_9 p0)), .second, .val (.int (0 : Int32)), .unset, .unset, .unset] [(.long ((p0.toInt64) - (48 : Int64)))])) t
        refine XS.lstore X0.here hx rfl (hb hby d2_36) rfl (l' := #[.val (.int p0), .val (.long (v2_9 p0)), .second, .val (.int (0 : Int32)), .val (.long (v2_36 p0)), .second, .unset]) rfl ?_
        show Steps p.tables e below (s₁.setTop (mkF m 38 #[.val (.int p0), .val (.long (v2_9 p0)), .second, .val (.int (0 : Int32)), .val (.long (v2_36 p0)), .second, .unset] [])) t
        refine XS.lload X0.here hx rfl (hb hby d2_38) rfl ?_
        show Steps p.tables e below (s₁.setTop (mkF m 40 #[.val (.int p0), .val (.long (v2_9 p0)), .second, .val (.int (0 : Int32)), .val (.long (v2_36 p0)), .second, .unset] [(.long (v2_36 p0))])) t
        refine XS.lconst X0.here hx rfl (hb hby d2_40) ?_
        show Steps p.tables e below (s₁.setTop (mkF m 41 #[.val (.int p0), .val (.long (v2_9 p0)), .second, .val (.int (0 : Int32)), .val (.long (v2_36 p0)), .second, .unset] [(.long (0 : Int64)), (.long (v2_36 p0))])) t
        refine XS.lcmp X0.here hx rfl (hb hby d2_41) rfl ?_
        exact k
      by_cases hc42_26 : (lcmpW (v2_36 p0) (0 : Int64)) < (0 : Int32)
      · have k27 : own_Go p e below (s₁.setTop (entryFrame m #[(.int p0)] 7)) (s₁.setTop (mkF m 73 #[.val (.int p0), .val (.long (v2_9 p0)), .second, .val (.int (0 : Int32)), .val (.long (v2_36 p0)), .second, .val (.int (0 : Int32))] [(.int (32 : Int32)), (.int p0)])) := by
          intro t k
          refine k25 t ?_
          show Steps p.tables e below (s₁.setTop (mkF m 42 #[.val (.int p0), .val (.long (v2_9 p0)), .second, .val (.int (0 : Int32)), .val (.long (v2_36 p0)), .second, .unset] [(.int (lcmpW (v2_36 p0) (0 : Int64)))])) t
          refine XS.ifYes X0.here hx rfl (pc0 := 42) (pc' := 58) rfl (hb hby d2_42) rfl ((if0 _ _).trans (tlt hc42_26).1) (by decide) (by decide) ?_
          show Steps p.tables e below (s₁.setTop (mkF m 58 #[.val (.int p0), .val (.long (v2_9 p0)), .second, .val (.int (0 : Int32)), .val (.long (v2_36 p0)), .second, .unset] [])) t
          refine XS.iconst X0.here hx rfl (hb hby d2_58) ?_
          show Steps p.tables e below (s₁.setTop (mkF m 59 #[.val (.int p0), .val (.long (v2_9 p0)), .second, .val (.int (0 : Int32)), .val (.long (v2_36 p0)), .second, .unset] [(.int (0 : Int32))])) t
          refine XS.istore X0.here hx rfl (hb hby d2_59) rfl (l' := #[.val (.int p0), .val (.long (v2_9 p0)), .second, .val (.int (0 : Int32)), .val (.long (v2_36 p0)), .second, .val (.int (0 : Int32))]) rfl ?_
          show Steps p.tables e below (s₁.setTop (mkF m 61 #[.val (.int p0), .val (.long (v2_9 p0)), .second, .val (.int (0 : Int32)), .val (.long (v2_36 p0)), .second, .val (.int (0 : Int32))] [])) t
          refine XS.iloadN X0.here hx rfl (hb hby d2_61) rfl ?_
          show Steps p.tables e below (s₁.setTop (mkF m 62 #[.val (.int p0), .val (.long (v2_9 p0)), .second, .val (.int (0 : Int32)), .val (.long (v2_36 p0)), .second, .val (.int (0 : Int32))] [(.int (0 : Int32))])) t
          refine XS.ifNo X0.here hx rfl (hb hby d2_62) rfl ((if0 _ _).trans (teq (by decide : (0 : Int32) = (0 : Int32))).2) ?_
          show Steps p.tables e below (s₁.setTop (mkF m 65 #[.val (.int p0), .val (.long (v2_9 p0)), .second, .val (.int (0 : Int32)), .val (.long (v2_36 p0)), .second, .val (.int (0 : Int32))] [])) t
          refine XS.iload X0.here hx rfl (hb hby d2_65) rfl ?_
          show Steps p.tables e below (s₁.setTop (mkF m 67 #[.val (.int p0), .val (.long (v2_9 p0)), .second, .val (.int (0 : Int32)), .val (.long (v2_36 p0)), .second, .val (.int (0 : Int32))] [(.int (0 : Int32))])) t
          refine XS.ifNo X0.here hx rfl (hb hby d2_67) rfl ((if0 _ _).trans (teq (by decide : (0 : Int32) = (0 : Int32))).2) ?_
          show Steps p.tables e below (s₁.setTop (mkF m 70 #[.val (.int p0), .val (.long (v2_9 p0)), .second, .val (.int (0 : Int32)), .val (.long (v2_36 p0)), .second, .val (.int (0 : Int32))] [])) t
          refine XS.iloadN X0.here hx rfl (hb hby d2_70) rfl ?_
          show Steps p.tables e below (s₁.setTop (mkF m 71 #[.val (.int p0), .val (.long (v2_9 p0)), .second, .val (.int (0 : Int32)), .val (.long (v2_36 p0)), .second, .val (.int (0 : Int32))] [(.int p0)])) t
          refine XS.bipush X0.here hx rfl (hb hby d2_71) ?_
          exact k
        by_cases hc73_28 : p0 = (32 : Int32)
        · have k29 : own_Go p e below (s₁.setTop (entryFrame m #[(.int p0)] 7)) (s₁.setTop (mkF m 81 #[.val (.int p0), .val (.long (v2_9 p0)), .second, .val (.int (0 : Int32)), .val (.long (v2_36 p0)), .second, .val (.int (0 : Int32))] [(.int (0 : Int32))])) := by
            intro t k
            refine k27 t ?_
            show Steps p.tables e below (s₁.setTop (mkF m 73 #[.val (.int p0), .val (.long (v2_9 p0)), .second, .val (.int (0 : Int32)), .val (.long (v2_36 p0)), .second, .val (.int (0 : Int32))] [(.int (32 : Int32)), (.int p0)])) t
            refine XS.icmpYes X0.here hx rfl (pc0 := 73) (pc' := 80) rfl (hb hby d2_73) rfl (teq hc73_28).1 (by decide) (by decide) ?_
            show Steps p.tables e below (s₁.setTop (mkF m 80 #[.val (.int p0), .val (.long (v2_9 p0)), .second, .val (.int (0 : Int32)), .val (.long (v2_36 p0)), .second, .val (.int (0 : Int32))] [])) t
            refine XS.iconst X0.here hx rfl (hb hby d2_80) ?_
            exact k
          obtain ⟨fs, hr, hrun, hended, hW, hsame⟩ := X0.leave (v := some (.int (0 : Int32))) (fun h => by rw [Bd.returns] at h; cases h)
          refine ⟨_, _, k29 _ ?_, hrun, hended, _, _, rfl, ?_, ⟨_, rfl⟩, hW, hsame.mono (by decide) (by decide)⟩
          · exact retN X0 hx (t := .boolean) Bd.returns (by simp) (hb hby d2_81) hr
          · show Q2 Z p0 h0 n0 _ s₁.heap _
            rw [e0]
            exact ⟨congrArg (fun z => some (Value.int z)) (show f2 p0 = (0 : Int32) from (by unfold f2; rw [if_neg hc13_2, if_neg hc21_17, if_pos hc42_26, if_pos hc73_28])).symm, N0, rfl⟩
        · have k30 : own_Go p e below (s₁.setTop (entryFrame m #[(.int p0)] 7)) (s₁.setTop (mkF m 81 #[.val (.int p0), .val (.long (v2_9 p0)), .second, .val (.int (0 : Int32)), .val (.long (v2_36 p0)), .second, .val (.int (0 : Int32))] [(.int (1 : Int32))])) := by
            intro t k
            refine k27 t ?_
            show Steps p.tables e below (s₁.setTop (mkF m 73 #[.val (.int p0), .val (.long (v2_9 p0)), .second, .val (.int (0 : Int32)), .val (.long (v2_36 p0)), .second, .val (.int (0 : Int32))] [(.int (32 : Int32)), (.int p0)])) t
            refine XS.icmpNo X0.here hx rfl (hb hby d2_73) rfl (feq hc73_28).1 ?_
            show Steps p.tables e below (s₁.setTop (mkF m 76 #[.val (.int p0), .val (.long (v2_9 p0)), .second, .val (.int (0 : Int32)), .val (.long (v2_36 p0)), .second, .val (.int (0 : Int32))] [])) t
            refine XS.iconst X0.here hx rfl (hb hby d2_76) ?_
            show Steps p.tables e below (s₁.setTop (mkF m 77 #[.val (.int p0), .val (.long (v2_9 p0)), .second, .val (.int (0 : Int32)), .val (.long (v2_36 p0)), .second, .val (.int (0 : Int32))] [(.int (1 : Int32))])) t
            refine XS.goto X0.here hx rfl (pc0 := 77) (pc' := 81) rfl (hb hby d2_77) (by decide) (by decide) ?_
            exact k
          obtain ⟨fs, hr, hrun, hended, hW, hsame⟩ := X0.leave (v := some (.int (1 : Int32))) (fun h => by rw [Bd.returns] at h; cases h)
          refine ⟨_, _, k30 _ ?_, hrun, hended, _, _, rfl, ?_, ⟨_, rfl⟩, hW, hsame.mono (by decide) (by decide)⟩
          · exact retN X0 hx (t := .boolean) Bd.returns (by simp) (hb hby d2_81) hr
          · show Q2 Z p0 h0 n0 _ s₁.heap _
            rw [e0]
            exact ⟨congrArg (fun z => some (Value.int z)) (show f2 p0 = (1 : Int32) from (by unfold f2; rw [if_neg hc13_2, if_neg hc21_17, if_pos hc42_26, if_neg hc73_28])).symm, N0, rfl⟩
      · have k31 : own_Go p e below (s₁.setTop (entryFrame m #[(.int p0)] 7)) (s₁.setTop (mkF m 51 #[.val (.int p0), .val (.long (v2_9 p0)), .second, .val (.int (0 : Int32)), .val (.long (v2_36 p0)), .second, .unset] [(.int (lcmpW (v2_36 p0) (10 : Int64)))])) := by
          intro t k
          refine k25 t ?_
          show Steps p.tables e below (s₁.setTop (mkF m 42 #[.val (.int p0), .val (.long (v2_9 p0)), .second, .val (.int (0 : Int32)), .val (.long (v2_36 p0)), .second, .unset] [(.int (lcmpW (v2_36 p0) (0 : Int64)))])) t
          refine XS.ifNo X0.here hx rfl (hb hby d2_42) rfl ((if0 _ _).trans (flt hc42_26).1) ?_
          show Steps p.tables e below (s₁.setTop (mkF m 45 #[.val (.int p0), .val (.long (v2_9 p0)), .second, .val (.int (0 : Int32)), .val (.long (v2_36 p0)), .second, .unset] [])) t
          refine XS.lload X0.here hx rfl (hb hby d2_45) rfl ?_
          show Steps p.tables e below (s₁.setTop (mkF m 47 #[.val (.int p0), .val (.long (v2_9 p0)), .second, .val (.int (0 : Int32)), .val (.long (v2_36 p0)), .second, .unset] [(.long (v2_36 p0))])) t
          refine X0.ldc2Long hx hown (mvT hZ (hw _ (List.mem_of_getElem? (i := 12) rfl))) (g := (mkF m 47 #[.val (.int p0), .val (.long (v2_9 p0)), .second, .val (.int (0 : Int32)), .val (.long (v2_36 p0)), .second, .unset] [(.long (v2_36 p0))])) rfl (hb hby d2_47) _ ?_
          show Steps p.tables e below (s₁.setTop (mkF m 50 #[.val (.int p0), .val (.long (v2_9 p0)), .second, .val (.int (0 : Int32)), .val (.long (v2_36 p0)), .second, .unset] [(.long (10 : Int64)), (.long (v2_36 p0))])) t
          refine XS.lcmp X0.here hx rfl (hb hby d2_50) rfl ?_
          exact k
        by_cases hc51_32 : (lcmpW (v2_36 p0) (10 : Int64)) < (0 : Int32)
        · have k33 : own_Go p e below (s₁.setTop (entryFrame m #[(.int p0)] 7)) (s₁.setTop (mkF m 81 #[.val (.int p0), .val (.long (v2_9 p0)), .second, .val (.int (0 : Int32)), .val (.long (v2_36 p0)), .second, .val (.int (1 : Int32))] [(.int (0 : Int32))])) := by
            intro t k
            refine k31 t ?_
            show Steps p.tables e below (s₁.setTop (mkF m 51 #[.val (.int p0), .val (.long (v2_9 p0)), .second, .val (.int (0 : Int32)), .val (.long (v2_36 p0)), .second, .unset] [(.int (lcmpW (v2_36 p0) (10 : Int64)))])) t
            refine XS.ifNo X0.here hx rfl (hb hby d2_51) rfl ((if0 _ _).trans (tlt hc51_32).2.1) ?_
            show Steps p.tables e below (s₁.setTop (mkF m 54 #[.val (.int p0), .val (.long (v2_9 p0)), .second, .val (.int (0 : Int32)), .val (.long (v2_36 p0)), .second, .unset] [])) t
            refine XS.iconst X0.here hx rfl (hb hby d2_54) ?_
            show Steps p.tables e below (s₁.setTop (mkF m 55 #[.val (.int p0), .val (.long (v2_9 p0)), .second, .val (.int (0 : Int32)), .val (.long (v2_36 p0)), .second, .unset] [(.int (1 : Int32))])) t
            refine XS.goto X0.here hx rfl (pc0 := 55) (pc' := 59) rfl (hb hby d2_55) (by decide) (by decide) ?_
            show Steps p.tables e below (s₁.setTop (mkF m 59 #[.val (.int p0), .val (.long (v2_9 p0)), .second, .val (.int (0 : Int32)), .val (.long (v2_36 p0)), .second, .unset] [(.int (1 : Int32))])) t
            refine XS.istore X0.here hx rfl (hb hby d2_59) rfl (l' := #[.val (.int p0), .val (.long (v2_9 p0)), .second, .val (.int (0 : Int32)), .val (.long (v2_36 p0)), .second, .val (.int (1 : Int32))]) rfl ?_
            show Steps p.tables e below (s₁.setTop (mkF m 61 #[.val (.int p0), .val (.long (v2_9 p0)), .second, .val (.int (0 : Int32)), .val (.long (v2_36 p0)), .second, .val (.int (1 : Int32))] [])) t
            refine XS.iloadN X0.here hx rfl (hb hby d2_61) rfl ?_
            show Steps p.tables e below (s₁.setTop (mkF m 62 #[.val (.int p0), .val (.long (v2_9 p0)), .second, .val (.int (0 : Int32)), .val (.long (v2_36 p0)), .second, .val (.int (1 : Int32))] [(.int (0 : Int32))])) t
            refine XS.ifNo X0.here hx rfl (hb hby d2_62) rfl ((if0 _ _).trans (teq (by decide : (0 : Int32) = (0 : Int32))).2) ?_
            show Steps p.tables e below (s₁.setTop (mkF m 65 #[.val (.int p0), .val (.long (v2_9 p0)), .second, .val (.int (0 : Int32)), .val (.long (v2_36 p0)), .second, .val (.int (1 : Int32))] [])) t
            refine XS.iload X0.here hx rfl (hb hby d2_65) rfl ?_
            show Steps p.tables e below (s₁.setTop (mkF m 67 #[.val (.int p0), .val (.long (v2_9 p0)), .second, .val (.int (0 : Int32)), .val (.long (v2_36 p0)), .second, .val (.int (1 : Int32))] [(.int (1 : Int32))])) t
            refine XS.ifYes X0.here hx rfl (pc0 := 67) (pc' := 80) rfl (hb hby d2_67) rfl ((if0 _ _).trans (feq (by decide : ¬ ((1 : Int32) = (0 : Int32)))).2) (by decide) (by decide) ?_
            show Steps p.tables e below (s₁.setTop (mkF m 80 #[.val (.int p0), .val (.long (v2_9 p0)), .second, .val (.int (0 : Int32)), .val (.long (v2_36 p0)), .second, .val (.int (1 : Int32))] [])) t
            refine XS.iconst X0.here hx rfl (hb hby d2_80) ?_
            exact k
          obtain ⟨fs, hr, hrun, hended, hW, hsame⟩ := X0.leave (v := some (.int (0 : Int32))) (fun h => by rw [Bd.returns] at h; cases h)
          refine ⟨_, _, k33 _ ?_, hrun, hended, _, _, rfl, ?_, ⟨_, rfl⟩, hW, hsame.mono (by decide) (by decide)⟩
          · exact retN X0 hx (t := .boolean) Bd.returns (by simp) (hb hby d2_81) hr
          · show Q2 Z p0 h0 n0 _ s₁.heap _
            rw [e0]
            exact ⟨congrArg (fun z => some (Value.int z)) (show f2 p0 = (0 : Int32) from (by unfold f2; rw [if_neg hc13_2, if_neg hc21_17, if_neg hc42_26, if_pos hc51_32])).symm, N0, rfl⟩
        · have k34 : own_Go p e below (s₁.setTop (entryFrame m #[(.int p0)] 7)) (s₁.setTop (mkF m 73 #[.val (.int p0), .val (.long (v2_9 p0)), .second, .val (.int (0 : Int32)), .val (.long (v2_36 p0)), .second, .val (.int (0 : Int32))] [(.int (32 : Int32)), (.int p0)])) := by
            intro t k
            refine k31 t ?_
            show Steps p.tables e below (s₁.setTop (mkF m 51 #[.val (.int p0), .val (.long (v2_9 p0)), .second, .val (.int (0 : Int32)), .val (.long (v2_36 p0)), .second, .unset] [(.int (lcmpW (v2_36 p0) (10 : Int64)))])) t
            refine XS.ifYes X0.here hx rfl (pc0 := 51) (pc' := 58) rfl (hb hby d2_51) rfl ((if0 _ _).trans (flt hc51_32).2.1) (by decide) (by decide) ?_
            show Steps p.tables e below (s₁.setTop (mkF m 58 #[.val (.int p0), .val (.long (v2_9 p0)), .second, .val (.int (0 : Int32)), .val (.long (v2_36 p0)), .second, .unset] [])) t
            refine XS.iconst X0.here hx rfl (hb hby d2_58) ?_
            show Steps p.tables e below (s₁.setTop (mkF m 59 #[.val (.int p0), .val (.long (v2_9 p0)), .second, .val (.int (0 : Int32)), .val (.long (v2_36 p0)), .second, .unset] [(.int (0 : Int32))])) t
            refine XS.istore X0.here hx rfl (hb hby d2_59) rfl (l' := #[.val (.int p0), .val (.long (v2_9 p0)), .second, .val (.int (0 : Int32)), .val (.long (v2_36 p0)), .second, .val (.int (0 : Int32))]) rfl ?_
            show Steps p.tables e below (s₁.setTop (mkF m 61 #[.val (.int p0), .val (.long (v2_9 p0)), .second, .val (.int (0 : Int32)), .val (.long (v2_36 p0)), .second, .val (.int (0 : Int32))] [])) t
            refine XS.iloadN X0.here hx rfl (hb hby d2_61) rfl ?_
            show Steps p.tables e below (s₁.setTop (mkF m 62 #[.val (.int p0), .val (.long (v2_9 p0)), .second, .val (.int (0 : Int32)), .val (.long (v2_36 p0)), .second, .val (.int (0 : Int32))] [(.int (0 : Int32))])) t
            refine XS.ifNo X0.here hx rfl (hb hby d2_62) rfl ((if0 _ _).trans (teq (by decide : (0 : Int32) = (0 : Int32))).2) ?_
            show Steps p.tables e below (s₁.setTop (mkF m 65 #[.val (.int p0), .val (.long (v2_9 p0)), .second, .val (.int (0 : Int32)), .val (.long (v2_36 p0)), .second, .val (.int (0 : Int32))] [])) t
            refine XS.iload X0.here hx rfl (hb hby d2_65) rfl ?_
            show Steps p.tables e below (s₁.setTop (mkF m 67 #[.val (.int p0), .val (.long (v2_9 p0)), .second, .val (.int (0 : Int32)), .val (.long (v2_36 p0)), .second, .val (.int (0 : Int32))] [(.int (0 : Int32))])) t
            refine XS.ifNo X0.here hx rfl (hb hby d2_67) rfl ((if0 _ _).trans (teq (by decide : (0 : Int32) = (0 : Int32))).2) ?_
            show Steps p.tables e below (s₁.setTop (mkF m 70 #[.val (.int p0), .val (.long (v2_9 p0)), .second, .val (.int (0 : Int32)), .val (.long (v2_36 p0)), .second, .val (.int (0 : Int32))] [])) t
            refine XS.iloadN X0.here hx rfl (hb hby d2_70) rfl ?_
            show Steps p.tables e below (s₁.setTop (mkF m 71 #[.val (.int p0), .val (.long (v2_9 p0)), .second, .val (.int (0 : Int32)), .val (.long (v2_36 p0)), .second, .val (.int (0 : Int32))] [(.int p0)])) t
            refine XS.bipush X0.here hx rfl (hb hby d2_71) ?_
            exact k
          by_cases hc73_35 : p0 = (32 : Int32)
          · have k36 : own_Go p e below (s₁.setTop (entryFrame m #[(.int p0)] 7)) (s₁.setTop (mkF m 81 #[.val (.int p0), .val (.long (v2_9 p0)), .second, .val (.int (0 : Int32)), .val (.long (v2_36 p0)), .second, .val (.int (0 : Int32))] [(.int (0 : Int32))])) := by
              intro t k
              refine k34 t ?_
              show Steps p.tables e below (s₁.setTop (mkF m 73 #[.val (.int p0), .val (.long (v2_9 p0)), .second, .val (.int (0 : Int32)), .val (.long (v2_36 p0)), .second, .val (.int (0 : Int32))] [(.int (32 : Int32)), (.int p0)])) t
              refine XS.icmpYes X0.here hx rfl (pc0 := 73) (pc' := 80) rfl (hb hby d2_73) rfl (teq hc73_35).1 (by decide) (by decide) ?_
              show Steps p.tables e below (s₁.setTop (mkF m 80 #[.val (.int p0), .val (.long (v2_9 p0)), .second, .val (.int (0 : Int32)), .val (.long (v2_36 p0)), .second, .val (.int (0 : Int32))] [])) t
              refine XS.iconst X0.here hx rfl (hb hby d2_80) ?_
              exact k
            obtain ⟨fs, hr, hrun, hended, hW, hsame⟩ := X0.leave (v := some (.int (0 : Int32))) (fun h => by rw [Bd.returns] at h; cases h)
            refine ⟨_, _, k36 _ ?_, hrun, hended, _, _, rfl, ?_, ⟨_, rfl⟩, hW, hsame.mono (by decide) (by decide)⟩
            · exact retN X0 hx (t := .boolean) Bd.returns (by simp) (hb hby d2_81) hr
            · show Q2 Z p0 h0 n0 _ s₁.heap _
              rw [e0]
              exact ⟨congrArg (fun z => some (Value.int z)) (show f2 p0 = (0 : Int32) from (by unfold f2; rw [if_neg hc13_2, if_neg hc21_17, if_neg hc42_26, if_neg hc51_32, if_pos hc73_35])).symm, N0, rfl⟩
          · have k37 : own_Go p e below (s₁.setTop (entryFrame m #[(.int p0)] 7)) (s₁.setTop (mkF m 81 #[.val (.int p0), .val (.long (v2_9 p0)), .second, .val (.int (0 : Int32)), .val (.long (v2_36 p0)), .second, .val (.int (0 : Int32))] [(.int (1 : Int32))])) := by
              intro t k
              refine k34 t ?_
              show Steps p.tables e below (s₁.setTop (mkF m 73 #[.val (.int p0), .val (.long (v2_9 p0)), .second, .val (.int (0 : Int32)), .val (.long (v2_36 p0)), .second, .val (.int (0 : Int32))] [(.int (32 : Int32)), (.int p0)])) t
              refine XS.icmpNo X0.here hx rfl (hb hby d2_73) rfl (feq hc73_35).1 ?_
              show Steps p.tables e below (s₁.setTop (mkF m 76 #[.val (.int p0), .val (.long (v2_9 p0)), .second, .val (.int (0 : Int32)), .val (.long (v2_36 p0)), .second, .val (.int (0 : Int32))] [])) t
              refine XS.iconst X0.here hx rfl (hb hby d2_76) ?_
              show Steps p.tables e below (s₁.setTop (mkF m 77 #[.val (.int p0), .val (.long (v2_9 p0)), .second, .val (.int (0 : Int32)), .val (.long (v2_36 p0)), .second, .val (.int (0 : Int32))] [(.int (1 : Int32))])) t
              refine XS.goto X0.here hx rfl (pc0 := 77) (pc' := 81) rfl (hb hby d2_77) (by decide) (by decide) ?_
              exact k
            obtain ⟨fs, hr, hrun, hended, hW, hsame⟩ := X0.leave (v := some (.int (1 : Int32))) (fun h => by rw [Bd.returns] at h; cases h)
            refine ⟨_, _, k37 _ ?_, hrun, hended, _, _, rfl, ?_, ⟨_, rfl⟩, hW, hsame.mono (by decide) (by decide)⟩
            · exact retN X0 hx (t := .boolean) Bd.returns (by simp) (hb hby d2_81) hr
            · show Q2 Z p0 h0 n0 _ s₁.heap _
              rw [e0]
              exact ⟨congrArg (fun z => some (Value.int z)) (show f2 p0 = (1 : Int32) from (by unfold f2; rw [if_neg hc13_2, if_neg hc21_17, if_neg hc42_26, if_neg hc51_32, if_neg hc73_35])).symm, N0, rfl⟩
theorem pd_0 : parseMethodDescriptor "(I)Z" = some ⟨[.int], some .boolean⟩ := by decide +kernel
theorem ef_0 (m : MethodId) (p0 : Int32) (p1 : Int32) : entryFrame m #[(.int p0), (.int p1)] maxLocals = mkF m 0 #[.val (.int p0), .val (.int p1), .unset, .unset] [] := by first | (simp [entryFrame, mkF, argsToLocals, Value.category, maxLocals]; done) | rfl
def v0_13 (p1 : Int32) : Int32 := (((p1.toUInt32 >>> ((8 : Int32) &&& 31).toUInt32).toInt32) &&& (65535 : Int32))
def f0 (p0 : Int32) (p1 : Int32) : Int32 := (if (f1 p0) = (f2 p0) then (if (f1 (p1 &&& (255 : Int32))) = (f2 (p1 &&& (255 : Int32))) then (if (f1 (v0_13 p1)) = (f2 (v0_13 p1)) then (1 : Int32) else (0 : Int32)) else (0 : Int32)) else (0 : Int32))
def Q0 (Z : State) (p0 : Int32) (p1 : Int32) (h0 : Heap) (n0 : Nat) (v : Option Value) (h : Heap) (L : List Loc) : Prop := v = some (.int (f0 p0 p1)) ∧ Fr n0 L
set_option maxRecDepth 65536 in
set_option maxHeartbeats 40000000 in
theorem rm0 (l : Launch) (Z : State) (a0 : Array Value) (hw : ∀ d ∈ tables_1, d.before a0 Z = true) (ws : List Jvm.Cond) (p0 : Int32) (p1 : Int32) (h0 : Heap) (n0 : Nat) (Z0 : n0 ≤ h0.size) :
    MetFree l x (head1 (Jvm.Cond.code x code maxLocals ret :: ws) room_1) (fun a U => a = #[(.int p0), (.int p1)] ∧ Z.Warmed39 U.vm ∧ U.heap = h0) (fun _ _ _ _ _ => True) (fun _ U o U' => ∃ v L, o = .returned v ∧ Q0 Z p0 p1 h0 n0 v U'.heap L ∧ FrameEnd U o U' L room_1.cells room_1.slots) := by
  refine MetFree.of_bodySF (plainFor_of_name pn_1) hisR ?_
  intro p e s m args below meth c s₁ Bd hml0 hP hK
  obtain ⟨rfl, hZ, hh⟩ := hP
  have hx := Bd.exec
  have hby := Bd.bytes
  have hml : c.maxLocals = 4 := hml0
  have hown : s.vm.findClass "com/example/segmentry/segmentry/io/DelimitersCanBePinLaw" = some m.cls := findClass_of_methodNamed Bd.named
  have hnm := (name_of_methodNamed Bd.named Bd.method).1
  have X0 : Stand p l e room_1 s m #[(.int p0), (.int p1)] below meth c s₁ [] 0 0 := Stand.of_body Bd
  have e0 : s₁.heap = h0 := by rw [← hh, Bd.state]; rfl
  have N0 := Fr.nil n0
  have pre0 : own_Go p e below (s₁.setTop (entryFrame m #[(.int p0), (.int p1)] maxLocals)) (s₁.setTop (mkF m 0 #[.val (.int p0), .val (.int p1), .unset, .unset] [])) := fun t k => castTop (ef_0 m p0 p1) k
  have k1 : own_Go p e below (s₁.setTop (entryFrame m #[(.int p0), (.int p1)] maxLocals)) (s₁.setTop (mkF m 15 #[.val (.int p0), .val (.int p1), .val (.int (p1 &&& (255 : Int32))), .val (.int (v0_13 p1))] [(.int p0)])) := by
    intro t k
    refine pre0 t ?_
    show Steps p.tables e below (s₁.setTop (mkF m 0 #[.val (.int p0), .val (.int p1), .unset, .unset] [])) t
    refine XS.iloadN X0.here hx rfl (hb hby at_0) rfl ?_
    show Steps p.tables e below (s₁.setTop (mkF m 1 #[.val (.int p0), .val (.int p1), .unset, .unset] [(.int p1)])) t
    refine XS.sipush X0.here hx rfl (hb hby at_1) ?_
    show Steps p.tables e below (s₁.setTop (mkF m 4 #[.val (.int p0), .val (.int p1), .unset, .unset] [(.int (255 : Int32)), (.int p1)])) t
    refine XS.iand X0.here hx rfl (hb hby at_4) rfl ?_
    show Steps p.tables e below (s₁.setTop (mkF m 5 #[.val (.int p0), .val (.int p1), .unset, .unset] [(.int (p1 &&& (255 : Int32)))])) t
    refine XS.istoreN X0.here hx rfl (hb hby at_5) rfl (l' := #[.val (.int p0), .val (.int p1), .val (.int (p1 &&& (255 : Int32))), .unset]) rfl ?_
    show Steps p.tables e below (s₁.setTop (mkF m 6 #[.val (.int p0), .val (.int p1), .val (.int (p1 &&& (255 : Int32))), .unset] [])) t
    refine XS.iloadN X0.here hx rfl (hb hby at_6) rfl ?_
    show Steps p.tables e below (s₁.setTop (mkF m 7 #[.val (.int p0), .val (.int p1), .val (.int (p1 &&& (255 : Int32))), .unset] [(.int p1)])) t
    refine XS.bipush X0.here hx rfl (hb hby at_7) ?_
    show Steps p.tables e below (s₁.setTop (mkF m 9 #[.val (.int p0), .val (.int p1), .val (.int (p1 &&& (255 : Int32))), .unset] [(.int (8 : Int32)), (.int p1)])) t
    refine XS.iushr X0.here hx rfl (hb hby at_9) rfl ?_
    show Steps p.tables e below (s₁.setTop (mkF m 10 #[.val (.int p0), .val (.int p1), .val (.int (p1 &&& (255 : Int32))), .unset] [(.int ((p1.toUInt32 >>> ((8 : Int32) &&& 31).toUInt32).toInt32))])) t
    refine X0.ldcInt hx hown (mvT hZ (hw _ (List.mem_of_getElem? (i := 0) rfl))) (g := (mkF m 10 #[.val (.int p0), .val (.int p1), .val (.int (p1 &&& (255 : Int32))), .unset] [(.int ((p1.toUInt32 >>> ((8 : Int32) &&& 31).toUInt32).toInt32))])) rfl (hb hby at_10) _ ?_
    show Steps p.tables e below (s₁.setTop (mkF m 12 #[.val (.int p0), .val (.int p1), .val (.int (p1 &&& (255 : Int32))), .unset] [(.int (65535 : Int32)), (.int ((p1.toUInt32 >>> ((8 : Int32) &&& 31).toUInt32).toInt32))])) t
    refine XS.iand X0.here hx rfl (hb hby at_12) rfl ?_
    show Steps p.tables e below (s₁.setTop (mkF m 13 #[.val (.int p0), .val (.int p1), .val (.int (p1 &&& (255 : Int32))), .unset] [(.int (((p1.toUInt32 >>> ((8 : Int32) &&& 31).toUInt32).toInt32) &&& (65535 : Int32)))])) t
    refine XS.istoreN X0.here hx rfl (hb hby at_13) rfl (l' := #[.val (.int p0), .val (.int p1), .val (.int (p1 &&& (255 : Int32))), .val (.int (v0_13 p1))]) rfl ?_
    show Steps p.tables e below (s₁.setTop (mkF m 14 #[.val (.int p0), .val (.int p1), .val (.int (p1 &&& (255 : Int32))), .val (.int (v0_13 p1))] [])) t
    refine XS.iloadN X0.here hx rfl (hb hby at_14) rfl ?_
    exact k
  obtain ⟨_, _, ⟨T2, L2, kk2, n2⟩, -, X2, ⟨Lc2, hQ2, l2, y2, z2⟩, st2⟩ := Jvm.LawKit.callS X0 hx (y := (⟨"com/example/segmentry/segmentry/io/Delimiters", "canBe", "(I)Z"⟩ : MethodName)) hown (mvT hZ (hw _ (List.mem_of_getElem? (i := 1) rfl))) (mvT hZ (hw _ (List.mem_of_getElem? (i := 2) rfl))) (mvT hZ (hw _ (List.mem_of_getElem? (i := 3) rfl))) (mvT hZ (hw _ (List.mem_of_getElem? (i := 4) rfl))) (by decide) (backOf (W := 0) (rm1 l Z a0 hw [] p0  h0 n0 Z0 ) hZ (hw _ (List.mem_of_getElem? (i := 4) rfl)) (hw _ (List.mem_of_getElem? (i := 3) rfl)) (by decide) (by decide)) (g := (mkF m 15 #[.val (.int p0), .val (.int p1), .val (.int (p1 &&& (255 : Int32))), .val (.int (v0_13 p1))] [(.int p0)])) rfl (by rw [hml]; rfl) (argsL := [(.int p0)]) (rest := []) (lenOf pd_0 rfl) rfl (by show 2 * 0 + _ ≤ _; exact Nat.le_of_eq rfl) (hb hby at_15) (fun _ _ => ⟨rfl, e0, (by decide : 0 + 0 ≤ _), (by decide : 0 + 0 ≤ _)⟩)
  dsimp only [Pt.U, Pt.locs, Pt.cells, Pt.slots] at X2 l2 y2 z2 st2 hQ2
  subst l2 y2 z2
  obtain ⟨rfl, N2q, eh2⟩ := hQ2
  have N2 := Fr.app N0 N2q
  have k3 : own_Go p e below (s₁.setTop (entryFrame m #[(.int p0), (.int p1)] maxLocals)) (T2.setTop (mkF m 18 #[.val (.int p0), .val (.int p1), .val (.int (p1 &&& (255 : Int32))), .val (.int (v0_13 p1))] [(.int (f1 p0))])) := fun t k => k1 t (st2 t k)
  have k4 : own_Go p e below (s₁.setTop (entryFrame m #[(.int p0), (.int p1)] maxLocals)) (T2.setTop (mkF m 19 #[.val (.int p0), .val (.int p1), .val (.int (p1 &&& (255 : Int32))), .val (.int (v0_13 p1))] [(.int p0), (.int (f1 p0))])) := by
    intro t k
    refine k3 t ?_
    show Steps p.tables e below (T2.setTop (mkF m 18 #[.val (.int p0), .val (.int p1), .val (.int (p1 &&& (255 : Int32))), .val (.int (v0_13 p1))] [(.int (f1 p0))])) t
    refine XS.iloadN X2.here hx rfl (hb hby at_18) rfl ?_
    exact k
  obtain ⟨_, _, ⟨T5, L5, kk5, n5⟩, -, X5, ⟨Lc5, hQ5, l5, y5, z5⟩, st5⟩ := Jvm.LawKit.callS X2 hx (y := (⟨"com/example/segmentry/segmentry/io/DelimitersCanBePinLaw", "ref", "(I)Z"⟩ : MethodName)) hown (mvT hZ (hw _ (List.mem_of_getElem? (i := 5) rfl))) (mvT hZ (hw _ (List.mem_of_getElem? (i := 6) rfl))) (mvT hZ (hw _ (List.mem_of_getElem? (i := 7) rfl))) (mvT hZ (hw _ (List.mem_of_getElem? (i := 8) rfl))) (by decide) (backOf (W := 1) (rm2 l Z a0 hw [] p0  h0 n0 Z0 ) hZ (hw _ (List.mem_of_getElem? (i := 8) rfl)) (hw _ (List.mem_of_getElem? (i := 7) rfl)) (by decide) (by decide)) (g := (mkF m 19 #[.val (.int p0), .val (.int p1), .val (.int (p1 &&& (255 : Int32))), .val (.int (v0_13 p1))] [(.int p0), (.int (f1 p0))])) rfl (by rw [hml]; rfl) (argsL := [(.int p0)]) (rest := [(.int (f1 p0))]) (lenOf pd_0 rfl) rfl (by show 2 * 0 + _ ≤ _; exact Nat.le_of_eq rfl) (hb hby at_19) (fun _ _ => ⟨rfl, eh2, (by decide : 0 + 0 ≤ _), (by decide : 0 + 0 ≤ _)⟩)
  dsimp only [Pt.U, Pt.locs, Pt.cells, Pt.slots] at X5 l5 y5 z5 st5 hQ5
  subst l5 y5 z5
  obtain ⟨rfl, N5q, eh5⟩ := hQ5
  have N5 := Fr.app N2 N5q
  have k6 : own_Go p e below (s₁.setTop (entryFrame m #[(.int p0), (.int p1)] maxLocals)) (T5.setTop (mkF m 22 #[.val (.int p0), .val (.int p1), .val (.int (p1 &&& (255 : Int32))), .val (.int (v0_13 p1))] [(.int (f2 p0)), (.int (f1 p0))])) := fun t k => k4 t (st5 t k)
  by_cases hc22_7 : (f1 p0) = (f2 p0)
  · have k8 : own_Go p e below (s₁.setTop (entryFrame m #[(.int p0), (.int p1)] maxLocals)) (T5.setTop (mkF m 26 #[.val (.int p0), .val (.int p1), .val (.int (p1 &&& (255 : Int32))), .val (.int (v0_13 p1))] [(.int (p1 &&& (255 : Int32)))])) := by
      intro t k
      refine k6 t ?_
      show Steps p.tables e below (T5.setTop (mkF m 22 #[.val (.int p0), .val (.int p1), .val (.int (p1 &&& (255 : Int32))), .val (.int (v0_13 p1))] [(.int (f2 p0)), (.int (f1 p0))])) t
      refine XS.icmpNo X5.here hx rfl (hb hby at_22) rfl (teq hc22_7).2 ?_
      show Steps p.tables e below (T5.setTop (mkF m 25 #[.val (.int p0), .val (.int p1), .val (.int (p1 &&& (255 : Int32))), .val (.int (v0_13 p1))] [])) t
      refine XS.iloadN X5.here hx rfl (hb hby at_25) rfl ?_
      exact k
    obtain ⟨_, _, ⟨T9, L9, kk9, n9⟩, -, X9, ⟨Lc9, hQ9, l9, y9, z9⟩, st9⟩ := Jvm.LawKit.callS X5 hx (y := (⟨"com/example/segmentry/segmentry/io/Delimiters", "canBe", "(I)Z"⟩ : MethodName)) hown (mvT hZ (hw _ (List.mem_of_getElem? (i := 1) rfl))) (mvT hZ (hw _ (List.mem_of_getElem? (i := 2) rfl))) (mvT hZ (hw _ (List.mem_of_getElem? (i := 3) rfl))) (mvT hZ (hw _ (List.mem_of_getElem? (i := 4) rfl))) (by decide) (backOf (W := 0) (rm1 l Z a0 hw [] (p1 &&& (255 : Int32))  h0 n0 Z0 ) hZ (hw _ (List.mem_of_getElem? (i := 4) rfl)) (hw _ (List.mem_of_getElem? (i := 3) rfl)) (by decide) (by decide)) (g := (mkF m 26 #[.val (.int p0), .val (.int p1), .val (.int (p1 &&& (255 : Int32))), .val (.int (v0_13 p1))] [(.int (p1 &&& (255 : Int32)))])) rfl (by rw [hml]; rfl) (argsL := [(.int (p1 &&& (255 : Int32)))]) (rest := []) (lenOf pd_0 rfl) rfl (by show 2 * 0 + _ ≤ _; exact Nat.le_of_eq rfl) (hb hby at_26) (fun _ _ => ⟨rfl, eh5, (by decide : 0 + 0 ≤ _), (by decide : 0 + 0 ≤ _)⟩)
    dsimp only [Pt.U, Pt.locs, Pt.cells, Pt.slots] at X9 l9 y9 z9 st9 hQ9
    subst l9 y9 z9
    obtain ⟨rfl, N9q, eh9⟩ := hQ9
    have N9 := Fr.app N5 N9q
    have k10 : own_Go p e below (s₁.setTop (entryFrame m #[(.int p0), (.int p1)] maxLocals)) (T9.setTop (mkF m 29 #[.val (.int p0), .val (.int p1), .val (.int (p1 &&& (255 : Int32))), .val (.int (v0_13 p1))] [(.int (f1 (p1 &&& (255 : Int32))))])) := fun t k => k8 t (st9 t k)
    have k11 : own_Go p e below (s₁.setTop (entryFrame m #[(.int p0), (.int p1)] maxLocals)) (T9.setTop (mkF m 30 #[.val (.int p0), .val (.int p1), .val (.int (p1 &&& (255 : Int32))), .val (.int (v0_13 p1))] [(.int (p1 &&& (255 : Int32))), (.int (f1 (p1 &&& (255 : Int32))))])) := by
      intro t k
      refine k10 t ?_
      show Steps p.tables e below (T9.setTop (mkF m 29 #[.val (.int p0), .val (.int p1), .val (.int (p1 &&& (255 : Int32))), .val (.int (v0_13 p1))] [(.int (f1 (p1 &&& (255 : Int32))))])) t
      refine XS.iloadN X9.here hx rfl (hb hby at_29) rfl ?_
      exact k
    obtain ⟨_, _, ⟨T12, L12, kk12, n12⟩, -, X12, ⟨Lc12, hQ12, l12, y12, z12⟩, st12⟩ := Jvm.LawKit.callS X9 hx (y := (⟨"com/example/segmentry/segmentry/io/DelimitersCanBePinLaw", "ref", "(I)Z"⟩ : MethodName)) hown (mvT hZ (hw _ (List.mem_of_getElem? (i := 5) rfl))) (mvT hZ (hw _ (List.mem_of_getElem? (i := 6) rfl))) (mvT hZ (hw _ (List.mem_of_getElem? (i := 7) rfl))) (mvT hZ (hw _ (List.mem_of_getElem? (i := 8) rfl))) (by decide) (backOf (W := 1) (rm2 l Z a0 hw [] (p1 &&& (255 : Int32))  h0 n0 Z0 ) hZ (hw _ (List.mem_of_getElem? (i := 8) rfl)) (hw _ (List.mem_of_getElem? (i := 7) rfl)) (by decide) (by decide)) (g := (mkF m 30 #[.val (.int p0), .val (.int p1), .val (.int (p1 &&& (255 : Int32))), .val (.int (v0_13 p1))] [(.int (p1 &&& (255 : Int32))), (.int (f1 (p1 &&& (255 : Int32))))])) rfl (by rw [hml]; rfl) (argsL := [(.int (p1 &&& (255 : Int32)))]) (rest := [(.int (f1 (p1 &&& (255 : Int32))))]) (lenOf pd_0 rfl) rfl (by show 2 * 0 + _ ≤ _; exact Nat.le_of_eq rfl) (hb hby at_30) (fun _ _ => ⟨rfl, eh9, (by decide : 0 + 0 ≤ _), (by decide : 0 + 0 ≤ _)⟩)
    dsimp only [Pt.U, Pt.locs, Pt.cells, Pt.slots] at X12 l12 y12 z12 st12 hQ12
    subst l12 y12 z12
    obtain ⟨rfl, N12q, eh12⟩ := hQ12
    have N12 := Fr.app N9 N12q
    have k13 : own_Go p e below (s₁.setTop (entryFrame m #[(.int p0), (.int p1)] maxLocals)) (T12.setTop (mkF m 33 #[.val (.int p0), .val (.int p1), .val (.int (p1 &&& (255 : Int32))), .val (.int (v0_13 p1))] [(.int (f2 (p1 &&& (255 : Int32)))), (.int (f1 (p1 &&& (255 : Int32))))])) := fun t k => k11 t (st12 t k)
    by_cases hc33_14 : (f1 (p1 &&& (255 : Int32))) = (f2 (p1 &&& (255 : Int32)))
    · have k15 : own_Go p e below (s₁.setTop (entryFrame m #[(.int p0), (.int p1)] maxLocals)) (T12.setTop (mkF m 37 #[.val (.int p0), .val (.int p1), .val (.int (p1 &&& (255 : Int32))), .val (.int (v0_13 p1))] [(.int (v0_13 p1))])) := by
        intro t k
        refine k13 t ?_
        show Steps p.tables e below (T12.setTop (mkF m 33 #[.val (.int p0), .val (.int p1), .val (.int (p1 &&& (255 : Int32))), .val (.int (v0_13 p1))] [(.int (f2 (p1 &&& (255 : Int32)))), (.int (f1 (p1 &&& (255 : Int32))))])) t
        refine XS.icmpNo X12.here hx rfl (hb hby at_33) rfl (teq hc33_14).2 ?_
        show Steps p.tables e below (T12.setTop (mkF m 36 #[.val (.int p0), .val (.int p1), .val (.int (p1 &&& (255 : Int32))), .val (.int (v0_13 p1))] [])) t
        refine XS.iloadN X12.here hx rfl (hb hby at_36) rfl ?_
        exact k
      obtain ⟨_, _, ⟨T16, L16, kk16, n16⟩, -, X16, ⟨Lc16, hQ16, l16, y16, z16⟩, st16⟩ := Jvm.LawKit.callS X12 hx (y := (⟨"com/example/segmentry/segmentry/io/Delimiters", "canBe", "(I)Z"⟩ : MethodName)) hown (mvT hZ (hw _ (List.mem_of_getElem? (i := 1) rfl))) (mvT hZ (hw _ (List.mem_of_getElem? (i := 2) rfl))) (mvT hZ (hw _ (List.mem_of_getElem? (i := 3) rfl))) (mvT hZ (hw _ (List.mem_of_getElem? (i := 4) rfl))) (by decide) (backOf (W := 0) (rm1 l Z a0 hw [] (v0_13 p1)  h0 n0 Z0 ) hZ (hw _ (List.mem_of_getElem? (i := 4) rfl)) (hw _ (List.mem_of_getElem? (i := 3) rfl)) (by decide) (by decide)) (g := (mkF m 37 #[.val (.int p0), .val (.int p1), .val (.int (p1 &&& (255 : Int32))), .val (.int (v0_13 p1))] [(.int (v0_13 p1))])) rfl (by rw [hml]; rfl) (argsL := [(.int (v0_13 p1))]) (rest := []) (lenOf pd_0 rfl) rfl (by show 2 * 0 + _ ≤ _; exact Nat.le_of_eq rfl) (hb hby at_37) (fun _ _ => ⟨rfl, eh12, (by decide : 0 + 0 ≤ _), (by decide : 0 + 0 ≤ _)⟩)
      dsimp only [Pt.U, Pt.locs, Pt.cells, Pt.slots] at X16 l16 y16 z16 st16 hQ16
      subst l16 y16 z16
      obtain ⟨rfl, N16q, eh16⟩ := hQ16
      have N16 := Fr.app N12 N16q
      have k17 : own_Go p e below (s₁.setTop (entryFrame m #[(.int p0), (.int p1)] maxLocals)) (T16.setTop (mkF m 40 #[.val (.int p0), .val (.int p1), .val (.int (p1 &&& (255 : Int32))), .val (.int (v0_13 p1))] [(.int (f1 (v0_13 p1)))])) := fun t k => k15 t (st16 t k)
      have k18 : own_Go p e below (s₁.setTop (entryFrame m #[(.int p0), (.int p1)] maxLocals)) (T16.setTop (mkF m 41 #[.val (.int p0), .val (.int p1), .val (.int (p1 &&& (255 : Int32))), .val (.int (v0_13 p1))] [(.int (v0_13 p1)), (.int (f1 (v0_13 p1)))])) := by
        intro t k
        refine k17 t ?_
        show Steps p.tables e below (T16.setTop (mkF m 40 #[.val (.int p0), .val (.int p1), .val (.int (p1 &&& (255 : Int32))), .val (.int (v0_13 p1))] [(.int (f1 (v0_13 p1)))])) t
        refine XS.iloadN X16.here hx rfl (hb hby at_40) rfl ?_
        exact k
      obtain ⟨_, _, ⟨T19, L19, kk19, n19⟩, -, X19, ⟨Lc19, hQ19, l19, y19, z19⟩, st19⟩ := Jvm.LawKit.callS X16 hx (y := (⟨"com/example/segmentry/segmentry/io/DelimitersCanBePinLaw", "ref", "(I)Z"⟩ : MethodName)) hown (mvT hZ (hw _ (List.mem_of_getElem? (i := 5) rfl))) (mvT hZ (hw _ (List.mem_of_getElem? (i := 6) rfl))) (mvT hZ (hw _ (List.mem_of_getElem? (i := 7) rfl))) (mvT hZ (hw _ (List.mem_of_getElem? (i := 8) rfl))) (by decide) (backOf (W := 1) (rm2 l Z a0 hw [] (v0_13 p1)  h0 n0 Z0 ) hZ (hw _ (List.mem_of_getElem? (i := 8) rfl)) (hw _ (List.mem_of_getElem? (i := 7) rfl)) (by decide) (by decide)) (g := (mkF m 41 #[.val (.int p0), .val (.int p1), .val (.int (p1 &&& (255 : Int32))), .val (.int (v0_13 p1))] [(.int (v0_13 p1)), (.int (f1 (v0_13 p1)))])) rfl (by rw [hml]; rfl) (argsL := [(.int (v0_13 p1))]) (rest := [(.int (f1 (v0_13 p1)))]) (lenOf pd_0 rfl) rfl (by show 2 * 0 + _ ≤ _; exact Nat.le_of_eq rfl) (hb hby at_41) (fun _ _ => ⟨rfl, eh16, (by decide : 0 + 0 ≤ _), (by decide : 0 + 0 ≤ _)⟩)
      dsimp only [Pt.U, Pt.locs, Pt.cells, Pt.slots] at X19 l19 y19 z19 st19 hQ19
      subst l19 y19 z19
      obtain ⟨rfl, N19q, eh19⟩ := hQ19
      have N19 := Fr.app N16 N19q
      have k20 : own_Go p e below (s₁.setTop (entryFrame m #[(.int p0), (.int p1)] maxLocals)) (T19.setTop (mkF m 44 #[.val (.int p0), .val (.int p1), .val (.int (p1 &&& (255 : Int32))), .val (.int (v0_13 p1))] [(.int (f2 (v0_13 p1))), (.int (f1 (v0_13 p1)))])) := fun t k => k18 t (st19 t k)
      by_cases hc44_21 : (f1 (v0_13 p1)) = (f2 (v0_13 p1))
      · have k22 : own_Go p e below (s₁.setTop (entryFrame m #[(.int p0), (.int p1)] maxLocals)) (T19.setTop (mkF m 52 #[.val (.int p0), .val (.int p1), .val (.int (p1 &&& (255 : Int32))), .val (.int (v0_13 p1))] [(.int (1 : Int32))])) := by
          intro t k
          refine k20 t ?_
          show Steps p.tables e below (T19.setTop (mkF m 44 #[.val (.int p0), .val (.int p1), .val (.int (p1 &&& (255 : Int32))), .val (.int (v0_13 p1))] [(.int (f2 (v0_13 p1))), (.int (f1 (v0_13 p1)))])) t
          refine XS.icmpNo X19.here hx rfl (hb hby at_44) rfl (teq hc44_21).2 ?_
          show Steps p.tables e below (T19.setTop (mkF m 47 #[.val (.int p0), .val (.int p1), .val (.int (p1 &&& (255 : Int32))), .val (.int (v0_13 p1))] [])) t
          refine XS.iconst X19.here hx rfl (hb hby at_47) ?_
          show Steps p.tables e below (T19.setTop (mkF m 48 #[.val (.int p0), .val (.int p1), .val (.int (p1 &&& (255 : Int32))), .val (.int (v0_13 p1))] [(.int (1 : Int32))])) t
          refine XS.goto X19.here hx rfl (pc0 := 48) (pc' := 52) rfl (hb hby at_48) (by decide) (by decide) ?_
          exact k
        obtain ⟨fs, hr, hrun, hended, hW, hsame⟩ := X19.leave (v := some (.int (1 : Int32))) (fun h => by rw [Bd.returns] at h; cases h)
        refine ⟨_, _, k22 _ ?_, hrun, hended, _, _, rfl, ?_, ⟨_, rfl⟩, hW, hsame.mono (by decide) (by decide)⟩
        · exact retN X19 hx (t := .boolean) Bd.returns (by simp) (hb hby at_52) hr
        · show Q0 Z p0 p1 h0 n0 _ T19.heap _
          rw [eh19]
          exact ⟨congrArg (fun z => some (Value.int z)) (show f0 p0 p1 = (1 : Int32) from (by unfold f0; rw [if_pos hc22_7, if_pos hc33_14, if_pos hc44_21])).symm, N19⟩
      · have k23 : own_Go p e below (s₁.setTop (entryFrame m #[(.int p0), (.int p1)] maxLocals)) (T19.setTop (mkF m 52 #[.val (.int p0), .val (.int p1), .val (.int (p1 &&& (255 : Int32))), .val (.int (v0_13 p1))] [(.int (0 : Int32))])) := by
          intro t k
          refine k20 t ?_
          show Steps p.tables e below (T19.setTop (mkF m 44 #[.val (.int p0), .val (.int p1), .val (.int (p1 &&& (255 : Int32))), .val (.int (v0_13 p1))] [(.int (f2 (v0_13 p1))), (.int (f1 (v0_13 p1)))])) t
          refine XS.icmpYes X19.here hx rfl (pc0 := 44) (pc' := 51) rfl (hb hby at_44) rfl (feq hc44_21).2 (by decide) (by decide) ?_
          show Steps p.tables e below (T19.setTop (mkF m 51 #[.val (.int p0), .val (.int p1), .val (.int (p1 &&& (255 : Int32))), .val (.int (v0_13 p1))] [])) t
          refine XS.iconst X19.here hx rfl (hb hby at_51) ?_
          exact k
        obtain ⟨fs, hr, hrun, hended, hW, hsame⟩ := X19.leave (v := some (.int (0 : Int32))) (fun h => by rw [Bd.returns] at h; cases h)
        refine ⟨_, _, k23 _ ?_, hrun, hended, _, _, rfl, ?_, ⟨_, rfl⟩, hW, hsame.mono (by decide) (by decide)⟩
        · exact retN X19 hx (t := .boolean) Bd.returns (by simp) (hb hby at_52) hr
        · show Q0 Z p0 p1 h0 n0 _ T19.heap _
          rw [eh19]
          exact ⟨congrArg (fun z => some (Value.int z)) (show f0 p0 p1 = (0 : Int32) from (by unfold f0; rw [if_pos hc22_7, if_pos hc33_14, if_neg hc44_21])).symm, N19⟩
    · have k24 : own_Go p e below (s₁.setTop (entryFrame m #[(.int p0), (.int p1)] maxLocals)) (T12.setTop (mkF m 52 #[.val (.int p0), .val (.int p1), .val (.int (p1 &&& (255 : Int32))), .val (.int (v0_13 p1))] [(.int (0 : Int32))])) := by
        intro t k
        refine k13 t ?_
        show Steps p.tables e below (T12.setTop (mkF m 33 #[.val (.int p0), .val (.int p1), .val (.int (p1 &&& (255 : Int32))), .val (.int (v0_13 p1))] [(.int (f2 (p1 &&& (255 : Int32)))), (.int (f1 (p1 &&& (255 : Int32))))])) t
        refine XS.icmpYes X12.here hx rfl (pc0 := 33) (pc' := 51) rfl (hb hby at_33) rfl (feq hc33_14).2 (by decide) (by decide) ?_
        show Steps p.tables e below (T12.setTop (mkF m 51 #[.val (.int p0), .val (.int p1), .val (.int (p1 &&& (255 : Int32))), .val (.int (v0_13 p1))] [])) t
        refine XS.iconst X12.here hx rfl (hb hby at_51) ?_
        exact k
      obtain ⟨fs, hr, hrun, hended, hW, hsame⟩ := X12.leave (v := some (.int (0 : Int32))) (fun h => by rw [Bd.returns] at h; cases h)
      refine ⟨_, _, k24 _ ?_, hrun, hended, _, _, rfl, ?_, ⟨_, rfl⟩, hW, hsame.mono (by decide) (by decide)⟩
      · exact retN X12 hx (t := .boolean) Bd.returns (by simp) (hb hby at_52) hr
      · show Q0 Z p0 p1 h0 n0 _ T12.heap _
        rw [eh12]
        exact ⟨congrArg (fun z => some (Value.int z)) (show f0 p0 p1 = (0 : Int32) from (by unfold f0; rw [if_pos hc22_7, if_neg hc33_14])).symm, N12⟩
  · have k25 : own_Go p e below (s₁.setTop (entryFrame m #[(.int p0), (.int p1)] maxLocals)) (T5.setTop (mkF m 52 #[.val (.int p0), .val (.int p1), .val (.int (p1 &&& (255 : Int32))), .val (.int (v0_13 p1))] [(.int (0 : Int32))])) := by
      intro t k
      refine k6 t ?_
      show Steps p.tables e below (T5.setTop (mkF m 22 #[.val (.int p0), .val (.int p1), .val (.int (p1 &&& (255 : Int32))), .val (.int (v0_13 p1))] [(.int (f2 p0)), (.int (f1 p0))])) t
      refine XS.icmpYes X5.here hx rfl (pc0 := 22) (pc' := 51) rfl (hb hby at_22) rfl (feq hc22_7).2 (by decide) (by decide) ?_
      show Steps p.tables e below (T5.setTop (mkF m 51 #[.val (.int p0), .val (.int p1), .val (.int (p1 &&& (255 : Int32))), .val (.int (v0_13 p1))] [])) t
      refine XS.iconst X5.here hx rfl (hb hby at_51) ?_
      exact k
    obtain ⟨fs, hr, hrun, hended, hW, hsame⟩ := X5.leave (v := some (.int (0 : Int32))) (fun h => by rw [Bd.returns] at h; cases h)
    refine ⟨_, _, k25 _ ?_, hrun, hended, _, _, rfl, ?_, ⟨_, rfl⟩, hW, hsame.mono (by decide) (by decide)⟩
    · exact retN X5 hx (t := .boolean) Bd.returns (by simp) (hb hby at_52) hr
    · show Q0 Z p0 p1 h0 n0 _ T5.heap _
      rw [eh5]
      exact ⟨congrArg (fun z => some (Value.int z)) (show f0 p0 p1 = (0 : Int32) from (by unfold f0; rw [if_neg hc22_7])).symm, N5⟩
theorem own_bit5 (b : BitVec 32) : (b.getLsbD 5 = true ∧ b.toInt / 32 % 2 = 1) ∨ (b.getLsbD 5 = false ∧ b.toInt / 32 % 2 = 0) := by
  have h : b.getLsbD 5 = decide (b.toNat / 2 ^ 5 % 2 = 1) := Nat.testBit_eq_decide_div_mod_eq
  have ht := BitVec.toInt_eq_toNat_cond b
  have hl := b.isLt
  by_cases q : b.toNat / 2 ^ 5 % 2 = 1
  · left; refine ⟨by rw [h]; simpa using q, ?_⟩
    split at ht <;> omega
  · right; refine ⟨by rw [h]; simpa using q, ?_⟩
    split at ht <;> omega
theorem own_or32 (c : Int32) : ((c ||| 32).toInt = c.toInt ∧ c.toInt / 32 % 2 = 1) ∨ ((c ||| 32).toInt = c.toInt + 32 ∧ c.toInt / 32 % 2 = 0) := by
  have e : (c ||| 32).toInt = (c.toBitVec ||| BitVec.twoPow 32 5).toInt := rfl
  have e2 : c.toInt = c.toBitVec.toInt := rfl
  rw [e, e2]
  generalize c.toBitVec = b
  rcases own_bit5 b with ⟨h, q⟩ | ⟨h, q⟩
  · left; refine ⟨?_, q⟩
    congr 1
    apply BitVec.eq_of_getLsbD_eq
    intro i hi
    rw [BitVec.getLsbD_or, BitVec.getLsbD_twoPow]
    by_cases hi5 : 5 = i
    · subst hi5; rw [h]; rfl
    · simp [hi5]
  · right; refine ⟨?_, q⟩
    have ha : b &&& BitVec.twoPow 32 5 = 0#32 := by rw [BitVec.and_twoPow, h]; rfl
    rw [← BitVec.add_eq_or_of_and_eq_zero b _ ha, BitVec.toInt_add]
    have hl := BitVec.toInt_lt (x := b)
    have hg := BitVec.le_toInt b
    have t5 : (BitVec.twoPow 32 5).toInt = 32 := by decide
    rw [t5]
    exact Jvm.Kit.bmod32 (by omega) (by omega)
set_option maxHeartbeats 4000000 in
theorem own_feq (c : Int32) : f1 c = f2 c := by
  have ho := own_or32 c
  have hl := Int32.toInt_lt c
  have hg := Int32.le_toInt c
  have e9 : (v2_9 c).toInt = (c ||| 32).toInt - 97 := by
    unfold v2_9
    rw [Jvm.Kit.i64_sub] <;> rw [Jvm.Kit.i64_of_i32] <;> (try rw [show (97 : Int64).toInt = 97 from rfl]) <;> omega
  have e36 : (v2_36 c).toInt = c.toInt - 48 := by
    unfold v2_36
    rw [Jvm.Kit.i64_sub] <;> rw [Jvm.Kit.i64_of_i32] <;> (try rw [show (48 : Int64).toInt = 48 from rfl]) <;> omega
  have h32 : (c = (32 : Int32)) ↔ c.toInt = 32 := by rw [← Int32.toInt_inj]; rfl
  unfold f1 f2
  simp only [lw_lt]
  simp only [Int32.lt_iff_toInt_lt, Int64.lt_iff_toInt_lt, h32, e9, e36, show (65 : Int32).toInt = 65 from rfl, show (90 : Int32).toInt = 90 from rfl, show (97 : Int32).toInt = 97 from rfl, show (122 : Int32).toInt = 122 from rfl, show (48 : Int32).toInt = 48 from rfl, show (57 : Int32).toInt = 57 from rfl, show (32 : Int32).toInt = 32 from rfl, show (0 : Int64).toInt = 0 from rfl, show (26 : Int64).toInt = 26 from rfl, show (10 : Int64).toInt = 10 from rfl]
  clear e9 e36 h32
  generalize (c ||| 32).toInt = o at *
  generalize c.toInt = n at *
  repeat' split
  all_goals first | rfl | (exfalso; omega)
theorem own_law (a b : Int32) : f0 a b = 1 := by
  unfold f0
  rw [if_pos (own_feq _), if_pos (own_feq _), if_pos (own_feq _)]

set_option maxRecDepth 65536 in
set_option maxHeartbeats 40000000 in
theorem comes_1 {Post : Tables → Env → Array Value → State → Outcome → State → Prop} (hpost : ∀ tb e args s v u, (limb_1_1.after args s (.returned v) u = true ∧ limb_1_2.after args s (.returned v) u = true ∧ True) → FrameEnd s (.returned v) u (Jvm.fieldLocs frame_1_writes args s ++ Jvm.arrayLocs frame_1_arrays args s ++ Jvm.staticLocs frame_1_statics s) 0 0 → Post tb e args s (.returned v) u) :
    ArmFor flags0 classFile x code maxLocals ret World_1 tables_1 room_1 Calls_1 rest_1 Pre_1 Post := by
  intro l hfl _ _ p e ha hc hk s m args below hf hA hF happ hP
  obtain ⟨hcalls, hrest, hpre⟩ := hP
  obtain ⟨-, -, -, hnamed, -, -, -, hat⟩ := (Spec.applies_iff hf).mp happ
  obtain ⟨hg, hn⟩ := and_e (Cond.before_iff.mp (show (Jvm.Cond.and given_1 narrow_1).before args s = true from hpre))
  obtain ⟨u1, u2⟩ := and_e hg
  obtain ⟨u3, u4⟩ := and_e u2
  obtain ⟨w0, w1, rfl⟩ : ∃ w0 w1 : Value, args = #[w0, w1] := by
    have hs : args.size = 2 := by simpa [Cond.value, given_1] using u1
    obtain ⟨L⟩ := args
    match L, hs with
    | [w0, w1], _ => exact ⟨w0, w1, rfl⟩
  have hw := fun d (hd : d ∈ tables_1) => atoms_spec (ws := Jvm.Cond.code x code maxLocals ret :: tables_1) hat d (List.mem_cons_of_mem _ hd)
  have hfit : Fit s := fun {y c} hc i hi => by
    obtain ⟨ha, rfl⟩ := Array.getElem?_eq_some_iff.mp hc
    have q := List.all_eq_true.mp ((Array.all_eq_true_iff_forall_mem.mp hF) _ (Array.getElem_mem ha)) i (List.mem_range.mpr hi)
    simpa [Array.getElem?_eq_getElem hi] using q
  obtain ⟨i0, ei0⟩ := is_v u3
  obtain rfl : w0 = (.int i0) := Option.some.inj ei0
  obtain ⟨i1, ei1⟩ := is_v u4
  obtain rfl : w1 = (.int i1) := Option.some.inj ei1
  obtain ⟨n, o, h1, h2, h3, v, L, rfl, ⟨hv, N⟩, hq⟩ := rm0 l s _ hw tables_1 i0 i1  s.heap s.heap.size (Nat.le_refl _)  p e ha hc hk s m _ below hf ((Spec.applies_iff_loose hf).mp happ).1 ⟨rfl, State.Warmed39.refl s, rfl⟩ trivial
  rw [own_law i0 i1] at hv
  subst hv
  refine ⟨n, _, h1, h2, h3, hpost _ _ _ _ _ _ ⟨Cond.after_iff.mpr rfl, Cond.after_iff.mpr (eq_i res_at (Term.int_eval (1)) rfl), trivial⟩ ⟨hq.1, hq.2.1, (hq.2.2.sift fun y hy => Or.inr (N y hy)).mono (by decide) (by decide)⟩⟩
theorem main_1_1 : Claimed_1_1 := comes_1 fun _ _ _ _ _ _ h hF => ⟨h.1, hF⟩
theorem main_1_2 : Claimed_1_2 := comes_1 fun _ _ _ _ _ _ h hF => ⟨h.2.1, hF⟩
end Jvm.Pilot.@@N@@
namespace Jvm.Pilot.@@N@@
open Jvm Jvm.ClassFile Sem Op Lib Jvm.Free Jvm.Stand Jvm.Pilot.@@N@@.Jvm.D
/-! MADE BY PROGRAM (witnessworld.py) out of the Statement's table words and the real class files: 10 classes; the members and pool entries that the words name. The judged class is class 1, her method 2. -/
namespace start1
open Jvm.ClassFile
def u (s : String) : CpInfo := .utf8 (stringToUtf16 s)
/-- a pool by its gaps: so many unusable entries, then the entry; so many at the end -/
def gap : Nat → List CpInfo → List CpInfo
  | 0, r => r
  | n + 1, r => .unusable :: gap n r
def poolList (es : List (Nat × CpInfo)) (last : Nat) : List CpInfo := es.foldr (fun e r => gap e.1 (e.2 :: r)) (gap last [])
def pool (es : List (Nat × CpInfo)) (last : Nat) : Array CpInfo := ⟨poolList es last⟩
def fileOf (pool : Array CpInfo) (this : Nat) (attrs : Array Attribute := #[]) (ms : Array MethodInfo := #[]) (fl : Nat := 33) (sup : Nat := 0) (ifs : Array Nat := #[]) (fds : Array FieldInfo := #[]) : ClassFile where
  minorVersion := 0
  majorVersion := 65
  constantPool := pool
  accessFlags := fl
  thisClass := this
  superClass := sup
  interfaces := ifs
  fields := fds
  methods := ms
  attributes := attrs
def plain (name : String) (sup : Option ClassId) : Class where
  name := name
  kind := .ordinary
  loader := none
  accessFlags := 33
  super := sup
  interfaces := #[]
  cf := none
  fields := #[]
  methods := #[]
  instanceTypes := #[]
  staticTypes := #[]
  resolved := #[]
  callSites := []
  init := .initialized
  statics := none
  mirror := none

def pool0 : Array CpInfo := pool [(5, u "<init>"), (0, u "()V"), (1, .class_ 10), (1, u "java/lang/Object")] 113

def k0m0 : Method := { name := "<init>", desc := "()V", sig := { parameters := [], returnType := none }, accessFlags := 1, code := none }
/-- java/lang/Object -/
def k0 : Class := { plain "java/lang/Object" none with
  accessFlags := 33
  interfaces := #[]
  cf := some (fileOf pool0 8 #[] #[{ accessFlags := 1, nameIndex := 5, descriptorIndex := 6, attributes := #[] }] 33 0 #[] #[])
  fields := #[]
  methods := #[k0m0]
  instanceTypes := #[]
  staticTypes := #[]
  resolved := Array.replicate 124 none
  statics := none }

def pool1 : Array CpInfo := pool [(2, .class_ 4), (1, u "java/lang/Object"), (0, u "<init>"), (0, u "()V"), (0, .long 97), (1, .long 26), (1, .long 48), (1, .long 10), (1, .integer 65535), (0, .methodref 17 18), (0, .class_ 19), (0, .nameAndType 20 21), (0, u "com/example/segmentry/segmentry/io/Delimiters"), (0, u "canBe"), (0, u "(I)Z"), (0, .methodref 23 24), (0, .class_ 25), (0, .nameAndType 26 21), (0, u "com/example/segmentry/segmentry/io/DelimitersCanBePinLaw"), (0, u "ref"), (3, u "law"), (0, u "(II)Z")] 2

def k1m0 : Method := { name := "<init>", desc := "()V", sig := { parameters := [], returnType := none }, accessFlags := 2, code := none }
def k1c1 : Code := { maxStack := 4, maxLocals := 7, code := method_2_code, exceptionTable := #[], attributes := #[] }
def k1m1 : Method := { name := "ref", desc := "(I)Z", sig := { parameters := [.int], returnType := some .boolean }, accessFlags := 10, code := some k1c1 }
def k1c2 : Code := { maxStack := 2, maxLocals := 4, code := code, exceptionTable := #[], attributes := #[] }
def k1m2 : Method := { name := "law", desc := "(II)Z", sig := { parameters := [.int, .int], returnType := some .boolean }, accessFlags := 9, code := some k1c2 }
/-- com/example/segmentry/segmentry/io/DelimitersCanBePinLaw -/
def k1 : Class := { plain "com/example/segmentry/segmentry/io/DelimitersCanBePinLaw" (some 0) with
  accessFlags := 49
  interfaces := #[]
  cf := some (fileOf pool1 23 #[] #[{ accessFlags := 2, nameIndex := 5, descriptorIndex := 6, attributes := #[] }, { accessFlags := 10, nameIndex := 26, descriptorIndex := 21, attributes := #[] }, { accessFlags := 9, nameIndex := 30, descriptorIndex := 31, attributes := #[] }] 49 2 #[] #[])
  fields := #[]
  methods := #[k1m0, k1m1, k1m2]
  instanceTypes := #[]
  staticTypes := #[]
  resolved := Array.replicate 34 none
  statics := none }

def pool2 : Array CpInfo := pool [(2, .class_ 4), (1, u "java/lang/Object"), (0, u "<init>"), (0, u "()V"), (0, .class_ 8), (0, u "java/lang/Record")] 13

def k2m0 : Method := { name := "<init>", desc := "()V", sig := { parameters := [], returnType := none }, accessFlags := 4, code := none }
/-- java/lang/Record -/
def k2 : Class := { plain "java/lang/Record" (some 0) with
  accessFlags := 1057
  interfaces := #[]
  cf := some (fileOf pool2 7 #[] #[{ accessFlags := 4, nameIndex := 5, descriptorIndex := 6, attributes := #[] }] 1057 2 #[] #[])
  fields := #[]
  methods := #[k2m0]
  instanceTypes := #[]
  staticTypes := #[]
  resolved := Array.replicate 22 none
  statics := none }

def pool3 : Array CpInfo := pool [(2, .class_ 4), (1, u "java/lang/Record"), (3, .class_ 10), (1, u "com/example/segmentry/segmentry/io/Delimiters"), (0, u "element"), (0, u "C"), (2, u "component"), (2, u "segment"), (26, u "canBe"), (0, u "(I)Z")] 28

def k3c0 : Code := { maxStack := 2, maxLocals := 2, code := prog_18_method_2_code, exceptionTable := #[], attributes := #[] }
def k3m0 : Method := { name := "canBe", desc := "(I)Z", sig := { parameters := [.int], returnType := some .boolean }, accessFlags := 9, code := some k3c0 }
/-- com/example/segmentry/segmentry/io/Delimiters -/
def k3 : Class := { plain "com/example/segmentry/segmentry/io/Delimiters" (some 2) with
  accessFlags := 49
  interfaces := #[]
  cf := some (fileOf pool3 8 #[] #[{ accessFlags := 9, nameIndex := 45, descriptorIndex := 46, attributes := #[] }] 49 2 #[] #[{ accessFlags := 18, nameIndex := 11, descriptorIndex := 12, attributes := #[] }, { accessFlags := 18, nameIndex := 15, descriptorIndex := 12, attributes := #[] }, { accessFlags := 18, nameIndex := 18, descriptorIndex := 12, attributes := #[] }])
  fields := #[{ name := "element", type := .char, accessFlags := 18, slot := 0, constantValue := 0 }, { name := "component", type := .char, accessFlags := 18, slot := 1, constantValue := 0 }, { name := "segment", type := .char, accessFlags := 18, slot := 2, constantValue := 0 }]
  methods := #[k3m0]
  instanceTypes := #[.char, .char, .char]
  staticTypes := #[]
  resolved := Array.replicate 75 none
  statics := none }

def pool4 : Array CpInfo := pool [(1, u "java/lang/Cloneable"), (0, .class_ 1), (0, u "java/lang/Object"), (0, .class_ 3)] 3

/-- java/lang/Cloneable -/
def k4 : Class := { plain "java/lang/Cloneable" (some 0) with
  accessFlags := 1537
  interfaces := #[]
  cf := some (fileOf pool4 2 #[] #[] 1537 4 #[] #[])
  fields := #[]
  methods := #[]
  instanceTypes := #[]
  staticTypes := #[]
  resolved := Array.replicate 8 none
  statics := none }

def pool5 : Array CpInfo := pool [(1, u "java/io/Serializable"), (0, .class_ 1), (0, u "java/lang/Object"), (0, .class_ 3)] 3

/-- java/io/Serializable -/
def k5 : Class := { plain "java/io/Serializable" (some 0) with
  accessFlags := 1537
  interfaces := #[]
  cf := some (fileOf pool5 2 #[] #[] 1537 4 #[] #[])
  fields := #[]
  methods := #[]
  instanceTypes := #[]
  staticTypes := #[]
  resolved := Array.replicate 8 none
  statics := none }

/-- the primitive byte -/
def k6 : Class := { plain "byte" none with kind := .primitive 'B', accessFlags := 0x411 }
/-- [B -/
def k7 : Class := { plain "[B" (some 0) with kind := .array 6 .byte, interfaces := #[4, 5], accessFlags := 1041 }

/-- the primitive int -/
def k8 : Class := { plain "int" none with kind := .primitive 'I', accessFlags := 0x411 }
/-- [I -/
def k9 : Class := { plain "[I" (some 0) with kind := .array 8 .int, interfaces := #[4, 5], accessFlags := 1041 }

def heap : Heap := #[]
def classes : Array Class := #[k0, k1, k2, k3, k4, k5, k6, k7, k8, k9]
def interned : List (Array UInt16 × Addr) := []
def slotsUsed : Nat := 0
def theMethod : MethodId := ⟨1, 2⟩
def args0 : Array Value := #[.int 65, .int 7]
def aboutOver (below : List Frame) : State where
  vm := { classes := classes, interned := interned.toArray }
  heap := heap
  slotsUsed := slotsUsed
  threads := #[{ frames := .invoking theMethod args0 :: below }]
def below0 : List Frame := [.native { method := ⟨0, 0⟩, args := #[] }]
def about1 : State := aboutOver below0
def p0 : Program := .bare "" "" ""
def e0 : Env := launch0.env 0 0 0
theorem w_frames : about1.frames = Frame.invoking theMethod args0 :: below0 := rfl
set_option maxRecDepth 65536 in
theorem w_args : argsFit about1.vm theMethod args0 = true := by decide +kernel
set_option maxRecDepth 65536 in
theorem w_heap : heapFits about1 = true := by decide +kernel
set_option maxRecDepth 65536 in
theorem w_runnable : about1.curStatus? = some .runnable := by decide +kernel
set_option maxRecDepth 65536 in
theorem w_alone : about1.alone = true := by decide +kernel
set_option maxRecDepth 65536 in
theorem w_named : about1.methodNamed? x = some theMethod := by decide +kernel
set_option maxRecDepth 65536 in
theorem w_hears : about1.hears theMethod below0 = true := by decide +kernel
set_option maxRecDepth 65536 in
theorem w_ripe : about1.ripe theMethod args0 below0 = true := by decide +kernel
theorem w_running : about1.status = .running := rfl
set_option maxRecDepth 65536 in
theorem w_room : about1.hasRoom e0.platform room_1 = true :=
  launch0.hasRoom_least _ room_1 (by decide +kernel) (by decide +kernel) (by decide +kernel) (by decide +kernel) (by decide +kernel) (by decide +kernel)
theorem allAtoms_all (ts : List Jvm.Cond) (a : Array Jvm.Value) (st : Jvm.State) : (allAtoms ts).before a st = ts.all (fun c => c.before a st) := by
  induction ts with
  | nil => rfl
  | cons c t ih =>
    show (Jvm.Cond.and c (allAtoms t)).before a st = _
    rw [Jvm.Cond.before_and, ih, List.all_cons]
def words1 : List Jvm.Cond := Jvm.Cond.code x code maxLocals ret :: tables_1
/-- a 'code' word, met by the world's own term for the bytes: nothing is compared byte by byte -/
theorem code_word {y : MethodName} {bytes : ByteArray} {mx : Nat} {rt : Option FieldType} {a : Array Value} {s : State} {m : MethodId} {meth : Method} {c : Code} (h1 : s.methodNamed? y = some m) (h2 : s.vm.method? m = some meth) (h3 : meth.code = some c) (h4 : c.code = bytes)
    (h5 : (c.maxLocals == mx && c.exceptionTable.isEmpty && decide (c.maxStack ≤ mostOperands) && decide (meth.sig.returnType = rt) && !meth.locks && decide (parseMethodDescriptor y.desc = some meth.sig)) = true) : (Jvm.Cond.code y bytes mx rt).before a s = true := by
  simp only [Bool.and_eq_true, beq_iff_eq, Bool.not_eq_true', decide_eq_true_eq] at h5
  obtain ⟨⟨⟨⟨⟨g1, g2⟩, g3⟩, g4⟩, g5⟩, g6⟩ := h5
  simp [Cond.before, Cond.holds, Cond.value, h1, h2, h3, h4, g1, g2, g3, g4, g5, g6]
def isCode : Jvm.Cond → Bool
  | .code _ _ _ _ => true
  | _ => false
theorem all_split {L : List Jvm.Cond} {P : Jvm.Cond → Bool} (h1 : L.all (fun c => isCode c || P c) = true) (h2 : ∀ c ∈ L.filter isCode, P c = true) : L.all P = true := by
  refine List.all_eq_true.mpr fun c hc => ?_
  have h := List.all_eq_true.mp h1 c hc
  rcases Bool.eq_false_or_eq_true (isCode c) with hi | hi
  · exact h2 c (List.mem_filter.mpr ⟨hc, hi⟩)
  · simpa [hi] using h
set_option maxRecDepth 65536 in
theorem w_c0 : (Jvm.Cond.code x code maxLocals ret).before args0 about1 = true := code_word (m := ⟨1, 2⟩) (meth := k1m2) (c := k1c2) (by decide +kernel) rfl rfl rfl (by decide +kernel)
set_option maxRecDepth 65536 in
theorem w_c1 : (Jvm.Cond.code ({ cls := "com/example/segmentry/segmentry/io/Delimiters", name := "canBe", desc := "(I)Z" } : Jvm.MethodName) prog_18_method_2_code (2 : Nat) (Option.some Jvm.ClassFile.FieldType.boolean)).before args0 about1 = true := code_word (m := ⟨3, 0⟩) (meth := k3m0) (c := k3c0) (by decide +kernel) rfl rfl rfl (by decide +kernel)
set_option maxRecDepth 65536 in
theorem w_c2 : (Jvm.Cond.code ({ cls := "com/example/segmentry/segmentry/io/DelimitersCanBePinLaw", name := "ref", desc := "(I)Z" } : Jvm.MethodName) method_2_code (7 : Nat) (Option.some Jvm.ClassFile.FieldType.boolean)).before args0 about1 = true := code_word (m := ⟨1, 1⟩) (meth := k1m1) (c := k1c1) (by decide +kernel) rfl rfl rfl (by decide +kernel)
def codes1 : List Jvm.Cond := [Jvm.Cond.code x code maxLocals ret, Jvm.Cond.code ({ cls := "com/example/segmentry/segmentry/io/Delimiters", name := "canBe", desc := "(I)Z" } : Jvm.MethodName) prog_18_method_2_code (2 : Nat) (Option.some Jvm.ClassFile.FieldType.boolean), Jvm.Cond.code ({ cls := "com/example/segmentry/segmentry/io/DelimitersCanBePinLaw", name := "ref", desc := "(I)Z" } : Jvm.MethodName) method_2_code (7 : Nat) (Option.some Jvm.ClassFile.FieldType.boolean)]
set_option maxRecDepth 65536 in
theorem codes_eq : words1.filter isCode = codes1 := rfl
theorem w_codes : ∀ c ∈ words1.filter isCode, c.before args0 about1 = true := by
  rw [codes_eq]
  intro c hc
  simp only [codes1, List.mem_cons, List.not_mem_nil, or_false] at hc
  rcases hc with rfl | rfl | rfl
  · exact w_c0
  · exact w_c1
  · exact w_c2
set_option maxRecDepth 65536 in
theorem w_t1 : words1.all (fun c => isCode c || c.before args0 about1) = true := by decide +kernel
theorem w_tables : (allAtoms (Jvm.Cond.code x code maxLocals ret :: tables_1)).before args0 about1 = true := by
  rw [allAtoms_all]
  show words1.all (fun c => c.before args0 about1) = true
  refine all_split ?_ w_codes
  rw [w_t1]
set_option maxRecDepth 65536 in
theorem w_case : (Jvm.Cond.and given_1 narrow_1).before args0 about1 = true := by decide +kernel
theorem w_applies : (headSpec (Jvm.Cond.code x code maxLocals ret :: tables_1) room_1).applies x e0.platform about1 = true :=
  (Spec.applies_iff w_frames).mpr ⟨w_running, w_runnable, w_alone, w_named, w_hears, w_ripe, w_room, w_tables⟩
theorem atStart : AtStart classFile x code maxLocals ret World_1 tables_1 room_1 Calls_1 rest_1 Pre_1 launch0 p0 e0 about1 theMethod args0 below0 :=
  ⟨lists_1, trivial, launch0.admits_env _ _ _, launch0.least_env, fairChoices_fair.cas, fairChoices_fair.clock, w_frames, w_args, w_heap, w_applies, trivial, trivial, w_case⟩
end start1
theorem witness_1 : WitnessClaimed_1 := ⟨start1.p0, start1.e0, start1.about1, start1.theMethod, start1.args0, start1.below0, start1.atStart⟩
end Jvm.Pilot.@@N@@
